import PyProof.Rows.All
import Wide.All
import OpenK.AllK
import Wide.FinOn
import Lean
import PySem.Challenge.RW_oc0336_01
set_option Elab.async false
set_option maxRecDepth 100000
set_option linter.unusedVariables false
set_option linter.unusedSimpArgs false
set_option linter.unusedSectionVars false
set_option genSizeOf false
set_option genInjectivity false
set_option tactic.hygienic false
namespace Mine
open PySem PySem.W PyProof.Rows PySem.Calls
open _root_.PySem renaming wpAny_bind→Aa,wpAny_pure→Ad,wpAny_holding→Ax,wpAny_mono→AC,wpAny_of_eq→Bi,wpAny_standAt→Bu,codeAny_builtin→B0,wpAny_field→BF,wpAny_call→BL,codeAny_call_builtin→BV,wpAny_newObj_type→BZ,wpAny_items_cons→Ck,codeAny_mono→Cu,wpAny_items_nil→Cv,sizeLine_eq→CB,wpAny_call_entry→CU,slot_listiter_next→Da,wpAny_specialOf→Dg,slot_list_getitem→Dn,wpAny_loadPart→Dv,codeAny_call_builtin_code→Dw,entryFor_of_tree→Dx,wpAny_seqItems→DP,wpAny_attempt→DX,plainId_quiet→DY,entry_listiter_next→Eh,builtinType_eq_fast→Ei,wpAny_mkText→Eu,isSubtype_type→E0,wpAny_truthy_bool→EA,wpAny_rule→EB,slot_list_setitem→EC,call_meets→ED,wpAt→EG,wpAny_callSpecial?_slot→EM,wpAny_isInstance→EP,wpAny_updateSeq→EZ,wpAny_typeOf→Fb,ks_wpAt_mono→Fc,codeAny_call_function→Fd,builtinLookup_eq_fast→Fe,wpAny_setField→Fs,ks_wpAt_execs_cons→F4,wpAny_collect_seq→FD,typeIs_int→FE,call→FM,wpAny_updatePart→FU,wpAny_execs_cons→FV,wpAny_askSetting→FW,typeLookup_type→Gk,codeAny_of_tree→Gm,am_entry_list_getattribute→Gy,wpAny_listPart→G5,slot_list_iter→G6,wpAny_comprehension_free→GG,wpAny_Name→GH,wpAny_listSubscript_int→GX
open _root_.Nat renaming le_trans→Ab,lt_of_le_of_lt→Ag,le_refl→Ak,lt_of_lt_of_le→An,le_of_lt→Ay,le_of_eq→A1,le_add_right→A3,zero_le→A4,lt_of_succ_lt→AA,succ_le_succ→AB,ne_of_lt→AE,ne_of_gt→AG,lt_of_lt_of_eq→AJ,le_succ_of_le→AK,lt_succ_of_lt→AQ,add_le_add_left→AS,lt_succ_self→AY,not_lt→Bh,add_le_add→Bk,sub_le→Bp,sub_one_lt_of_lt→Br,lt_succ_of_le→B1,le_of_lt_succ→B2,le_sub_one_of_lt→B6,le_mul_of_pos_left→B9,lt_trans→BK,le_succ→BP,add_comm→BU,sub_pos_of_lt→BX,sub_add_cancel→Cc,min_le_right→Cd,min_eq_right→Ce,add_le_add_right→Cg,lt_irrefl→Cm,zero_lt_of_lt→Cp,lt_or_eq_of_le→C3,le_add_left→CC,mul_le_mul_left→CL,add_lt_add_left→CM,exists_eq_succ_of_ne_zero→CR,succ_pos→CW,not_lt_zero→CX,min_eq_left→CY,lt_sub_of_add_lt→Dj,add_sub_cancel_left→D3,add_right_comm→D4,le_of_add_left_le→DI,succ_lt_succ→DM,add_assoc→DR,not_le→DS,div_le_self→DV,sub_right_comm→Ed,add_sub_of_le→Eo,add_sub_assoc→Ep,succ_ne_self→E8,le_of_succ_le_succ→EE,le_of_add_right_le→EF,le_of_ble_eq_true→EN,add_pos_right→Fy,succ_ne_zero→F6,sub_sub→FI,le_antisymm→FJ,sub_one_lt→FX,succ_add_eq_add_succ→Ge,sub_lt→Gf,lt_succ_iff_lt_or_eq→Gg,pow_succ'→Gp,lt_add_of_pos_right→Gq,exists_eq_add_of_le→Gr,succ_mul→G8,sub_self→G9,sub_eq_zero_of_le→GA,lt_or_ge→GB,sub_le_sub_right→GL,not_succ_le_self→GN,add_lt_of_lt_sub→GO
open _root_.List renaming getElem?_eq_getElem→Ac,length_map→Ae,getD_eq_getElem?_getD→Af,getElem?_map→Ai,mem_append→Aj,mem_singleton→Al,getElem?_eq_some_iff→Am,mem_cons→Ap,length_set→Aq,map_append→Ar,mem_map→As,mem_of_getElem?→Au,replicate→Az,filter_sublist→A2,range→A5,length_append→A6,length→AH,append_nil→AL,map_cons→AM,length_range→AN,filterMap_map→AP,take_of_length_le→AR,map_map→AU,length_cons→AW,all_eq_true→AX,lookup_cons→Bd,getElem?_eq_none_iff→Bg,pairwise_append→Bj,mem_iff_getElem?→Bl,length_drop→Bn,getElem_mem→Bo,getElem?_append_right→B4,nodup_cons→BA,mem_range→BB,mem_filter→BC,getElem?_append_left→BD,nodup_append→BH,getElem?_eq_none→BI,getElem?_range→BW,getLastD_eq_getLast?→BY,mem_of_mem_take→Cf,map_take→Ci,getElem?_cons_succ→Cj,map_congr_left→Cq,foldl_cons→Cr,find?_cons→Cs,filterMap_cons→Ct,take_append_drop→Cw,pairwise_cons→Cz,mem_filterMap→C0,length_singleton→C1,length_replicate→C2,dropLast_concat→C7,sum_append→C9,length_pos_iff→CF,length_flatten→CG,getElem_of_mem→CH,take_length→CO,getLast?_eq_some_getLast→CP,filter_cons→CQ,map_drop→Dd,append_assoc→De,getLast?_concat→Df,getLast?_eq_getElem?→Dm,length_take→Dp,replicate_succ→Ds,length_filterMap_le→Dt,length_nil→Dy,getElem?_drop→Dz,findIdx?_eq_some_iff_getElem→D0,find?_eq_none→D1,take_sublist→D8,flatten_cons→D9,length_filter_le→DC,findIdx?_toArray→DD,eq_nil_or_concat→DE,eq_nil_iff_forall_not_mem→DF,concat_eq_append→DG,eq_nil_of_length_eq_zero→DL,mem_of_mem_drop→DN,length_take_le'→DO,mem_replicate→Ea,pairwise_iff_getElem→Ee,map_dropLast→Ek,getElem?_take_of_lt→El,pairwise_singleton→Ey,drop_length→E5,any_eq_true→E6,range_succ→EH,getElem?_reverse→EI,forIn_cons→EJ,filterMap_append→EK,mem_map_of_mem→EV,length_reverse→EW,filter_eq_self→EX,ne_nil_of_mem→Fi,map_singleton→Fj,getElem_range→Fk,findIdx?_cons→Fm,take_add_one→Ft,pairwise_map→Fu,filter_congr→Fv,ext_getElem?→Fw,take_append_of_le_length→F0,eraseIdx_length_sub_one→F7,findSome?_eq_none_iff→FK,findIdx?_eq_none_iff→FP,count_set→FQ,length_erase_of_mem→FY,sum_cons→Gh,getLast_eq_getElem→Gi,any_cons→Gj,length_pos_of_mem→Gs,length_eq_one_iff→Gu,getElem_replicate→Gv,singleton_append→Gz,contains_iff_mem→G0,mem_cons_of_mem→GC,length_dropLast→GD,toList_toArray→GP,lookup→GQ,flatten_append→GR
open _root_.PySem.Heap renaming get?_push_size→Ah,get?_push_of_some→AD,lt_size→Ba,get?_update_self→BJ,size_push→Co,SameBut→DH,ExtBut→DT
open _root_.Option renaming map_eq_some_iff→Ao,none→Av,getD_none→BO,bind_some→CE,getD_some→Di,some_ne_none→Dl,isSome_iff_exists→Do,map_eq_none_iff→Ex,map_some→E7,mem_toList→GK
open _root_.Int renaming toNat_natCast→Aw,natCast_nonneg→A7,ofNat_le→Be,le_of_lt→Bf,le_trans→Bw,lt_irrefl→B3,ofNat_lt→B7,lt_of_lt_of_le→B8,not_lt→BE,lt_of_le_of_lt→C4,le_refl→CN,ne_of_lt→CZ,lt_trans→Du,natCast_sub→D5,add_sub_cancel→D6,not_le→DB,le_of_eq→DJ,lt_iff_le_and_ne→DQ,toNat_of_nonneg→DW,max_eq_right→E9,ediv_one→EO,toNat_sub→Fp,sub_add_cancel→Fq,toNat_lt→F1,add_comm→F3,fdiv_eq_ediv_of_nonneg→FS,neg_le_neg→FZ,eq_ofNat_of_zero_le→Gw,le_sub_one_of_lt→GU
open _root_.PySem.Heap.SameBut renaming update→A0
open _root_.PySem.Str renaming ofString→A8,join→GI
open _root_.PySem.Builtin.Range renaming rangeSize→A9,rangeFitsLong→Bq,small→Es
open _root_.Bool renaming and_eq_true→AF,or_eq_true_iff→Bm,not_eq_true'→Bz,false_ne_true→BM,false_eq_true→BN,and_eq_true_iff→BS,or_eq_true→DU,eq_false_iff→Fx,and_false→FT
open _root_.Decidable renaming byContradiction→AI
open _root_.PySem.PyData renaming keyHash→AZ,strOk→Fo,canLay0→FA,depth→Gd,canLayAll0→GJ
open _root_.PySem.Keeper renaming boundFrame→Bc,machine→Bv,frame→BQ
open _root_.PySem.Value renaming none→Bt,isInt_shape→GY
open _root_.PySem.W.Looks renaming of_pure→By
open _root_.PySem.Challenge renaming rw_oc0336_01→B5
open _root_.PySem.W renaming looks_findIn→BG,looks_mroIn→Ca,callWith_of→Dh,plainGet_of→Ef,looks_clsIn→Eg,boot_heap→Ff,check_slot→FG,looks_field→Gl
open _root_.PySem.W.Fast renaming te14364793385576792824→Cb,tw14364793385576792824→Ew,te5923862056798008813→E4
open _root_.PySem.Txt renaming isspace→C5
open _root_.PySem.Obj renaming putName→C6,mapSeq→DA,putNameByArray→Ec,putName_eq→EU,isFreed_of_fields→G7
open _root_.PySem.F renaming slot_list_getattribute→C8,ks_slot_super_ga→DZ,slot_list_append→Em,args_list_getattribute_2→ES,args_list_append_2→Fg,slot_dict_delitem→F5,slot_dict_values→F9,plainAttrs_dict→FH,plain_list_new→FO,slot_list_pop→Ga,slot_range_reversed→GZ
open _root_.PySem.Builtin.List renaming listSubscript?→CJ
open _root_.PySem.Code renaming quiet_builtin→CT
open _root_.Array renaming getElem?_toList→CV,toList_append→Dq,toList_push→D7,any_toList→Ez,isEmpty→Fh,toList_setIfInBounds→FB,getElem?_eq_some_iff→FC,mem_toList_iff→G2,toList_modify→GF,all_eq_true'→GW
open _root_.Ne renaming symm→Dc
open _root_.PySem.Spec renaming sameAll→Dk,same→Ej
open _root_.PySem.NameKind renaming cell→Dr
open _root_.PySem.Manifest renaming signature?→DK
open _root_.PySem.Calls renaming call_function_entry→Eb
open _root_.PyProof renaming noPylong_small→En
open _root_.ForInStep renaming yield→Er
open _root_.PySem.Around renaming under_plainId→EL,frames_deeper→Gx
open _root_.PySem.Bind renaming checkArgs→ER
open _root_.PySem.OldK renaming staticOf_congr→ET
open _root_.Function renaming comp_def→EY
open _root_.PySem.IsL renaming update→Fz
open _root_.Classical renaming axiomOfChoice→F8
open _root_.List.Perm renaming append_left→FL,swap→GS
open _root_.PySem.Reads renaming list→FN
open _root_.PySem.Builtin.Getset_descriptor renaming descrItself→Gc
open _root_.PySem.Flow renaming next→G1
open _root_.PyProof.Rows renaming wpAny_release'→G3,wpAny_operate'→G4
open _root_.PySem.IntMulOk renaming of_left→GE
open _root_.PySem.W.KF renaming slot_mset→GT
open _root_.PySem.Data renaming fields→GV
noncomputable section
section
inductive Ex2 {α β:Type} (p:α->β->Prop):Prop where
 | mk (a:α) (b:β) (h:p a b):Ex2 p
inductive Ex3 {α β γ:Type} (p:α->β->γ->Prop):Prop where
 | mk (a:α) (b:β) (c:γ) (h:p a b c):Ex3 p
inductive Ex4 {α β γ δ:Type} (p:α->β->γ->δ->Prop):Prop where
 | mk (a:α) (b:β) (c:γ) (d:δ) (h:p a b c d):Ex4 p
inductive Ex5 {α β γ δ ε:Type} (p:α->β->γ->δ->ε->Prop):Prop where
 | mk (a:α) (b:β) (c:γ) (d:δ) (e:ε) (h:p a b c d e):Ex5 p
inductive Ex6 {α β γ δ ε ζ:Type} (p:α->β->γ->δ->ε->ζ->Prop):Prop where
 | mk (a:α) (b:β) (c:γ) (d:δ) (e:ε) (f:ζ) (h:p a b c d e f):Ex6 p
inductive Ex7 {α β γ δ ε ζ η:Type} (p:α->β->γ->δ->ε->ζ->η->Prop):Prop where
 | mk (a:α) (b:β) (c:γ) (d:δ) (e:ε) (f:ζ) (g:η) (h:p a b c d e f g):Ex7 p
inductive Ex8 {α β γ δ ε ζ η θ:Type} (p:α->β->γ->δ->ε->ζ->η->θ->Prop):Prop where
 | mk (a:α) (b:β) (c:γ) (d:δ) (e:ε) (f:ζ) (g:η) (i:θ) (h:p a b c d e f g i):Ex8 p
inductive An3 (a b c:Prop):Prop where
 | mk (h1:a) (h2:b) (h3:c):An3 a b c
inductive An4 (a b c d:Prop):Prop where
 | mk (h1:a) (h2:b) (h3:c) (h4:d):An4 a b c d
inductive An5 (a b c d e:Prop):Prop where
 | mk (h1:a) (h2:b) (h3:c) (h4:d) (h5:e):An5 a b c d e
inductive An6 (a b c d e f:Prop):Prop where
 | mk (h1:a) (h2:b) (h3:c) (h4:d) (h5:e) (h6:f):An6 a b c d e f
inductive An7 (a b c d e f g:Prop):Prop where
 | mk (h1:a) (h2:b) (h3:c) (h4:d) (h5:e) (h6:f) (h7:g):An7 a b c d e f g
inductive An8 (a b c d e f g h:Prop):Prop where
 | mk (h1:a) (h2:b) (h3:c) (h4:d) (h5:e) (h6:f) (h7:g) (h8:h):An8 a b c d e f g h
inductive An9 (a b c d e f g h i:Prop):Prop where
 | mk (h1:a) (h2:b) (h3:c) (h4:d) (h5:e) (h6:f) (h7:g) (h8:h) (h9:i):An9 a b c d e f g h i
theorem ns {α:Type} {a:α} {P:Prop} (h:none=some a):P:=nomatch h
theorem sn {α:Type} {a:α} {P:Prop} (h:some a=none):P:=nomatch h
theorem nc {α:Type} {a:α} {l:List α} {P:Prop} (h:[]=a::l):P:=nomatch h
theorem cn {α:Type} {a:α} {l:List α} {P:Prop} (h:a::l=[]):P:=nomatch h
theorem ff {P:Prop} (h:false=true):P:=Bool.noConfusion h
theorem ft {P:Prop} (h:true=false):P:=Bool.noConfusion h
inductive L2 {α β:Type} (R:α->β->Prop):List α->List β->Prop where
 | nil:L2 R [] []
 | cons {x:α} {y:β} {xs:List α} {ys:List β}:R x y->L2 R xs ys->L2 R (x::xs) (y::ys)
section
variable {α β:Type} {R R':α->β->Prop} {xs:List α} {ys:List β}
theorem L2.mono (k:∀ x y,R x y->R' x y) (h:L2 R xs ys):L2 R' xs ys:=by
 induction h with
 | nil=>exact .nil
 | cons a _ ih=>exact .cons (k _ _ a) ih
theorem L2.length (h:L2 R xs ys):xs.length=ys.length:=by
 induction h with
 | nil=>rfl
 | cons _ _ ih=>exact congrArg (· + 1) ih
theorem L2.get (h:L2 R xs ys):∀ {i:Nat} {x:α},xs[i]?=some x->∃ y,ys[i]?=some y∧R x y:=by
 induction h with
 | nil=>intro i x e; cases e
 | cons a _ ih =>
  intro i x e
  cases i with
  | zero=>cases e; exact ⟨_,rfl,a⟩
  | succ i=>exact ih (i:=i) e
theorem L2.append {xs':List α} {ys':List β} (h:L2 R xs ys) (g:L2 R xs' ys'):L2 R (xs++xs') (ys++ys'):=by
 induction h with
 | nil=>exact g
 | cons a _ ih=>exact .cons a ih
theorem L2.set {x:α} {y:β} (r:R x y) (h:L2 R xs ys):∀ {i:Nat},L2 R (xs.set i x) (ys.set i y):=by
 induction h with
 | nil=>exact fun {_}=>.nil
 | cons a b ih=>intro i; cases i with
  | zero=>exact .cons r b
  | succ i=>exact .cons a ih
theorem L2.take (h:L2 R xs ys):∀ {n:Nat},L2 R (xs.take n) (ys.take n):=by
 induction h with
 | nil=>intro n; cases n<;>exact .nil
 | cons a b ih=>intro n; cases n with
  | zero=>exact .nil
  | succ n=>exact .cons a ih
theorem L2.drop (h:L2 R xs ys):∀ {n:Nat},L2 R (xs.drop n) (ys.drop n):=by
 induction h with
 | nil=>intro n; cases n<;>exact .nil
 | cons a b ih=>intro n; cases n with
  | zero=>exact .cons a b
  | succ n=>exact ih
theorem L2.eraseIdx (h:L2 R xs ys):∀ {n:Nat},L2 R (xs.eraseIdx n) (ys.eraseIdx n):=by
 induction h with
 | nil=>exact fun {_}=>.nil
 | cons a b ih=>intro n; cases n with
  | zero=>exact b
  | succ n=>exact .cons a ih
theorem L2.reverse (h:L2 R xs ys):L2 R xs.reverse ys.reverse:=by
 induction h with
 | nil=>exact .nil
 | cons a _ ih=>rw [List.reverse_cons,List.reverse_cons]; exact ih.append (.cons a .nil)
end
theorem JP {α:Type} {p q:Prop} [Decidable p] [Decidable q] (h:p↔q) {a b:α}:(if p then a else b)=if q then a else b:=ite_congr (propext h) (fun _=>rfl) fun _=>rfl
theorem Jh {α β:Type} {f:α->Option β} {g:α->β} {p:α->Prop} [DecidablePred p] (h:∀ x,f x=if p x then some (g x) else none) (l:List α):l.filterMap f=(l.filter fun x=>decide (p x)).map g:=by
 induction l with
 | nil=>rfl
 | cons a l ih =>
  rw [Ct,CQ,h]
  by_cases q:p a
  ·rw [if_pos q,if_pos (decide_eq_true q),ih]; rfl
  ·rw [if_neg q,if_neg fun h=>q (of_decide_eq_true h),ih]
theorem LR (a n:Nat):max 0 (min (if (a:Int)<0 then (a:Int)+(n:Int) else (a:Int)) (n:Int))=((min a n:Nat):Int):=by
 rw [if_neg (BE.mpr (A7 a))]
 rcases Nat.le_total a n with h | h
 ·rw [Int.min_eq_left (Be.mpr h),CY h]; exact E9 (A7 a)
 ·rw [Int.min_eq_right (Be.mpr h),Ce h]; exact E9 (A7 n)
theorem Ky {a n:Nat} (h:a≤n):max 0 (min (if (a:Int)<0 then (a:Int)+(n:Int) else (a:Int)) (n:Int))=(a:Int):=(LR a n).trans (by rw [CY h])
theorem Jb (n:Nat):(-1+(n:Int)).toNat=n - 1:=by rw [F3]; exact Fp n 1
theorem Mg (n k:Nat):((n:Int) - 1+-1*(k:Int)).toNat=n - 1 - k:=by
 rw [Int.neg_mul,Int.one_mul,← Int.sub_eq_add_neg,Int.sub_sub,FI]; exact Fp n (1+k)
theorem T1 {a b:Nat} (h:a≤b):(max (a:Int) (b:Int)).toNat=b:=by rw [E9 (Be.mpr h)]; exact Aw b
theorem JD {c i:Nat} (hc:c≤8):i - (8 - c)=c+i - 8:=by
 obtain ⟨d,hd⟩:=Gr hc
 rw [hd,D3,Nat.add_sub_add_left]
theorem OP (j n:Nat):min (min (j+1) n+1) n=min (j+1+1) n:=by
 rcases Nat.le_total (j+1) n with h | h
 ·rw [CY h]
 ·rw [Ce h,Ce (BP n),Ce (AK h)]
theorem Mo (n:Nat):n - 1+min 1 n=n:=by
 cases n with
 | zero=>rfl
 | succ n=>rw [CY (CC ..)]; rfl
theorem N4 {p:Nat} (h:0<p):(p - 1) / 2+1=(p+1) / 2:=by
 obtain ⟨q,rfl⟩:=CR (AG h)
 rw [Nat.succ_sub_one,show q.succ+1=q+2 from rfl,Nat.add_div_right _ (by decide)]
theorem JA {i n:Nat} (h:i<n):n+1 - (i+1)<n+1 - i:=by rw [Nat.add_sub_add_right,Nat.succ_sub (Ay h)]; exact AY _
theorem Jf {i n:Nat} (h:i<n):(i - 1) / 2<n:=Ag (Ab (DV ..) (Bp ..)) h
theorem JC {n m:Nat} (h:m<n):n - 1 - (n - 1 - m)=m:=Nat.sub_sub_self (B6 h)
theorem TK {n:Nat} (h:0<n):max 0 (min (if (-1:Int)<0 then -1+(n:Int) else -1) (n:Int))=((n - 1:Nat):Int):=by
 rw [if_pos (by decide),show (-1+(n:Int))=((n - 1:Nat):Int) from by rw [D5 h]; exact F3 ..,Int.min_eq_left (Be.mpr (Bp ..))]
 exact E9 (A7 _)
theorem ex9 {A B C D E F G H I:Type} {p:A->B->C->D->E->F->G->H->I->Prop} (a:A) (b:B) (c:C) (d:D) (e:E) (f:F) (g:G) (h:H) (i:I) (x:p a b c d e f g h i):∃ a b c d e f g h i,p a b c d e f g h i:=⟨a,b,c,d,e,f,g,h,i,x⟩
theorem ex9e {A B C D E F G H I:Type} {p:A->B->C->D->E->F->G->H->I->Prop} {R:Prop} (h:∃ a b c d e f g h i,p a b c d e f g h i) (k:∀ a b c d e f g h i,p a b c d e f g h i->R):R :=
 h.elim fun a h=>h.elim fun b h=>h.elim fun c h=>h.elim fun d h=>h.elim fun e h=>h.elim fun f h=>h.elim fun g h=>h.elim fun h' h=>h.elim fun i x=>k a b c d e f g h' i x
theorem UE {A B C D E F G H I J:Type} {p:A->B->C->D->E->F->G->H->I->J->Prop} {R:Prop} (h:∃ a b c d e f g h i j,p a b c d e f g h i j) (k:∀ a b c d e f g h i j,p a b c d e f g h i j->R):R :=
 h.elim fun a h=>ex9e h (k a)
theorem IQ {n j:Nat} (h:j<n):n - j=n - (j+1)+1:=by rw [← FI,Cc (BX h)]
theorem LZ {n j:Nat} (h:j<n):n - j=n - 1 - j+1:=by rw [Ed,Cc (BX h)]
theorem Kh {n j:Nat} (h:j<n):n - 1 - j<n:=Ag (Bp ..) (Br h)
theorem QP {n j:Nat} (h:j<n):n - j - 1<n:=Ed ..▸Kh h
theorem LS {m i:Nat} (h:i<m):(m:Int) - 1+(i:Int)*(-1)=((m - 1 - i:Nat):Int):=by
 rw [Int.mul_neg,Int.mul_one,D5 (B6 h),D5 (Ag (A4 _) h)]; rfl
theorem Qk {i p:Nat} (h0:0<i) (e:(i - 1) / 2=p):2*p+1≤i:=by rw [← e]; exact Nat.succ_le_of_lt (Ag (Nat.mul_div_le ..) (Gf h0 (by decide)))
theorem Hw {p:Nat} (h:0<p):(p - 1) / 2<p:=Ag (DV ..) (Gf h (by decide))
theorem LI {c p:Nat} (hc:c=2*p+1∨c=2*p+2):(c - 1) / 2=p:=by
 rcases hc with rfl | rfl
 ·exact Nat.mul_div_cancel_left p (by decide)
 ·exact Nat.mul_add_div (by decide) p 1
theorem LJ {c p:Nat} (hc:c=2*p+1∨c=2*p+2):p<c:=by
 rcases hc with rfl | rfl
 ·exact B1 (B9 _ (by decide))
 ·exact B1 (AK (B9 _ (by decide)))
theorem LH {c p n m:Nat} (hc:c=2*p+1∨c=2*p+2) (hn:m≤n+1+p+1):m≤n+c+1 :=
 Ab hn (AB (by rw [DR,BU 1]; exact AS (LJ hc) n))
theorem Kv {w z y i L t:Nat} (g2:w≤z+t) (ht:t≤L) (a4:z≤y+i*L):w≤y+(i+1)*L:=by
 rw [G8,← DR]; exact Ab g2 (Bk a4 ht)
theorem LU {a b n:Nat} (h:a≤b+1):a+n≤b+(n+1):=Ab (Cg h _) (A1 (Ge ..))
theorem Od {a k d t n:Nat} (h:a≤k+d) (hd:d≤n) (ht:t≤n):a+t≤k+2*n :=
 Ab (Bk (Ab h (AS hd _)) ht) (A1 (by rw [DR,← Nat.two_mul]))
theorem Oe {a k d t n:Nat} (h:a≤k+1+d) (hd:d≤n) (ht:t≤n):a+1+t≤k+2+2*n :=
 Od (k:=k+2) (d:=d) (Ab (AB h) (A1 (D4 (k+1) d 1))) hd ht
theorem Iq {a b:Int} (h:¬a<b) (n:a≠b):b<a:=DQ.mpr ⟨BE.mp h,n.symm⟩
theorem JU {d D K j:Nat} (hj:j≤K) (hd:d≤D+j):d+(K - j)≤D+K:=Ab (Cg hd _) (A1 (by rw [DR,Eo hj]))
theorem Lk {d D K j:Nat} (hj:j≤K) (hd:d≤D+50*j):d+50*(K - j)≤D+50*K:=by rw [Nat.mul_sub]; exact JU (CL 50 hj) hd
theorem NC {d D K k:Nat} (hk:k+1≤K) (hd:d=D+1):d+(K - 1)≤D+K:=JU (DI hk) (A1 hd)
theorem M4 {d D K k:Nat} (hk:k+1≤K) (hd:d=D+1):d+50*(K - 1)≤D+50*K:=Lk (DI hk) (Ab (A1 hd) (AS (by decide) _))
end
section
noncomputable abbrev ro:RowW:=B5.row.toRowW
noncomputable abbrev pr:Program:=ro.prog
noncomputable abbrev p0:Pos:={ line:=0,col:=0,endLine:=0,endCol:=0 }
noncomputable abbrev p1:Pos:={ line:=353,col:=0,endLine:=363,endCol:=53 }
noncomputable def env:Env:={ scope:=pr.main.scope,locals:=mainNs,globals:=mainNs,cells:=[],code:=.ref 13,frame:=some 14 }
noncomputable abbrev cE:Code:=.body (behindTheImports pr) env
noncomputable def o11:Obj:={ cls:=Value.type "tuple",data:=Data.seq #[] }
noncomputable def o12:Obj:={ cls:=Bt,data:=GV #[] }
noncomputable def o13:Obj:={
  cls:=Value.type "code",
  data :=
   GV
    #[Value.str (A8 "<module>") 182,Value.str (A8 "<module>") 183,
     Value.str (A8 "/claim/cut.py") 184,Value.int 1 0,Value.int 0 0,Value.int 0 0,Value.int 0 0,
     Value.int 0 0,Value.ref 11,Value.bool false,Value.int 181 0,Value.ref 12,Bt,Bt,
     Bt,Bt,Value.int 185 0,Value.int 1 0,Value.str (A8 "/claim/cut.py") 186] }
noncomputable def o14:Obj:={
  cls:=Value.type "frame",
  slots :=
   #[some (Value.ref 13),some (Value.ref 3),some (Value.ref 3),none,
    some (Value.str (A8 "__main__") 164),none,some (Value.ref 0)] }
noncomputable def hA (P:Params):Heap:=⟨⟨[boot_o_0 P,boot_o_1 P,boot_o_2 P,boot_o_3 P,boot_o_4 P,boot_o_5 P,boot_o_6 P,boot_o_7 P,boot_o_8 P,boot_o_9 P,boot_o_10 P,o11,o12,o13,o14]⟩,{}⟩
noncomputable def tA (P:Params):BT :=
 .node (boot_o_0 P)
  (.node (boot_o_1 P)
   (.node (boot_o_3 P) (.node (boot_o_7 P) .nil .nil) (.node o11 .nil .nil))
   (.node (boot_o_5 P) (.node (boot_o_9 P) .nil .nil) (.node o13 .nil .nil)))
  (.node (boot_o_2 P)
   (.node (boot_o_4 P) (.node (boot_o_8 P) .nil .nil) (.node o12 .nil .nil))
   (.node (boot_o_6 P) (.node (boot_o_10 P) .nil .nil) (.node o14 .nil .nil)))
noncomputable abbrev an:Option Value:=some (.ref 6)
theorem goA (w:World) (os:OsState):topGo treeTable pr w 11 an 12 { heap:=Ff w.params,drawn:=boot_drawn,toks:=boot_toks,os:=os } (topStub pr)=some ({ heap:=hA w.params,toks:=187,os:=os },{ cur:=denote treeTable cE,code:=cE,pos:=p0,stack:=[topFrame p0] }):=by
 rw [PySem.W.Fast.te15667345088766844465,Cb,PySem.W.Fast.te11892475500146522536]
 kernel_rfl
noncomputable abbrev stT (w:World) (os:OsState):SharedT:={ tree:=tA w.params,n:=15,life:={},gens:=⟨[]⟩,drawn:={},toks:=187,os:=os }
theorem blk (w:World) (os:OsState):segRun treeTable pr w 11 an 1 1 { heap:=hA w.params,toks:=187,os:=os } (blockOf (behindTheImports pr) env cE p0 [topFrame p0])=some (.next,(stT w os).abs,cE,p0):=by
 rw [PySem.W.Fast.te14374325043358763698,Cb]
 kernel_rfl
noncomputable abbrev goT (w:World) (os:OsState):=PySem.W.Fast.tw10110043849684766642 Ew pr w 11 an 1 2521 (stT w os) (piecesOf (behindTheImports pr) env cE p0 [topFrame p0])
noncomputable abbrev S0 (s:String):Str:=A8 s
noncomputable abbrev vs (s:String) (t:Nat):Value:=.str (A8 s) t
noncomputable abbrev de (P:Params) (k:String) (t:Nat) (v:Value):DictEntry:=⟨AZ P (A8 k),.str (A8 k) t,v⟩
noncomputable def tp (i:Nat):Option Stmt:=pr.main.body[i]?
noncomputable def md (i j:Nat):Option Stmt:=match pr.main.body[i]? with
 | some (.ClassDef _ _ _ b _ _ _ _ _ _ _)=>b[j]?
 | _=>none
noncomputable def fdO (s:Option Stmt) (qn:String) (cl:List (Str×Addr)) (df m cd ct:Value):FuncData:=match s with
 | some (.FunctionDef name args body _ _ _ scope _ _ _)=>{ name:=name,qualname:=A8 qn,params:=args,body:=.stmts body,scope:=scope,globals:=3,closure:=cl,defaults:=df,kwdefaults:=.none,pyModule:=m,code:=cd,closureTuple:=ct }
 | _=>default
noncomputable abbrev fo (s:Option Stmt) (qn:String) (cl:List (Str×Addr)) (df m cd ct:Value):Obj:=⟨.type "function",none,.func (fdO s qn cl df m cd ct),#[]⟩
noncomputable abbrev zz:Value:=.int 0 0
noncomputable abbrev cf (t:Nat):Value:=vs "/claim/cut.py" t
noncomputable abbrev tuO (a:Array Value):Obj:=⟨.type "tuple",none,.seq a 0,#[]⟩
noncomputable abbrev coO (a:Array Value):Obj:=⟨.type "code",none,.fields a,#[]⟩
noncomputable abbrev nfO (a:Array Value):Obj:=⟨.none,none,.fields a,#[]⟩
noncomputable abbrev tfO (s:Option Stmt) (qn:String):Obj:=⟨.none,none,.func { fdO s qn [] .none .none .none .none with globals:=0 },#[]⟩
noncomputable abbrev frO (a b:Nat) (n:Value):Obj:=⟨.type "frame",none,.plain,#[some (.ref a),some (.ref 3),some (.ref b),none,some n,none,some (.ref 0)]⟩
noncomputable abbrev spO (a:Nat):Obj:=⟨.type "super",none,.fields #[.ref a,.ref a,.ref a],#[]⟩
noncomputable abbrev bfO (s:String) (v:Value):Obj:=⟨.type "builtin_function_or_method",none,.fields #[.builtin s,v],#[]⟩
noncomputable def K1 (P:Params):Frag:=[
 (0,boot_o_0 P),
 (1,boot_o_1 P),
 (2,boot_o_2 P),
 (3,⟨(.type "dict"),none,.dict #[de P "__name__" 165 (vs "law_oc0336_01" 631),de P "__doc__" 166 .none,de P "__package__" 167 .none,de P "__loader__" 168 (.builtin "__main__.__loader__#opaque"),de P "__spec__" 169 .none,de P "__annotations__" 170 (.ref 6),de P "__builtins__" 171 (.ref 4),de P "__file__" 173 (cf 172),de P "__cached__" 174 .none,de P "_wall" 193 (.ref 21),de P "_NODE_OUT" 198 (.int (-1) 197),de P "_NODE_DONE" 201 (.int (-2) 200),de P "_NodeInfo" 238 (.ref 40),de P "CycleError" 256 (.ref 55),de P "TopologicalSorter" 375 (.ref 137),de P "NL" 379 (vs "\n" 378),de P "EMPTYSTRING" 381 (vs "" 380),de P "_ValueFormatter" 489 (.ref 214),de P "_Accumulator" 585 (.ref 298),de P "heappop" 596 (.ref 309),de P "heapify" 605 (.ref 316),de P "_siftdown" 617 (.ref 323),de P "_siftup" 630 (.ref 330),de P "_law_cells" 642 (.ref 337),de P "_law_order" 652 (.ref 344),de P "_law_ranks" 658 (.ref 349),de P "_law_sorter" 664 (.ref 354),de P "_law_chunks" 670 (.ref 359),de P "_law_folded" 676 (.ref 364),de P "_law_parted" 682 (.ref 369),de P "_law_records" 693 (.ref 376),de P "_law_freed" 699 (.ref 381),de P "_law_run" 705 (.ref 386),de P "law" 711 (.ref 391)] 34,#[]⟩),
 (4,boot_o_4 P),
 (5,boot_o_5 P),
 (6,⟨(.type "dict"),none,.dict #[] 0,#[]⟩),
 (7,o11),
 (9,coO #[(vs "<module>" 176),(vs "<module>" 177),(cf 178),(.int 1 0),zz,zz,zz,zz,(.ref 7),(.bool false),(.int 175 0),(.ref 8),.none,.none,.none,.none,(.int 179 0),(.int 1 0),(cf 180)]),
 (11,o11),
 (13,coO #[(vs "<module>" 182),(vs "<module>" 183),(cf 184),(.int 1 0),zz,zz,zz,zz,(.ref 11),(.bool false),(.int 181 0),(.ref 12),.none,.none,.none,.none,(.int 185 0),(.int 1 0),(cf 186)]),
 (15,o11),
 (17,tuO #[(vs "k" 190)]),
 (18,o11),
 (20,coO #[(vs "_wall" 187),(vs "_wall" 188),(cf 189),(.int 1 0),(.int 1 0),zz,zz,(.int 3 0),(.ref 15),(.bool true),(.int 181 0),(.ref 16),.none,(.ref 17),(.ref 18),(.ref 19),(.int 191 0),(.int 1 0),(cf 192)]),
 (21,fo (tp 0) "_wall" [] .none (vs "__main__" 164) (.ref 20) .none),
 (22,o11),
 (24,⟨(.type "dict"),none,.dict #[de P "__module__" 209 (vs "cpy313.graphlib" 194),de P "__qualname__" 211 (vs "_NodeInfo" 210),de P "__firstlineno__" 213 (.int 7 212),de P "__slots__" 217 (.ref 29),de P "__init__" 225 (.ref 36),de P "__static_attributes__" 229 (.ref 37)] 6,#[]⟩),
 (25,o11),
 (27,coO #[(vs "_NodeInfo" 204),(vs "_NodeInfo" 205),(cf 206),(.int 7 0),zz,zz,zz,zz,(.ref 25),(.bool false),(.int 181 0),(.ref 26),.none,.none,.none,.none,(.int 207 0),(.int 7 0),(cf 208)]),
 (29,tuO #[(vs "node" 214),(vs "npredecessors" 215),(vs "successors" 216)]),
 (30,o11),
 (32,tuO #[(vs "self" 221),(vs "node" 222)]),
 (33,o11),
 (35,coO #[(vs "__init__" 218),(vs "_NodeInfo.__init__" 219),(cf 220),(.int 10 0),(.int 2 0),zz,zz,(.int 3 0),(.ref 30),(.bool true),(.int 181 0),(.ref 31),.none,(.ref 32),(.ref 33),(.ref 34),(.int 223 0),(.int 10 0),(cf 224)]),
 (36,fo (md 4 1) "_NodeInfo.__init__" [] .none (vs "cpy313.graphlib" 194) (.ref 35) .none),
 (37,tuO #[(vs "node" 226),(vs "npredecessors" 227),(vs "successors" 228)]),
 (39,⟨(.type "dict"),none,.dict #[de P "__module__" 209 (vs "cpy313.graphlib" 194),de P "__firstlineno__" 213 (.int 7 212),de P "__slots__" 217 (.ref 29),de P "__init__" 225 (.ref 36),de P "__static_attributes__" 229 (.ref 37),de P "node" 231 (.ref 41),de P "npredecessors" 233 (.ref 42),de P "successors" 235 (.ref 43),de P "__doc__" 236 .none] 5,#[]⟩),
 (40,⟨(.type "type"),none,.cls { name:=S0 "_NodeInfo",bases:=[(.type "object")],mro:=[(.ref 40),(.type "object")],ns:=39,qualname:=S0 "_NodeInfo",hasDict:=false,slotNames:=[S0 "node",S0 "npredecessors",S0 "successors"],subclasses:=[],abstract:=false,collection:=none,hasDel:=false },#[none,none,some (vs "_NodeInfo" 202),some (vs "_NodeInfo" 210),some (.builtin "object.__new__"),some (.bool false)]⟩),
 (41,⟨(.type "member_descriptor"),none,.fields #[(vs "node" 230),(.ref 40),(.builtin "proto.slot"),(.builtin "proto.slot#set"),(.int 2 0)],#[]⟩),
 (42,⟨(.type "member_descriptor"),none,.fields #[(vs "npredecessors" 232),(.ref 40),(.builtin "proto.slot"),(.builtin "proto.slot#set"),(.int 1 0)],#[]⟩),
 (43,⟨(.type "member_descriptor"),none,.fields #[(vs "successors" 234),(.ref 40),(.builtin "proto.slot"),(.builtin "proto.slot#set"),zz],#[]⟩),
 (46,tuO #[(.type "ValueError")]),
 (48,⟨(.type "dict"),none,.dict #[de P "__module__" 246 (vs "cpy313.graphlib" 194),de P "__qualname__" 248 (vs "CycleError" 247),de P "__firstlineno__" 250 (.int 14 249),de P "__static_attributes__" 251 (.ref 53)] 4,#[]⟩),
 (49,o11),
 (51,coO #[(vs "CycleError" 241),(vs "CycleError" 242),(cf 243),(.int 14 0),zz,zz,zz,zz,(.ref 49),(.bool false),(.int 181 0),(.ref 50),.none,.none,.none,.none,(.int 244 0),(.int 14 0),(cf 245)]),
 (53,o11),
 (54,⟨(.type "dict"),none,.dict #[de P "__module__" 246 (vs "cpy313.graphlib" 194),de P "__firstlineno__" 250 (.int 14 249),de P "__static_attributes__" 251 (.ref 53),de P "__weakref__" 253 (.ref 56),de P "__doc__" 254 .none] 3,#[]⟩),
 (55,⟨(.type "type"),none,.cls { name:=S0 "CycleError",bases:=[(.type "ValueError")],mro:=[(.ref 55),(.type "ValueError"),(.type "Exception"),(.type "BaseException"),(.type "object")],ns:=54,qualname:=S0 "CycleError",hasDict:=true,slotNames:=[],subclasses:=[],abstract:=false,collection:=none,hasDel:=false },#[some (.ref 46),none,some (vs "CycleError" 239),some (vs "CycleError" 247),some (.builtin "ValueError.__new__"),some (.bool true)]⟩),
 (56,⟨(.type "getset_descriptor"),none,.fields #[(vs "__weakref__" 252),(.ref 55),(.builtin "ExceptionGroup.__weakref__"),.none],#[]⟩),
 (59,o11),
 (61,⟨(.type "dict"),none,.dict #[de P "__module__" 264 (vs "cpy313.graphlib" 194),de P "__qualname__" 266 (vs "TopologicalSorter" 265),de P "__firstlineno__" 268 (.int 16 267),de P "__init__" 278 (.ref 73),de P "_get_nodeinfo" 287 (.ref 80),de P "add" 299 (.ref 87),de P "prepare" 305 (.ref 92),de P "get_ready" 315 (.ref 99),de P "is_active" 322 (.ref 106),de P "__bool__" 329 (.ref 113),de P "done" 343 (.ref 120),de P "_find_cycle" 356 (.ref 127),de P "static_order" 363 (.ref 134),de P "__static_attributes__" 368 (.ref 135)] 14,#[]⟩),
 (62,o11),
 (64,coO #[(vs "TopologicalSorter" 259),(vs "TopologicalSorter" 260),(cf 261),(.int 16 0),zz,zz,zz,zz,(.ref 62),(.bool false),(.int 181 0),(.ref 63),.none,.none,.none,.none,(.int 262 0),(.int 16 0),(cf 263)]),
 (66,tuO #[.none]),
 (67,o11),
 (69,tuO #[(vs "self" 272),(vs "graph" 273),(vs "node" 274),(vs "predecessors" 275)]),
 (70,o11),
 (72,coO #[(vs "__init__" 269),(vs "TopologicalSorter.__init__" 270),(cf 271),(.int 18 0),(.int 2 0),zz,zz,(.int 3 0),(.ref 67),(.bool true),(.int 181 0),(.ref 68),.none,(.ref 69),(.ref 70),(.ref 71),(.int 276 0),(.int 18 0),(cf 277)]),
 (73,fo (md 6 0) "TopologicalSorter.__init__" [] (.ref 66) (vs "cpy313.graphlib" 194) (.ref 72) .none),
 (74,o11),
 (76,tuO #[(vs "self" 282),(vs "node" 283),(vs "result" 284)]),
 (77,o11),
 (79,coO #[(vs "_get_nodeinfo" 279),(vs "TopologicalSorter._get_nodeinfo" 280),(cf 281),(.int 27 0),(.int 2 0),zz,zz,(.int 3 0),(.ref 74),(.bool true),(.int 181 0),(.ref 75),.none,(.ref 76),(.ref 77),(.ref 78),(.int 285 0),(.int 27 0),(cf 286)]),
 (80,fo (md 6 1) "TopologicalSorter._get_nodeinfo" [] .none (vs "cpy313.graphlib" 194) (.ref 79) .none),
 (81,o11),
 (83,tuO #[(vs "self" 291),(vs "node" 292),(vs "predecessors" 293),(vs "nodeinfo" 294),(vs "pred" 295),(vs "pred_info" 296)]),
 (84,o11),
 (86,coO #[(vs "add" 288),(vs "TopologicalSorter.add" 289),(cf 290),(.int 32 0),(.int 2 0),zz,zz,(.int 7 0),(.ref 81),(.bool true),(.int 181 0),(.ref 82),.none,(.ref 83),(.ref 84),(.ref 85),(.int 297 0),(.int 32 0),(cf 298)]),
 (87,fo (md 6 2) "TopologicalSorter.add" [] .none (vs "cpy313.graphlib" 194) (.ref 86) .none),
 (88,o11),
 (91,coO #[(vs "prepare" 300),(vs "TopologicalSorter.prepare" 301),(cf 302),(.int 41 0),(.int 1 0),zz,zz,(.int 3 0),(.ref 88),(.bool true),(.int 181 0),(.ref 89),.none,.none,.none,(.ref 90),(.int 303 0),(.int 41 0),(cf 304)]),
 (92,fo (md 6 3) "TopologicalSorter.prepare" [] .none (vs "cpy313.graphlib" 194) (.ref 91) .none),
 (93,o11),
 (95,tuO #[(vs "self" 309),(vs "result" 310),(vs "n2i" 311),(vs "node" 312)]),
 (96,o11),
 (98,coO #[(vs "get_ready" 306),(vs "TopologicalSorter.get_ready" 307),(cf 308),(.int 49 0),(.int 1 0),zz,zz,(.int 3 0),(.ref 93),(.bool true),(.int 181 0),(.ref 94),.none,(.ref 95),(.ref 96),(.ref 97),(.int 313 0),(.int 49 0),(cf 314)]),
 (99,fo (md 6 4) "TopologicalSorter.get_ready" [] .none (vs "cpy313.graphlib" 194) (.ref 98) .none),
 (100,o11),
 (102,tuO #[(vs "self" 319)]),
 (103,o11),
 (105,coO #[(vs "is_active" 316),(vs "TopologicalSorter.is_active" 317),(cf 318),(.int 60 0),(.int 1 0),zz,zz,(.int 3 0),(.ref 100),(.bool true),(.int 181 0),(.ref 101),.none,(.ref 102),(.ref 103),(.ref 104),(.int 320 0),(.int 60 0),(cf 321)]),
 (106,fo (md 6 5) "TopologicalSorter.is_active" [] .none (vs "cpy313.graphlib" 194) (.ref 105) .none),
 (107,o11),
 (109,tuO #[(vs "self" 326)]),
 (110,o11),
 (112,coO #[(vs "__bool__" 323),(vs "TopologicalSorter.__bool__" 324),(cf 325),(.int 65 0),(.int 1 0),zz,zz,(.int 3 0),(.ref 107),(.bool true),(.int 181 0),(.ref 108),.none,(.ref 109),(.ref 110),(.ref 111),(.int 327 0),(.int 65 0),(cf 328)]),
 (113,fo (md 6 6) "TopologicalSorter.__bool__" [] .none (vs "cpy313.graphlib" 194) (.ref 112) .none),
 (114,o11),
 (116,tuO #[(vs "self" 333),(vs "nodes" 334),(vs "n2i" 335),(vs "node" 336),(vs "nodeinfo" 337),(vs "stat" 338),(vs "successor" 339),(vs "successor_info" 340)]),
 (117,o11),
 (119,coO #[(vs "done" 330),(vs "TopologicalSorter.done" 331),(cf 332),(.int 68 0),(.int 1 0),zz,zz,(.int 7 0),(.ref 114),(.bool true),(.int 181 0),(.ref 115),.none,(.ref 116),(.ref 117),(.ref 118),(.int 341 0),(.int 68 0),(cf 342)]),
 (120,fo (md 6 7) "TopologicalSorter.done" [] .none (vs "cpy313.graphlib" 194) (.ref 119) .none),
 (121,o11),
 (123,tuO #[(vs "self" 347),(vs "n2i" 348),(vs "stack" 349),(vs "itstack" 350),(vs "seen" 351),(vs "node2stacki" 352),(vs "node" 353)]),
 (124,o11),
 (126,coO #[(vs "_find_cycle" 344),(vs "TopologicalSorter._find_cycle" 345),(cf 346),(.int 91 0),(.int 1 0),zz,zz,(.int 3 0),(.ref 121),(.bool true),(.int 181 0),(.ref 122),.none,(.ref 123),(.ref 124),(.ref 125),(.int 354 0),(.int 91 0),(cf 355)]),
 (127,fo (md 6 8) "TopologicalSorter._find_cycle" [] .none (vs "cpy313.graphlib" 194) (.ref 126) .none),
 (128,o11),
 (130,tuO #[(vs "self" 360)]),
 (131,o11),
 (133,coO #[(vs "static_order" 357),(vs "TopologicalSorter.static_order" 358),(cf 359),(.int 120 0),(.int 1 0),zz,zz,(.int 3 0),(.ref 128),(.bool true),(.int 181 0),(.ref 129),.none,(.ref 130),(.ref 131),(.ref 132),(.int 361 0),(.int 120 0),(cf 362)]),
 (134,fo (md 6 9) "TopologicalSorter.static_order" [] .none (vs "cpy313.graphlib" 194) (.ref 133) .none),
 (135,tuO #[(vs "_nfinished" 364),(vs "_node2info" 365),(vs "_npassedout" 366),(vs "_ready_nodes" 367)]),
 (136,⟨(.type "dict"),none,.dict #[de P "__module__" 264 (vs "cpy313.graphlib" 194),de P "__firstlineno__" 268 (.int 16 267),de P "__init__" 278 (.ref 73),de P "_get_nodeinfo" 287 (.ref 80),de P "add" 299 (.ref 87),de P "prepare" 305 (.ref 92),de P "get_ready" 315 (.ref 99),de P "is_active" 322 (.ref 106),de P "__bool__" 329 (.ref 113),de P "done" 343 (.ref 120),de P "_find_cycle" 356 (.ref 127),de P "static_order" 363 (.ref 134),de P "__static_attributes__" 368 (.ref 135),de P "__dict__" 370 (.ref 138),de P "__weakref__" 372 (.ref 139),de P "__doc__" 373 .none] 4,#[]⟩),
 (137,⟨(.type "type"),none,.cls { name:=S0 "TopologicalSorter",bases:=[(.type "object")],mro:=[(.ref 137),(.type "object")],ns:=136,qualname:=S0 "TopologicalSorter",hasDict:=true,slotNames:=[],subclasses:=[],abstract:=false,collection:=none,hasDel:=false },#[none,none,some (vs "TopologicalSorter" 257),some (vs "TopologicalSorter" 265),some (.builtin "object.__new__"),some (.bool true)]⟩),
 (138,⟨(.type "getset_descriptor"),none,.fields #[(vs "__dict__" 369),(.ref 137),(.builtin "function.__dict__"),(.builtin "function.__dict__#set")],#[]⟩),
 (139,⟨(.type "getset_descriptor"),none,.fields #[(vs "__weakref__" 371),(.ref 137),(.builtin "ExceptionGroup.__weakref__"),.none],#[]⟩),
 (142,o11),
 (144,⟨(.type "dict"),none,.dict #[de P "__module__" 389 (vs "cpy313.email.header" 376),de P "__qualname__" 391 (vs "_ValueFormatter" 390),de P "__firstlineno__" 393 (.int 125 392),de P "__init__" 404 (.ref 155),de P "_str" 412 (.ref 162),de P "__str__" 419 (.ref 169),de P "newline" 427 (.ref 176),de P "add_transition" 434 (.ref 183),de P "feed" 444 (.ref 190),de P "_maxlengths" 451 (.ref 197),de P "_ascii_split" 461 (.ref 204),de P "_append_chunk" 475 (.ref 211),de P "__static_attributes__" 482 (.ref 212)] 13,#[]⟩),
 (145,o11),
 (147,coO #[(vs "_ValueFormatter" 384),(vs "_ValueFormatter" 385),(cf 386),(.int 125 0),zz,zz,zz,zz,(.ref 145),(.bool false),(.int 181 0),(.ref 146),.none,.none,.none,.none,(.int 387 0),(.int 125 0),(cf 388)]),
 (149,o11),
 (151,tuO #[(vs "self" 397),(vs "headerlen" 398),(vs "maxlen" 399),(vs "continuation_ws" 400),(vs "splitchars" 401)]),
 (152,o11),
 (154,coO #[(vs "__init__" 394),(vs "_ValueFormatter.__init__" 395),(cf 396),(.int 127 0),(.int 5 0),zz,zz,(.int 3 0),(.ref 149),(.bool true),(.int 181 0),(.ref 150),.none,(.ref 151),(.ref 152),(.ref 153),(.int 402 0),(.int 127 0),(cf 403)]),
 (155,fo (md 10 0) "_ValueFormatter.__init__" [] .none (vs "cpy313.email.header" 376) (.ref 154) .none),
 (156,o11),
 (158,tuO #[(vs "self" 408),(vs "linesep" 409)]),
 (159,o11),
 (161,coO #[(vs "_str" 405),(vs "_ValueFormatter._str" 406),(cf 407),(.int 135 0),(.int 2 0),zz,zz,(.int 3 0),(.ref 156),(.bool true),(.int 181 0),(.ref 157),.none,(.ref 158),(.ref 159),(.ref 160),(.int 410 0),(.int 135 0),(cf 411)]),
 (162,fo (md 10 1) "_ValueFormatter._str" [] .none (vs "cpy313.email.header" 376) (.ref 161) .none),
 (163,o11),
 (165,tuO #[(vs "self" 416)]),
 (166,o11),
 (168,coO #[(vs "__str__" 413),(vs "_ValueFormatter.__str__" 414),(cf 415),(.int 139 0),(.int 1 0),zz,zz,(.int 3 0),(.ref 163),(.bool true),(.int 181 0),(.ref 164),.none,(.ref 165),(.ref 166),(.ref 167),(.int 417 0),(.int 139 0),(cf 418)]),
 (169,fo (md 10 2) "_ValueFormatter.__str__" [] .none (vs "cpy313.email.header" 376) (.ref 168) .none),
 (170,o11),
 (172,tuO #[(vs "self" 423),(vs "end_of_line" 424)]),
 (173,o11),
 (175,coO #[(vs "newline" 420),(vs "_ValueFormatter.newline" 421),(cf 422),(.int 142 0),(.int 1 0),zz,zz,(.int 3 0),(.ref 170),(.bool true),(.int 181 0),(.ref 171),.none,(.ref 172),(.ref 173),(.ref 174),(.int 425 0),(.int 142 0),(cf 426)]),
 (176,fo (md 10 3) "_ValueFormatter.newline" [] .none (vs "cpy313.email.header" 376) (.ref 175) .none),
 (177,o11),
 (179,tuO #[(vs "self" 431)]),
 (180,o11),
 (182,coO #[(vs "add_transition" 428),(vs "_ValueFormatter.add_transition" 429),(cf 430),(.int 153 0),(.int 1 0),zz,zz,(.int 3 0),(.ref 177),(.bool true),(.int 181 0),(.ref 178),.none,(.ref 179),(.ref 180),(.ref 181),(.int 432 0),(.int 153 0),(cf 433)]),
 (183,fo (md 10 4) "_ValueFormatter.add_transition" [] .none (vs "cpy313.email.header" 376) (.ref 182) .none),
 (184,o11),
 (186,tuO #[(vs "self" 438),(vs "fws" 439),(vs "string" 440),(vs "charset" 441)]),
 (187,o11),
 (189,coO #[(vs "feed" 435),(vs "_ValueFormatter.feed" 436),(cf 437),(.int 156 0),(.int 4 0),zz,zz,(.int 3 0),(.ref 184),(.bool true),(.int 181 0),(.ref 185),.none,(.ref 186),(.ref 187),(.ref 188),(.int 442 0),(.int 156 0),(cf 443)]),
 (190,fo (md 10 5) "_ValueFormatter.feed" [] .none (vs "cpy313.email.header" 376) (.ref 189) .none),
 (191,o11),
 (193,tuO #[(vs "self" 448)]),
 (194,o11),
 (196,coO #[(vs "_maxlengths" 445),(vs "_ValueFormatter._maxlengths" 446),(cf 447),(.int 159 0),(.int 1 0),zz,zz,(.int 3 0),(.ref 191),(.bool true),(.int 181 0),(.ref 192),.none,(.ref 193),(.ref 194),(.ref 195),(.int 449 0),(.int 159 0),(cf 450)]),
 (197,fo (md 10 6) "_ValueFormatter._maxlengths" [] .none (vs "cpy313.email.header" 376) (.ref 196) .none),
 (198,o11),
 (200,tuO #[(vs "self" 455),(vs "fws" 456),(vs "string" 457),(vs "splitchars" 458)]),
 (201,o11),
 (203,coO #[(vs "_ascii_split" 452),(vs "_ValueFormatter._ascii_split" 453),(cf 454),(.int 162 0),(.int 4 0),zz,zz,(.int 3 0),(.ref 198),(.bool true),(.int 181 0),(.ref 199),.none,(.ref 200),(.ref 201),(.ref 202),(.int 459 0),(.int 162 0),(cf 460)]),
 (204,fo (md 10 7) "_ValueFormatter._ascii_split" [] .none (vs "cpy313.email.header" 376) (.ref 203) .none),
 (205,o11),
 (207,tuO #[(vs "self" 465),(vs "fws" 466),(vs "string" 467),(vs "ch" 468),(vs "i" 469),(vs "prevpart" 470),(vs "part" 471),(vs "remainder" 472)]),
 (208,o11),
 (210,coO #[(vs "_append_chunk" 462),(vs "_ValueFormatter._append_chunk" 463),(cf 464),(.int 165 0),(.int 3 0),zz,zz,(.int 3 0),(.ref 205),(.bool true),(.int 181 0),(.ref 206),.none,(.ref 207),(.ref 208),(.ref 209),(.int 473 0),(.int 165 0),(cf 474)]),
 (211,fo (md 10 8) "_ValueFormatter._append_chunk" [] .none (vs "cpy313.email.header" 376) (.ref 210) .none),
 (212,tuO #[(vs "_continuation_ws" 476),(vs "_continuation_ws_len" 477),(vs "_current_line" 478),(vs "_lines" 479),(vs "_maxlen" 480),(vs "_splitchars" 481)]),
 (213,⟨(.type "dict"),none,.dict #[de P "__module__" 389 (vs "cpy313.email.header" 376),de P "__firstlineno__" 393 (.int 125 392),de P "__init__" 404 (.ref 155),de P "_str" 412 (.ref 162),de P "__str__" 419 (.ref 169),de P "newline" 427 (.ref 176),de P "add_transition" 434 (.ref 183),de P "feed" 444 (.ref 190),de P "_maxlengths" 451 (.ref 197),de P "_ascii_split" 461 (.ref 204),de P "_append_chunk" 475 (.ref 211),de P "__static_attributes__" 482 (.ref 212),de P "__dict__" 484 (.ref 215),de P "__weakref__" 486 (.ref 216),de P "__doc__" 487 .none] 4,#[]⟩),
 (214,⟨(.type "type"),none,.cls { name:=S0 "_ValueFormatter",bases:=[(.type "object")],mro:=[(.ref 214),(.type "object")],ns:=213,qualname:=S0 "_ValueFormatter",hasDict:=true,slotNames:=[],subclasses:=[],abstract:=false,collection:=none,hasDel:=false },#[none,none,some (vs "_ValueFormatter" 382),some (vs "_ValueFormatter" 390),some (.builtin "object.__new__"),some (.bool true)]⟩),
 (215,⟨(.type "getset_descriptor"),none,.fields #[(vs "__dict__" 483),(.ref 214),(.builtin "function.__dict__"),(.builtin "function.__dict__#set")],#[]⟩),
 (216,⟨(.type "getset_descriptor"),none,.fields #[(vs "__weakref__" 485),(.ref 214),(.builtin "ExceptionGroup.__weakref__"),.none],#[]⟩),
 (219,tuO #[(.type "list")]),
 (221,⟨(.type "dict"),none,.dict #[de P "__module__" 497 (vs "cpy313.email.header" 376),de P "__qualname__" 499 (vs "_Accumulator" 498),de P "__firstlineno__" 501 (.int 191 500),de P "__init__" 511 (.ref 235),de P "push" 520 (.ref 242),de P "pop_from" 530 (.ref 250),de P "pop" 538 (.ref 258),de P "__len__" 545 (.ref 265),de P "__str__" 552 (.ref 272),de P "reset" 560 (.ref 280),de P "is_onlyws" 567 (.ref 287),de P "part_count" 575 (.ref 295),de P "__static_attributes__" 577 (.ref 296),de P "__classcell__" 578 (.ref 222)] 14,#[]⟩),
 (222,⟨(.type "cell"),none,.cell (some (.ref 298)),#[]⟩),
 (223,o11),
 (225,coO #[(vs "_Accumulator" 492),(vs "_Accumulator" 493),(cf 494),(.int 191 0),zz,zz,zz,zz,(.ref 223),(.bool false),(.int 181 0),(.ref 224),.none,.none,.none,.none,(.int 495 0),(.int 191 0),(cf 496)]),
 (227,tuO #[(.int 0 502)]),
 (228,tuO #[(.ref 222)]),
 (229,tuO #[(vs "__class__" 506)]),
 (231,tuO #[(vs "self" 507),(vs "initial_size" 508)]),
 (232,o11),
 (234,coO #[(vs "__init__" 503),(vs "_Accumulator.__init__" 504),(cf 505),(.int 193 0),(.int 2 0),zz,zz,(.int 3 0),(.ref 229),(.bool true),(.int 181 0),(.ref 230),.none,(.ref 231),(.ref 232),(.ref 233),(.int 509 0),(.int 193 0),(cf 510)]),
 (235,fo (md 11 0) "_Accumulator.__init__" [(S0 "__class__",222)] (.ref 227) (vs "cpy313.email.header" 376) (.ref 234) (.ref 228)),
 (236,o11),
 (238,tuO #[(vs "self" 515),(vs "fws" 516),(vs "string" 517)]),
 (239,o11),
 (241,coO #[(vs "push" 512),(vs "_Accumulator.push" 513),(cf 514),(.int 197 0),(.int 3 0),zz,zz,(.int 3 0),(.ref 236),(.bool true),(.int 181 0),(.ref 237),.none,(.ref 238),(.ref 239),(.ref 240),(.int 518 0),(.int 197 0),(cf 519)]),
 (242,fo (md 11 1) "_Accumulator.push" [] .none (vs "cpy313.email.header" 376) (.ref 241) .none),
 (243,tuO #[(.int 0 521)]),
 (244,o11),
 (246,tuO #[(vs "self" 525),(vs "i" 526),(vs "popped" 527)]),
 (247,o11),
 (249,coO #[(vs "pop_from" 522),(vs "_Accumulator.pop_from" 523),(cf 524),(.int 200 0),(.int 2 0),zz,zz,(.int 3 0),(.ref 244),(.bool true),(.int 181 0),(.ref 245),.none,(.ref 246),(.ref 247),(.ref 248),(.int 528 0),(.int 200 0),(cf 529)]),
 (250,fo (md 11 2) "_Accumulator.pop_from" [] (.ref 243) (vs "cpy313.email.header" 376) (.ref 249) .none),
 (251,tuO #[(.ref 222)]),
 (252,tuO #[(vs "__class__" 534)]),
 (254,tuO #[(vs "self" 535)]),
 (255,o11),
 (257,coO #[(vs "pop" 531),(vs "_Accumulator.pop" 532),(cf 533),(.int 205 0),(.int 1 0),zz,zz,(.int 3 0),(.ref 252),(.bool true),(.int 181 0),(.ref 253),.none,(.ref 254),(.ref 255),(.ref 256),(.int 536 0),(.int 205 0),(cf 537)]),
 (258,fo (md 11 3) "_Accumulator.pop" [(S0 "__class__",222)] .none (vs "cpy313.email.header" 376) (.ref 257) (.ref 251)),
 (259,o11),
 (261,tuO #[(vs "self" 542)]),
 (262,o11),
 (264,coO #[(vs "__len__" 539),(vs "_Accumulator.__len__" 540),(cf 541),(.int 210 0),(.int 1 0),zz,zz,(.int 3 0),(.ref 259),(.bool true),(.int 181 0),(.ref 260),.none,(.ref 261),(.ref 262),(.ref 263),(.int 543 0),(.int 210 0),(cf 544)]),
 (265,fo (md 11 4) "_Accumulator.__len__" [] .none (vs "cpy313.email.header" 376) (.ref 264) .none),
 (266,o11),
 (268,tuO #[(vs "self" 549)]),
 (269,o11),
 (271,coO #[(vs "__str__" 546),(vs "_Accumulator.__str__" 547),(cf 548),(.int 213 0),(.int 1 0),zz,zz,(.int 3 0),(.ref 266),(.bool true),(.int 181 0),(.ref 267),.none,(.ref 268),(.ref 269),(.ref 270),(.int 550 0),(.int 213 0),(cf 551)]),
 (272,fo (md 11 5) "_Accumulator.__str__" [] .none (vs "cpy313.email.header" 376) (.ref 271) .none),
 (273,tuO #[.none]),
 (274,o11),
 (276,tuO #[(vs "self" 556),(vs "startval" 557)]),
 (277,o11),
 (279,coO #[(vs "reset" 553),(vs "_Accumulator.reset" 554),(cf 555),(.int 216 0),(.int 2 0),zz,zz,(.int 3 0),(.ref 274),(.bool true),(.int 181 0),(.ref 275),.none,(.ref 276),(.ref 277),(.ref 278),(.int 558 0),(.int 216 0),(cf 559)]),
 (280,fo (md 11 6) "_Accumulator.reset" [] (.ref 273) (vs "cpy313.email.header" 376) (.ref 279) .none),
 (281,o11),
 (283,tuO #[(vs "self" 564)]),
 (284,o11),
 (286,coO #[(vs "is_onlyws" 561),(vs "_Accumulator.is_onlyws" 562),(cf 563),(.int 222 0),(.int 1 0),zz,zz,(.int 3 0),(.ref 281),(.bool true),(.int 181 0),(.ref 282),.none,(.ref 283),(.ref 284),(.ref 285),(.int 565 0),(.int 222 0),(cf 566)]),
 (287,fo (md 11 7) "_Accumulator.is_onlyws" [] .none (vs "cpy313.email.header" 376) (.ref 286) .none),
 (288,tuO #[(.ref 222)]),
 (289,tuO #[(vs "__class__" 571)]),
 (291,tuO #[(vs "self" 572)]),
 (292,o11),
 (294,coO #[(vs "part_count" 568),(vs "_Accumulator.part_count" 569),(cf 570),(.int 225 0),(.int 1 0),zz,zz,(.int 3 0),(.ref 289),(.bool true),(.int 181 0),(.ref 290),.none,(.ref 291),(.ref 292),(.ref 293),(.int 573 0),(.int 225 0),(cf 574)]),
 (295,fo (md 11 8) "_Accumulator.part_count" [(S0 "__class__",222)] .none (vs "cpy313.email.header" 376) (.ref 294) (.ref 288)),
 (296,tuO #[(vs "_initial_size" 576)]),
 (297,⟨(.type "dict"),none,.dict #[de P "__module__" 497 (vs "cpy313.email.header" 376),de P "__firstlineno__" 501 (.int 191 500),de P "__init__" 511 (.ref 235),de P "push" 520 (.ref 242),de P "pop_from" 530 (.ref 250),de P "pop" 538 (.ref 258),de P "__len__" 545 (.ref 265),de P "__str__" 552 (.ref 272),de P "reset" 560 (.ref 280),de P "is_onlyws" 567 (.ref 287),de P "part_count" 575 (.ref 295),de P "__static_attributes__" 577 (.ref 296),de P "__dict__" 580 (.ref 299),de P "__weakref__" 582 (.ref 300),de P "__doc__" 583 .none] 5,#[]⟩),
 (298,⟨(.type "type"),none,.cls { name:=S0 "_Accumulator",bases:=[(.type "list")],mro:=[(.ref 298),(.type "list"),(.type "object")],ns:=297,qualname:=S0 "_Accumulator",hasDict:=true,slotNames:=[],subclasses:=[],abstract:=false,collection:=none,hasDel:=false },#[some (.ref 219),none,some (vs "_Accumulator" 490),some (vs "_Accumulator" 498),some (.builtin "list.__new__"),some (.bool true)]⟩),
 (299,⟨(.type "getset_descriptor"),none,.fields #[(vs "__dict__" 579),(.ref 298),(.builtin "function.__dict__"),(.builtin "function.__dict__#set")],#[]⟩),
 (300,⟨(.type "getset_descriptor"),none,.fields #[(vs "__weakref__" 581),(.ref 298),(.builtin "ExceptionGroup.__weakref__"),.none],#[]⟩),
 (303,o11),
 (305,tuO #[(vs "heap" 591),(vs "lastelt" 592),(vs "returnitem" 593)]),
 (306,o11),
 (308,coO #[(vs "heappop" 588),(vs "heappop" 589),(cf 590),(.int 228 0),(.int 1 0),zz,zz,(.int 3 0),(.ref 303),(.bool true),(.int 181 0),(.ref 304),.none,(.ref 305),(.ref 306),(.ref 307),(.int 594 0),(.int 228 0),(cf 595)]),
 (309,fo (tp 13) "heappop" [] .none (vs "cpy313.heapq" 586) (.ref 308) .none),
 (310,o11),
 (312,tuO #[(vs "x" 600),(vs "n" 601),(vs "i" 602)]),
 (313,o11),
 (315,coO #[(vs "heapify" 597),(vs "heapify" 598),(cf 599),(.int 236 0),(.int 1 0),zz,zz,(.int 3 0),(.ref 310),(.bool true),(.int 181 0),(.ref 311),.none,(.ref 312),(.ref 313),(.ref 314),(.int 603 0),(.int 236 0),(cf 604)]),
 (316,fo (tp 14) "heapify" [] .none (vs "cpy313.heapq" 586) (.ref 315) .none),
 (317,o11),
 (319,tuO #[(vs "heap" 609),(vs "startpos" 610),(vs "pos" 611),(vs "newitem" 612),(vs "parentpos" 613),(vs "parent" 614)]),
 (320,o11),
 (322,coO #[(vs "_siftdown" 606),(vs "_siftdown" 607),(cf 608),(.int 240 0),(.int 3 0),zz,zz,(.int 3 0),(.ref 317),(.bool true),(.int 181 0),(.ref 318),.none,(.ref 319),(.ref 320),(.ref 321),(.int 615 0),(.int 240 0),(cf 616)]),
 (323,fo (tp 15) "_siftdown" [] .none (vs "cpy313.heapq" 586) (.ref 322) .none),
 (324,o11),
 (326,tuO #[(vs "heap" 621),(vs "pos" 622),(vs "endpos" 623),(vs "startpos" 624),(vs "newitem" 625),(vs "childpos" 626),(vs "rightpos" 627)]),
 (327,o11),
 (329,coO #[(vs "_siftup" 618),(vs "_siftup" 619),(cf 620),(.int 251 0),(.int 2 0),zz,zz,(.int 3 0),(.ref 324),(.bool true),(.int 181 0),(.ref 325),.none,(.ref 326),(.ref 327),(.ref 328),(.int 628 0),(.int 251 0),(cf 629)]),
 (330,fo (tp 16) "_siftup" [] .none (vs "cpy313.heapq" 586) (.ref 329) .none),
 (331,o11),
 (333,tuO #[(vs "script" 636),(vs "base" 637),(vs "cells" 638),(vs "k" 639)]),
 (334,o11),
 (336,coO #[(vs "_law_cells" 633),(vs "_law_cells" 634),(cf 635),(.int 266 0),(.int 2 0),zz,zz,(.int 3 0),(.ref 331),(.bool true),(.int 181 0),(.ref 332),.none,(.ref 333),(.ref 334),(.ref 335),(.int 640 0),(.int 266 0),(cf 641)]),
 (337,fo (tp 18) "_law_cells" [] .none (vs "law_oc0336_01" 631) (.ref 336) .none),
 (338,o11),
 (340,tuO #[(vs "number" 646),(vs "signs" 647),(vs "order" 648),(vs "k" 649)]),
 (341,o11),
 (343,coO #[(vs "_law_order" 643),(vs "_law_order" 644),(cf 645),(.int 271 0),(.int 1 0),zz,zz,(.int 3 0),(.ref 338),(.bool true),(.int 181 0),(.ref 339),.none,(.ref 340),(.ref 341),(.ref 342),(.int 650 0),(.int 271 0),(cf 651)]),
 (344,fo (tp 19) "_law_order" [] .none (vs "law_oc0336_01" 631) (.ref 343) .none),
 (345,o11),
 (348,coO #[(vs "_law_ranks" 653),(vs "_law_ranks" 654),(cf 655),(.int 278 0),(.int 2 0),zz,zz,(.int 3 0),(.ref 345),(.bool true),(.int 181 0),(.ref 346),.none,.none,.none,(.ref 347),(.int 656 0),(.int 278 0),(cf 657)]),
 (349,fo (tp 20) "_law_ranks" [] .none (vs "law_oc0336_01" 631) (.ref 348) .none),
 (350,o11),
 (353,coO #[(vs "_law_sorter" 659),(vs "_law_sorter" 660),(cf 661),(.int 286 0),(.int 1 0),zz,zz,(.int 3 0),(.ref 350),(.bool true),(.int 181 0),(.ref 351),.none,.none,.none,(.ref 352),(.int 662 0),(.int 286 0),(cf 663)]),
 (354,fo (tp 21) "_law_sorter" [] .none (vs "law_oc0336_01" 631) (.ref 353) .none),
 (355,o11),
 (358,coO #[(vs "_law_chunks" 665),(vs "_law_chunks" 666),(cf 667),(.int 294 0),(.int 1 0),zz,zz,(.int 3 0),(.ref 355),(.bool true),(.int 181 0),(.ref 356),.none,.none,.none,(.ref 357),(.int 668 0),(.int 294 0),(cf 669)]),
 (359,fo (tp 22) "_law_chunks" [] .none (vs "law_oc0336_01" 631) (.ref 358) .none),
 (360,o11),
 (363,coO #[(vs "_law_folded" 671),(vs "_law_folded" 672),(cf 673),(.int 299 0),(.int 3 0),zz,zz,(.int 3 0),(.ref 360),(.bool true),(.int 181 0),(.ref 361),.none,.none,.none,(.ref 362),(.int 674 0),(.int 299 0),(cf 675)]),
 (364,fo (tp 23) "_law_folded" [] .none (vs "law_oc0336_01" 631) (.ref 363) .none),
 (365,o11),
 (368,coO #[(vs "_law_parted" 677),(vs "_law_parted" 678),(cf 679),(.int 312 0),(.int 2 0),zz,zz,(.int 3 0),(.ref 365),(.bool true),(.int 181 0),(.ref 366),.none,.none,.none,(.ref 367),(.int 680 0),(.int 312 0),(cf 681)]),
 (369,fo (tp 24) "_law_parted" [] .none (vs "law_oc0336_01" 631) (.ref 368) .none),
 (370,o11),
 (372,tuO #[(vs "heap" 686),(vs "cuts" 687),(vs "kept" 688),(vs "key" 689),(vs "place" 690)]),
 (373,o11),
 (375,coO #[(vs "_law_records" 683),(vs "_law_records" 684),(cf 685),(.int 317 0),(.int 1 0),zz,zz,(.int 3 0),(.ref 370),(.bool true),(.int 181 0),(.ref 371),.none,(.ref 372),(.ref 373),(.ref 374),(.int 691 0),(.int 317 0),(cf 692)]),
 (376,fo (tp 25) "_law_records" [] .none (vs "law_oc0336_01" 631) (.ref 375) .none),
 (377,o11),
 (380,coO #[(vs "_law_freed" 694),(vs "_law_freed" 695),(cf 696),(.int 329 0),(.int 4 0),zz,zz,(.int 3 0),(.ref 377),(.bool true),(.int 181 0),(.ref 378),.none,.none,.none,(.ref 379),(.int 697 0),(.int 329 0),(cf 698)]),
 (381,fo (tp 26) "_law_freed" [] .none (vs "law_oc0336_01" 631) (.ref 380) .none),
 (382,o11),
 (385,coO #[(vs "_law_run" 700),(vs "_law_run" 701),(cf 702),(.int 339 0),(.int 5 0),zz,zz,(.int 3 0),(.ref 382),(.bool true),(.int 181 0),(.ref 383),.none,.none,.none,(.ref 384),(.int 703 0),(.int 339 0),(cf 704)]),
 (386,fo (tp 27) "_law_run" [] .none (vs "law_oc0336_01" 631) (.ref 385) .none),
 (387,o11),
 (390,coO #[(vs "law" 706),(vs "law" 707),(cf 708),(.int 353 0),(.int 1 0),zz,zz,(.int 3 0),(.ref 387),(.bool true),(.int 181 0),(.ref 388),.none,.none,.none,(.ref 389),(.int 709 0),(.int 353 0),(cf 710)]),
 (391,fo (tp 28) "law" [] .none (vs "law_oc0336_01" 631) (.ref 390) .none)]
noncomputable def restO:List Obj:=[
 o12,
 frO 9 3 (vs "__main__" 164),
 nfO #[(.int 1 0),zz,(.ref 20),(.int 7 0),zz,(.ref 27),(.int 14 0),zz,(.ref 51),(.int 16 0),zz,(.ref 64),(.int 125 0),zz,(.ref 147),(.int 191 0),zz,(.ref 225),(.int 228 0),zz,(.ref 308),(.int 236 0),zz,(.ref 315),(.int 240 0),zz,(.ref 322),(.int 251 0),zz,(.ref 329),(.int 266 0),zz,(.ref 336),(.int 271 0),zz,(.ref 343),(.int 278 0),zz,(.ref 348),(.int 286 0),zz,(.ref 353),(.int 294 0),zz,(.ref 358),(.int 299 0),zz,(.ref 363),(.int 312 0),zz,(.ref 368),(.int 317 0),zz,(.ref 375),(.int 329 0),zz,(.ref 380),(.int 339 0),zz,(.ref 385),(.int 353 0),zz,(.ref 390)],
 frO 13 3 (vs "__main__" 164),
 o12,
 tfO (tp 0) "_wall",
 bfO "type.__prepare__" (.type "type"),
 nfO #[(.int 10 0),(.int 4 0),(.ref 35)],
 frO 27 24 (vs "cpy313.graphlib" 194),
 o12,
 tfO (md 4 1) "_NodeInfo.__init__",
 ⟨(.type "list"),none,.seq #[(vs "node" 214),(vs "npredecessors" 215),(vs "successors" 216)] 1,#[]⟩,
 spO 40,
 bfO "object.__init_subclass__" (.ref 40),
 bfO "type.__prepare__" (.type "type"),
 o12,
 frO 51 48 (vs "cpy313.graphlib" 194),
 spO 55,
 bfO "object.__init_subclass__" (.ref 55),
 bfO "type.__prepare__" (.type "type"),
 nfO #[(.int 18 0),(.int 4 0),(.ref 72),(.int 27 0),(.int 4 0),(.ref 79),(.int 32 0),(.int 4 0),(.ref 86),(.int 41 0),(.int 4 0),(.ref 91),(.int 49 0),(.int 4 0),(.ref 98),(.int 60 0),(.int 4 0),(.ref 105),(.int 65 0),(.int 4 0),(.ref 112),(.int 68 0),(.int 4 0),(.ref 119),(.int 91 0),(.int 4 0),(.ref 126),(.int 120 0),(.int 4 0),(.ref 133)],
 frO 64 61 (vs "cpy313.graphlib" 194),
 o12,
 tfO (md 6 0) "TopologicalSorter.__init__",
 o12,
 tfO (md 6 1) "TopologicalSorter._get_nodeinfo",
 o12,
 tfO (md 6 2) "TopologicalSorter.add",
 o12,
 tfO (md 6 3) "TopologicalSorter.prepare",
 o12,
 tfO (md 6 4) "TopologicalSorter.get_ready",
 o12,
 tfO (md 6 5) "TopologicalSorter.is_active",
 o12,
 tfO (md 6 6) "TopologicalSorter.__bool__",
 o12,
 tfO (md 6 7) "TopologicalSorter.done",
 o12,
 tfO (md 6 8) "TopologicalSorter._find_cycle",
 o12,
 tfO (md 6 9) "TopologicalSorter.static_order",
 spO 137,
 bfO "object.__init_subclass__" (.ref 137),
 bfO "type.__prepare__" (.type "type"),
 nfO #[(.int 127 0),(.int 4 0),(.ref 154),(.int 135 0),(.int 4 0),(.ref 161),(.int 139 0),(.int 4 0),(.ref 168),(.int 142 0),(.int 4 0),(.ref 175),(.int 153 0),(.int 4 0),(.ref 182),(.int 156 0),(.int 4 0),(.ref 189),(.int 159 0),(.int 4 0),(.ref 196),(.int 162 0),(.int 4 0),(.ref 203),(.int 165 0),(.int 4 0),(.ref 210)],
 frO 147 144 (vs "cpy313.email.header" 376),
 o12,
 tfO (md 10 0) "_ValueFormatter.__init__",
 o12,
 tfO (md 10 1) "_ValueFormatter._str",
 o12,
 tfO (md 10 2) "_ValueFormatter.__str__",
 o12,
 tfO (md 10 3) "_ValueFormatter.newline",
 o12,
 tfO (md 10 4) "_ValueFormatter.add_transition",
 o12,
 tfO (md 10 5) "_ValueFormatter.feed",
 o12,
 tfO (md 10 6) "_ValueFormatter._maxlengths",
 o12,
 tfO (md 10 7) "_ValueFormatter._ascii_split",
 o12,
 tfO (md 10 8) "_ValueFormatter._append_chunk",
 spO 214,
 bfO "object.__init_subclass__" (.ref 214),
 bfO "type.__prepare__" (.type "type"),
 nfO #[(.int 193 0),(.int 4 0),(.ref 234),(.int 197 0),(.int 4 0),(.ref 241),(.int 200 0),(.int 4 0),(.ref 249),(.int 205 0),(.int 4 0),(.ref 257),(.int 210 0),(.int 4 0),(.ref 264),(.int 213 0),(.int 4 0),(.ref 271),(.int 216 0),(.int 4 0),(.ref 279),(.int 222 0),(.int 4 0),(.ref 286),(.int 225 0),(.int 4 0),(.ref 294)],
 frO 225 221 (vs "cpy313.email.header" 376),
 o12,
 tfO (md 11 0) "_Accumulator.__init__",
 o12,
 tfO (md 11 1) "_Accumulator.push",
 o12,
 tfO (md 11 2) "_Accumulator.pop_from",
 o12,
 tfO (md 11 3) "_Accumulator.pop",
 o12,
 tfO (md 11 4) "_Accumulator.__len__",
 o12,
 tfO (md 11 5) "_Accumulator.__str__",
 o12,
 tfO (md 11 6) "_Accumulator.reset",
 o12,
 tfO (md 11 7) "_Accumulator.is_onlyws",
 o12,
 tfO (md 11 8) "_Accumulator.part_count",
 spO 298,
 bfO "object.__init_subclass__" (.ref 298),
 o12,
 tfO (tp 13) "heappop",
 o12,
 tfO (tp 14) "heapify",
 o12,
 tfO (tp 15) "_siftdown",
 o12,
 tfO (tp 16) "_siftup",
 o12,
 tfO (tp 18) "_law_cells",
 o12,
 tfO (tp 19) "_law_order",
 o12,
 tfO (tp 20) "_law_ranks",
 o12,
 tfO (tp 21) "_law_sorter",
 o12,
 tfO (tp 22) "_law_chunks",
 o12,
 tfO (tp 23) "_law_folded",
 o12,
 tfO (tp 24) "_law_parted",
 o12,
 tfO (tp 25) "_law_records",
 o12,
 tfO (tp 26) "_law_freed",
 o12,
 tfO (tp 27) "_law_run",
 o12,
 tfO (tp 28) "law"]
noncomputable def mrg (n:Nat):Nat->Frag->List Obj->List Obj :=
 Nat.rec (motive:=fun _=>Nat->Frag->List Obj->List Obj) (fun _ _ _=>[]) (fun _ r i k e=>List.casesOn (motive:=fun _=>List Obj) k e fun x k'=>cond (Nat.beq x.1 i) (x.2::r (i+1) k' e) (List.casesOn (motive:=fun _=>List Obj) e [] fun p e'=>p::r (i+1) k e')) n
noncomputable def hpL (P:Params):List Obj:=mrg 393 0 (K1 P) restO
noncomputable def altL (l:List Obj):List Obj×List Obj:=List.rec (motive:=fun _=>List Obj×List Obj) ([],[]) (fun v _ r=>(v::r.2,r.1)) l
noncomputable def ofL (n:Nat):List Obj->BT:=Nat.rec (motive:=fun _=>List Obj->BT) (fun _=>.nil) (fun _ r l=>List.casesOn (motive:=fun _=>BT) l .nil fun v t=>.node v (r (altL t).1) (r (altL t).2)) n
noncomputable def tB (P:Params):BT:=ofL 10 (hpL P)
noncomputable abbrev enT (t:BT) (os:OsState):SharedT:={ tree:=t,n:=392,life:={},gens:=⟨[]⟩,drawn:={},toks:=712,os:=os }
theorem goB (w:World) (os:OsState):goT w os=some (.next,enT (tB w.params) os,cE,p1):=by kernel_rfl
theorem segB (w:World) (os:OsState):segRun treeTable pr w 11 an 1 2521 (stT w os).abs (piecesOf (behindTheImports pr) env cE p0 [topFrame p0])=some (.next,(enT (tB w.params) os).abs,cE,p1) :=
 segRun_of (by rw [PySem.W.Fast.te10110043849684766642,Cb]; exact goB w os)
noncomputable abbrev goF (w:World) (os:OsState):=PySem.W.Fast.tw14082659384304107361 Ew pr w 11 an 2 (enT (tB w.params) os).abs ⟨doneF .next,cE,p1,[topFrame p0]⟩
noncomputable def hB (P:Params):Heap:=⟨⟨hpL P⟩,{}⟩
theorem goC (w:World) (os:OsState):goF w os=some { heap:=hB w.params,toks:=712,os:=os }:=by kernel_rfl
theorem run (w:World) (os:OsState):topRun treeTable pr w 11 an (12+(1+(2521+2))) { heap:=Ff w.params,drawn:=boot_drawn,toks:=boot_toks,os:=os } (topStub pr)=some { heap:=hB w.params,toks:=712,os:=os }:=by
 refine go_top (goA w os) (piece_block (blk w os) ?_)
 have e:behindTheImports pr++[]=behindTheImports pr:=AL _
 rw [← e]
 refine piece_app (segB w os) (piece_nil ?_)
 have:=goC w os
 rw [goF,← PySem.W.Fast.te14082659384304107361,← Cb] at this
 exact this
end
section
theorem Us (w:World):((Ff w.params).isNs mainGlobals&&(Array.mk ([]:List GenState)).size==0,(Ff w.params).objs.size,(Ff w.params).nsMap mainGlobals (A8 "__annotations__"))=(true,11,an):=by kernel_rfl
noncomputable def q:Program:={ pr with main:={ pr.main with body:=(((pr.main.body.eraseIdx 17).eraseIdx 12).eraseIdx 7).eraseIdx 1 } }
noncomputable abbrev loose:List Str:=[A8 "_NodeInfo",A8 "_Accumulator"]
noncomputable abbrev sB (w:World) (os:OsState):Shared:={ heap:=hB w.params,toks:=712,os:=os }
theorem U4 (w:World) (os:OsState):(staticsOk (importedModules pr.main.body) (Ff w.params) (hB w.params)&&namesBound pr (hB w.params)&&gensDone (sB w os)&&laidKept (Ff w.params) (hB w.params))=true:=by
 rw [E4]
 kernel_rfl
theorem U3 (w:World) (os:OsState):openSeen q loose (importedModules pr.main.body) (fun s=>xlAt q [] s&&recOk ro.records s) true (sB w os)=openGood q loose:=by
 rw [PySem.W.Fast.te4187177175401517315,E4]
 kernel_rfl
end
section
noncomputable abbrev as1:List Addr:=[0,1,2,3,4,5,6,7,9,11,13,15,17,18,20,21,22,24,25,27,29,30,32,33,35,36,37,39,40,41,42,43,46,48,49,51,53,54,55,56,59,61,62,64,66,67,69,70,72,73,74,76,77,79,80,81,83,84,86,87,88,91,92,93,95,96,98,99,100,102,103,105,106,107,109,110,112,113,114,116,117,119,120,121,123,124,126,127,128,130,131,133,134,135,136,137,138,139,142,144,145,147,149,151,152,154,155,156,158,159,161,162,163,165,166,168,169,170,172,173,175,176,177,179,180,182,183,184,186,187,189,190,191,193,194,196,197,198,200,201,203,204,205,207,208,210,211,212,213,214,215,216,219,221,222,223,225,227,228,229,231,232,234,235,236,238,239,241,242,243,244,246,247,249,250,251,252,254,255,257,258,259,261,262,264,265,266,268,269,271,272,273,274,276,277,279,280,281,283,284,286,287,288,289,291,292,294,295,296,297,298,299,300,303,305,306,308,309,310,312,313,315,316,317,319,320,322,323,324,326,327,329,330,331,333,334,336,337,338,340,341,343,344,345,348,349,350,353,354,355,358,359,360,363,364,365,368,369,370,372,373,375,376,377,380,381,382,385,386,387,390,391]
noncomputable def Ka (P:Params):Frag:=K1 P++[(260,o12),(267,o12)]
noncomputable abbrev hk:Hook:=kHook Ka (as1++[260,267]) (fun _=>rfl)
theorem U2 (w:World) (os:OsState):hk.obs (sB w os)=hk.val w:=by kernel_rfl
end
section
theorem said:B5.wellSaid=true:=by
 rw [PySem.W.Fast.te9446332074065402090]
 delta PySem.W.Fast.tw9446332074065402090 PySem.W.Fast.tw17960256430627541270 PySem.W.Fast.tw2436336058641802641 PySem.W.Fast.tw12908688711261696721
 repeat' (with_reducible refine look_both ?_ ?_)
 all_goals decide +kernel
theorem RP:(defOf q ro.name).isSome=true:=by kernel_rfl
noncomputable def dk:DefRec×List (Str×PySem.Expr):=(defOf q ro.name).get RP
theorem UI:defOf q ro.name=some (dk.1,dk.2):=by kernel_rfl
theorem TH:pr.theDef ro.name=some (dk.1.params,dk.1.body,dk.1.scope):=by kernel_rfl
theorem UH:kwWritten? dk.1.params.kwonlyargs dk.1.params.kw_defaults=some dk.2:=by kernel_rfl
theorem TM:(chainsOk q&&opensWell pr&&(frees ro&&(B5.row).within.isEmpty))=true:=by decide +kernel
theorem bare:B5.row.prog.bare:=⟨rfl,rfl,rfl,rfl,rfl,by decide +kernel⟩
theorem left:LeftO pr q loose (fun s=>xlAt q [] s&&recOk ro.records s) hk.obs hk.val 5166:=LeftO.of_pieces (boot_open rfl (by decide) (fun s=>rfl)) Us run (by decide) (fun w=>funext fun os=>looks_pair (U4 w os) (looks_pair (U3 w os) (U2 w os)))
theorem hd (walk:WalkO q loose (XL q []) hk.says ro dk.1 dk.2 fun f vs=>call f vs):B5.Holds:=by
 refine holds_law said fun sd=>?_
 refine holds_open (q:=q) (loose:=loose) (Xt:=fun s=>xlAt q [] s&&recOk ro.records s) (XP:=XL q []) (Yf:=hk.obs) (Ya:=hk.val) (YP:=hk.says) (N:=5166) left hk.of hk.keeps (fun s e=>xl_of s (BS.mp e).1) XL.keeps UI TH UH (fun s e=>recFacts_of (BS.mp e).2) (by rfl) sd TM bare ?_ walk
 w_witness2
end
section
noncomputable abbrev Lb:=Nat×Int
inductive AV where
 | rig (v:Value)
 | int (i:Int)
 | str (x:Str)
 | tup (xs:List AV)
 | lst (xs:List AV)
 | rng (a b c:Int)
 | slc (a b c:Option Int)
 | nxt (l:Lb)
 | bm (f:Addr) (l:Lb)
 | ref (l:Lb)
inductive AO where
 | list (xs:List AV)
 | dict (es:List (Int×AV)) (ep:Nat)
 | attrs (es:List (Str×AV))
 | inst (C:Addr) (d:Lb)
 | slots (C:Addr) (vs:List (Option AV))
 | acc (C:Addr) (xs:List AV) (d:Lb)
 | iset (S:Int->Bool) (n:Nat)
 | iter (l:Lb) (i:Nat)
 | dead
noncomputable abbrev AV.none:AV:=.rig .none
noncomputable abbrev AV.bool (b:Bool):AV:=.rig (.bool b)
noncomputable abbrev Hp:=Lb->Option AO
noncomputable def up (H:Hp) (l:Lb) (o:AO):Hp:=fun x=>if x=l then some o else H x
theorem Hb (H:Hp) (l:Lb) (o:AO):up H l o l=some o:=if_pos rfl
theorem Ha (H:Hp) {l x:Lb} (o:AO) (h:x≠l):up H l o x=H x:=if_neg h
structure St where
 loc:List (Option AV)
 H:Hp
abbrev PA:=AV->St->Prop
abbrev PB:=Bool->St->Prop
abbrev PV:=Value->Shared->Prop
noncomputable def lg (l:List (Option AV)) (i:Nat):Option AV:=(l[i]?).getD Av
structure Et where
 ρ:Lb->Addr
 D:Lb->Prop
 Z:Addr->Option Obj
noncomputable abbrev tupO (vs:Array Value) (n:Nat):Obj:={ cls:=.type "tuple",data:=.seq vs n }
noncomputable abbrev lstO (vs:Array Value) (n:Nat):Obj:={ cls:=.type "list",data:=.seq vs n }
inductive VR (η:Et):AV->Value->Prop where
 | rig (v:Value):VR η (.rig v) v
 | int (i:Int) (t:Tok):VR η (.int i) (.int i t)
 | str (x:Str) (t:Tok):VR η (.str x) (.str x t)
 | tup {a:Addr} {vs:Array Value} {n:Nat} {xs:List AV}:η.Z a=some (tupO vs n)->L2 (VR η) xs vs.toList->VR η (.tup xs) (.ref a)
 | lst {a:Addr} {vs:Array Value} {n:Nat} {xs:List AV}:η.Z a=some (lstO vs n)->L2 (VR η) xs vs.toList->VR η (.lst xs) (.ref a)
 | rng {a b c:Int} {t u v:Tok} {x:Addr}:η.Z x=some { cls:=.type "range",data:=.fields #[.int a t,.int b u,.int c v] }->VR η (.rng a b c) (.ref x)
 | slc {a b c:Option Int} {u v w:Value} {x:Addr}:IsPart u a->IsPart v b->IsPart w c->η.Z x=some { cls:=.type "slice",data:=.fields #[u,v,w] }->VR η (.slc a b c) (.ref x)
 | nxt {l:Lb} {x:Addr}:η.D l->η.Z x=some { cls:=.type "method-wrapper",data:=.fields #[.builtin "list_iterator.__next__",.ref (η.ρ l)] }->VR η (.nxt l) (.ref x)
 | bm {f:Addr} {l:Lb} {x:Addr}:η.D l->η.Z x=some (methodObj (.ref f) (.ref (η.ρ l)))->VR η (.bm f l) (.ref x)
 | ref {l:Lb}:η.D l->VR η (.ref l) (.ref (η.ρ l))
noncomputable abbrev VRs (η:Et):List AV->List Value->Prop:=L2 (VR η)
section
variable {η:Et}
noncomputable def VRI (η:Et) (a:AV) (v:Value):Prop:=@AV.casesOn (fun _=>Prop) a (fun w=>v=w) (fun i=>∃ t,v=.int i t) (fun x=>∃ t,v=.str x t) (fun xs=>Ex3 fun a vs n=>An3 (v=.ref a) (η.Z a=some (tupO vs n)) (VRs η xs vs.toList)) (fun xs=>Ex3 fun a vs n=>An3 (v=.ref a) (η.Z a=some (lstO vs n)) (VRs η xs vs.toList))
 (fun a b c=>Ex4 fun x t u w=>v=.ref x∧η.Z x=some { cls:=.type "range",data:=.fields #[.int a t,.int b u,.int c w] }) (fun a b c=>Ex4 fun x p q r=>An5 (v=.ref x) (IsPart p a) (IsPart q b) (IsPart r c) (η.Z x=some { cls:=.type "slice",data:=.fields #[p,q,r] })) (fun l=>∃ x,An3 (v=.ref x) (η.D l) (η.Z x=some { cls:=.type "method-wrapper",data:=.fields #[.builtin "list_iterator.__next__",.ref (η.ρ l)] })) (fun f l=>∃ x,An3 (v=.ref x) (η.D l) (η.Z x=some (methodObj (.ref f) (.ref (η.ρ l))))) (fun l=>v=.ref (η.ρ l)∧η.D l)
theorem VR.inv {a:AV} {v:Value} (h:VR η a v):VRI η a v :=
 @VR.casesOn η (fun a v _=>VRI η a v) a v h (fun _=>rfl) (fun _ t=>⟨t,rfl⟩) (fun _ t=>⟨t,rfl⟩) (fun z r=>⟨_,_,_,rfl,z,r⟩) (fun z r=>⟨_,_,_,rfl,z,r⟩) (fun z=>⟨_,_,_,_,rfl,z⟩) (fun p q r z=>⟨_,_,_,_,rfl,p,q,r,z⟩)
  (fun d z=>⟨_,rfl,d,z⟩) (fun d z=>⟨_,rfl,d,z⟩) (fun d=>⟨rfl,d⟩)
theorem VR.rigE {v v':Value} (h:VR η (.rig v) v'):v'=v:=h.inv
theorem VR.intE {i:Int} {v:Value} (h:VR η (.int i) v):∃ t,v=.int i t:=h.inv
theorem VR.strE {x:Str} {v:Value} (h:VR η (.str x) v):∃ t,v=.str x t:=h.inv
theorem VR.tupE {xs:List AV} {v:Value} (h:VR η (.tup xs) v):Ex3 fun a vs n=>An3 (v=.ref a) (η.Z a=some (tupO vs n)) (VRs η xs vs.toList):=h.inv
theorem VR.lstE {xs:List AV} {v:Value} (h:VR η (.lst xs) v):Ex3 fun a vs n=>An3 (v=.ref a) (η.Z a=some (lstO vs n)) (VRs η xs vs.toList):=h.inv
theorem VR.rngE {a b c:Int} {v:Value} (h:VR η (.rng a b c) v):Ex4 fun x t u w=>v=.ref x∧η.Z x=some { cls:=.type "range",data:=.fields #[.int a t,.int b u,.int c w] }:=h.inv
theorem VR.slcE {a b c:Option Int} {v:Value} (h:VR η (.slc a b c) v):Ex4 fun x p q r=>An5 (v=.ref x) (IsPart p a) (IsPart q b) (IsPart r c) (η.Z x=some { cls:=.type "slice",data:=.fields #[p,q,r] }):=h.inv
theorem VR.nxtE {l:Lb} {v:Value} (h:VR η (.nxt l) v):∃ x,An3 (v=.ref x) (η.D l) (η.Z x=some { cls:=.type "method-wrapper",data:=.fields #[.builtin "list_iterator.__next__",.ref (η.ρ l)] }):=h.inv
theorem VR.bmE {f:Addr} {l:Lb} {v:Value} (h:VR η (.bm f l) v):∃ x,An3 (v=.ref x) (η.D l) (η.Z x=some (methodObj (.ref f) (.ref (η.ρ l)))):=h.inv
theorem VR.refE {l:Lb} {v:Value} (h:VR η (.ref l) v):v=.ref (η.ρ l)∧η.D l:=h.inv
theorem VRs.nilE {vs:List Value} (h:VRs η [] vs):vs=[]:=by cases h; rfl
theorem VRs.consE {x:AV} {xs:List AV} {vs:List Value} (h:VRs η (x::xs) vs):Ex2 fun v r=>An3 (vs=v::r) (VR η x v) (VRs η xs r):=by cases h with | cons a b=>exact ⟨_,_,rfl,a,b⟩
theorem VRs.E1 {x:AV} {vs:List Value} (h:VRs η [x] vs):∃ v,vs=[v]∧VR η x v:=by obtain ⟨v,r,rfl,a,b⟩:=h.consE; obtain rfl:=b.nilE; exact ⟨v,rfl,a⟩
theorem VRs.E2 {x y:AV} {vs:List Value} (h:VRs η [x,y] vs):Ex2 fun v u=>An3 (vs=[v,u]) (VR η x v) (VR η y u):=by obtain ⟨v,r,rfl,a,b⟩:=h.consE; obtain ⟨u,rfl,d⟩:=b.E1; exact ⟨v,u,rfl,a,d⟩
theorem VRs.E3 {x y z:AV} {vs:List Value} (h:VRs η [x,y,z] vs):Ex3 fun v u w=>An4 (vs=[v,u,w]) (VR η x v) (VR η y u) (VR η z w):=by obtain ⟨v,r,rfl,a,b⟩:=h.consE; obtain ⟨u,w,rfl,c,d⟩:=b.E2; exact ⟨v,u,w,rfl,a,c,d⟩
end
structure Et.le (η η':Et):Prop where
 D:∀ l,η.D l->η'.D l
 ρ:∀ l,η.D l->η'.ρ l=η.ρ l
 Z:∀ a o,η.Z a=some o->η'.Z a=some o
theorem Et.le.refl (η:Et):η.le η:=⟨fun _ h=>h,fun _ _=>rfl,fun _ _ h=>h⟩
theorem Et.le.trans {a b c:Et} (x:a.le b) (y:b.le c):a.le c :=
 ⟨fun l h=>y.D l (x.D l h),fun l h=>(y.ρ l (x.D l h)).trans (x.ρ l h),fun l o h=>y.Z l o (x.Z l o h)⟩
theorem VR.mono {η η':Et} (h:η.le η') {v:AV} {v':Value} (r:VR η v v'):VR η' v v' :=
 VR.rec (motive_1:=fun v v' _=>VR η' v v') (motive_2:=fun xs vs _=>L2 (VR η') xs vs) .rig .int .str (fun z _ r=>.tup (h.Z _ _ z) r) (fun z _ r=>.lst (h.Z _ _ z) r) (fun z=>.rng (h.Z _ _ z)) (fun p q r z=>.slc p q r (h.Z _ _ z))
  (fun d z=>.nxt (h.D _ d) (by rw [h.ρ _ d]; exact h.Z _ _ z)) (fun d z=>.bm (h.D _ d) (by rw [h.ρ _ d]; exact h.Z _ _ z)) (fun d=>(h.ρ _ d)▸.ref (h.D _ d)) .nil (fun _ _ a b=>.cons a b) r
theorem VRs.mono {η η':Et} (h:η.le η') {v:List AV} {v':List Value} (r:VRs η v v'):VRs η' v v':=L2.mono (fun _ _ a=>a.mono h) r
theorem VRs.set {η:Et} {xs:List AV} {vs:List Value} (h:VRs η xs vs) {i:Nat} {x:AV} {v:Value} (r:VR η x v):VRs η (xs.set i x) (vs.set i v):=L2.set r h
inductive OVR (η:Et):Option AV->Option Value->Prop where
 | none:OVR η Av Av
 | some {v:AV} {v':Value}:VR η v v'->OVR η (Option.some v) (Option.some v')
theorem OVR.mono {η η':Et} (h:η.le η') {v:Option AV} {v':Option Value}:OVR η v v'->OVR η' v v'
 | .none=>.none
 | .some a=>.some (a.mono h)
noncomputable abbrev OVRs (η:Et):List (Option AV)->List (Option Value)->Prop:=L2 (OVR η)
theorem OVRs.mono {η η':Et} (h:η.le η') {v:List (Option AV)} {v':List (Option Value)} (r:OVRs η v v'):OVRs η' v v':=L2.mono (fun _ _ a=>a.mono h) r
inductive IEs (η:Et):List (Int×AV)->List DictEntry->Prop where
 | nil:IEs η [] []
 | cons {k:Int} {t:Tok} {x:AV} {v:Value} {hh:Int} {xs:List (Int×AV)} {es:List DictEntry}:hashInt k=hh->VR η x v->IEs η xs es->IEs η ((k,x)::xs) (⟨hh,.int k t,v⟩::es)
theorem IEs.mono {η η':Et} (h:η.le η') {xs:List (Int×AV)} {es:List DictEntry} (r:IEs η xs es):IEs η' xs es:=by
 induction r with
 | nil=>exact .nil
 | cons e a _ ih=>exact .cons e (a.mono h) ih
inductive SEs (w:World) (η:Et):List (Str×AV)->List DictEntry->Prop where
 | nil:SEs w η [] []
 | cons {k:Str} {t:Tok} {x:AV} {v:Value} {xs:List (Str×AV)} {es:List DictEntry}:VR η x v->SEs w η xs es->SEs w η ((k,x)::xs) (⟨AZ w.params k,.str k t,v⟩::es)
theorem SEs.mono {w:World} {η η':Et} (h:η.le η') {xs:List (Str×AV)} {es:List DictEntry} (r:SEs w η xs es):SEs w η' xs es:=by
 induction r with
 | nil=>exact .nil
 | cons a _ ih=>exact .cons (a.mono h) ih
noncomputable def OR (w:World) (η:Et):AO->Obj->Prop
 | .list xs,o=>Ex2 fun vs n=>o=lstO vs n∧VRs η xs vs.toList
 | .dict es ep,o=>∃ en,An3 (o={ cls:=.type "dict",data:=.dict en ep }) (IEs η es en.toList) ((es.map (·.1)).Nodup)
 | .attrs es,o=>Ex2 fun en n=>An3 (o={ cls:=.type "dict",data:=.dict en n }) (SEs w η es en.toList) ((es.map (·.1)).Nodup)
 | .inst C d,o=>o={ cls:=.ref C,dict:=some (η.ρ d),data:=.plain }∧η.D d
 | .slots C vs,o=>Ex2 fun sl dx=>An3 (o={ cls:=.ref C,dict:=some dx,data:=.plain,slots:=sl }) (OVRs η vs sl.toList) (η.Z dx=some { cls:=.type "dict",data:=.dict #[] })
 | .acc C xs d,o=>Ex2 fun vs n=>An3 (o={ cls:=.ref C,dict:=some (η.ρ d),data:=.seq vs n }) (VRs η xs vs.toList) (η.D d)
 | .iset S n,o=>o.IntSetOf S n
 | .iter l i,o=>o={ cls:=.type "list_iterator",data:=.fields #[.ref (η.ρ l),.int i 0] }∧η.D l
 | .dead,_=>True
theorem OR.mono {w:World} {η η':Et} (h:η.le η') {x:AO} {o:Obj} (r:OR w η x o):OR w η' x o:=by
 cases x with
 | list=>obtain ⟨vs,n,e,r⟩:=r; exact ⟨vs,n,e,r.mono h⟩
 | dict=>obtain ⟨vs,e,r,n⟩:=r; exact ⟨vs,e,r.mono h,n⟩
 | attrs=>obtain ⟨vs,n,e,r,q⟩:=r; exact ⟨vs,n,e,r.mono h,q⟩
 | inst C d=>obtain ⟨e,dd⟩:=r; exact ⟨by rw [h.ρ _ dd]; exact e,h.D _ dd⟩
 | slots=>obtain ⟨sl,dx,e,r,z⟩:=r; exact ⟨sl,dx,e,r.mono h,h.Z _ _ z⟩
 | acc=>obtain ⟨vs,n,e,r,dd⟩:=r; exact ⟨vs,n,by rw [h.ρ _ dd]; exact e,r.mono h,h.D _ dd⟩
 | iset=>exact r
 | iter l i=>obtain ⟨e,dd⟩:=r; exact ⟨by rw [h.ρ _ dd]; exact e,h.D _ dd⟩
 | dead=>trivial
structure Cx where
 A:Around
 env:Env
 fe:List Env
 L:Addr
 ns:List (Str×Bool)
 k:Nat
 hd:Bool:=false
 oc:List (Str×Addr)
noncomputable def Cx.own (c:Cx) (b:Addr):Prop:=b=c.L∨∃ x,(x,b)∈c.oc
structure Cx.Ok (c:Cx):Prop where
 kind:c.env.scope.kind=.function
 locals:c.env.locals=c.L
 globals:c.env.globals=mainGlobals
 builtins:c.env.builtins=builtinsNs
 frames:c.A.frames=some c.fe
 depth:c.A.depth+c.k≤900
 units:c.A.units+50*c.k≤9000
 handled:c.hd=false->c.A.handled=none
 names:∀ x b,(x,b)∈c.ns->(x==("__debug__" : Str))=false∧(x==("__classdict__" : Str))=false∧(match b with | false=>c.env.kindOf x=some .local | true=>c.env.kindOf x=some .cell∧∃ ca,c.oc.lookup x=some ca)
 nd:(c.ns.map (·.1)).Nodup
 cnd:c.oc.Pairwise fun x y=>x.2≠y.2
 cL:∀ x b,(x,b)∈c.oc->b≠c.L
 ce:∀ x a,c.oc.lookup x=some a->c.env.cells.lookup x=some a
inductive FRi (ns:List (Str×Bool)) (oc:List (Str×Addr)) (L:Addr) (η:Et) (loc:List (Option AV)) (h:Heap):Prop where
 | mk (ln:loc.length=ns.length) (ct:∀ x b,(x,b)∈oc->∃ v,h.IsCell b v) (m:Str->Option Value) (hn:h.Ns L m) (r:∀ i x b,ns[i]?=some (x,b)->match b with
  | false=>OVR η (lg loc i) (m x)
  | true=>Ex2 fun ca vo=>An3 (oc.lookup x=some ca) (h.IsCell ca vo) (OVR η (lg loc i) vo)):FRi ns oc L η loc h
noncomputable abbrev FR (c:Cx):Et->List (Option AV)->Heap->Prop:=FRi c.ns c.oc c.L
noncomputable def eH:Heap:={ objs:=#[] }
structure Gb where
 prog:Program
 w:World
 K:Frag
 h₀:Heap
 os₀:OsState
 mg:Str->Option Value
 mb:Str->Option Value
structure Gb.Ok (G:Gb):Prop where
 X:G.K.In G.h₀
 Kc:∀ a o,G.K.lookup a=some o->o.cls≠.none∨a=cStatics
 g:G.h₀.Ns mainGlobals G.mg
 b:G.h₀.Ns builtinsNs G.mb
 bb:∀ x:Str,x ≠ "__name__" → G.mb x=bootBuiltins x
 lim:G.h₀.NoLimit
noncomputable def Gb.tb (G:Gb) (b:Addr):Prop:=b≠cStatics∧Ex2 fun c ps=>G.h₀.TableAt c b ps
noncomputable def Tabs (h₀ h:Heap):Prop:=∀ c P ps,h₀.IsCode c P ps->h₀.TableAt c P ps->(∀ o,h₀.get? c=some o->h.get? c=some o)∧∃ ps',TriplesOk ps'.toList∧h.get? P=some (tabObj ps')
theorem Tabs.refl (h:Heap):Tabs h h:=fun c P ps x y=>⟨fun _ e=>e,ps,UE x fun _ _ _ _ _ _ _ _ _ _ y=>y.2.2.2.2.2.2.2.2.2.1,y.2⟩
theorem Tabs.keeps {h₀ h h':Heap} (x:Tabs h₀ h) (hk:∀ b o,h.get? b=some o->h'.get? b=some o):Tabs h₀ h':=fun c P ps a b=>let ⟨k,ps',y,z⟩:=x c P ps a b; ⟨fun _ e=>hk _ _ (k _ e),ps',y,hk _ _ z⟩
theorem Tabs.extBut {h₀ h h':Heap} (x:Tabs h₀ h) {a:Addr} (ha:h₀.objs.size≤a) (hx:DT a h h'):Tabs h₀ h':=fun c P ps e b =>
 let ⟨k,ps',y,z⟩:=x c P ps e b
 ⟨fun _ e=>hx _ _ (AE (An (Ba e) ha)) (k _ e),ps',y,hx _ _ (AE (An (Ba b.2) ha)) z⟩
structure Rel (G:Gb) (c:Cx) (η:Et) (σ:St) (s:Shared):Prop where
 gok:G.Ok
 ok:c.Ok
 heap:∀ l o,σ.H l=some o->∃ o',s.heap.get? (η.ρ l)=some o'∧OR G.w η o o'
 dom:∀ l,η.D l↔σ.H l≠none
 inj:∀ l l',η.D l->η.D l'->η.ρ l=η.ρ l'->l=l'
 sep:∀ l o,σ.H l=some o->o≠.dead->η.Z (η.ρ l)=none
 low:∀ l,η.D l->G.h₀.objs.size≤η.ρ l
 frz:∀ a o,η.Z a=some o->s.heap.get? a=some o
 old:OldK G.h₀ s.heap
 bk:∀ b o,G.h₀.get? b=some o->¬G.tb b->s.heap.get? b=some o
 gens:AllBare s.gens
 os:s.os=G.os₀
 zt:∀ b o,G.h₀.get? b=some o->η.Z b=none
 tabs:Tabs G.h₀ s.heap
 fr:FR c η σ.loc s.heap
 ownl:∀ b,c.own b->G.h₀.objs.size≤b∧η.Z b=none∧∀ l,η.D l->η.ρ l≠b
 ff:s.heap.FunFrames eH c.fe
 fu:∀ e∈c.fe,∀ b,e.frame=some b->G.h₀.objs.size≤b∧(∀ l,η.D l->η.ρ l≠b)∧η.Z b=none
 fd:∀ e∈c.fe,∀ b,e.frame=some b->Ex3 fun o es ep=>s.heap.get? b=some o∧o.data=.dict es ep
noncomputable def Sim (o o':Obj):Prop:=o'=o∨Ex3 fun es ep sl=>o.data=.dict es ep∧o'={ o with slots:=sl }
theorem Sim.data {o o':Obj} (h:Sim o o'):o'.data=o.data:=by rcases h with rfl | ⟨_,_,_,_,rfl⟩<;>rfl
theorem Sim.fld {o o':Obj} (h:Sim o o') (n:∀ es ep,o.data≠.dict es ep):o'=o:=h.resolve_right fun ⟨es,ep,_,e,_⟩=>n es ep e
theorem Sim.refl (o:Obj):Sim o o:=.inl rfl
theorem Sim.trans {a b c:Obj} (x:Sim a b) (y:Sim b c):Sim a c:=by
 rcases x with rfl | ⟨es,ep,sl,e,rfl⟩
 ·exact y
 ·rcases y with rfl | ⟨es',ep',sl',e',rfl⟩
  ·exact .inr ⟨es,ep,sl,e,rfl⟩
  ·exact .inr ⟨es,ep,sl',e,rfl⟩
structure Stp (G:Gb) (own:Addr->Prop) (η η':Et) (s s':Shared):Prop where
 le:η.le η'
 ex:∀ b o,s.heap.get? b=some o->∃ o',s'.heap.get? b=some o'
 new:∀ l,η'.D l->¬η.D l->s.heap.get? (η'.ρ l)=none
 newZ:∀ a o,η'.Z a=some o->η.Z a=some o∨s.heap.get? a=none∨∃ l,η.D l∧η.ρ l=a
 fm:∀ b o,G.h₀.objs.size≤b->s.heap.get? b=some o->(∀ l,η.D l->η.ρ l≠b)->¬own b->∃ o',s'.heap.get? b=some o'∧Sim o o'
theorem Stp.refl (G:Gb) (own:Addr->Prop) (η:Et) (s:Shared):Stp G own η η s s:=⟨.refl η,fun _ o e=>⟨o,e⟩,fun _ a b=>(b a).elim,fun _ _ e=>.inl e,fun _ o _ e _ _=>⟨o,e,.refl o⟩⟩
theorem Stp.kept {G:Gb} {own:Addr->Prop} {η η':Et} {s s':Shared} (x:Stp G own η η' s s') {b:Addr} {o:Obj} (lo:G.h₀.objs.size≤b) (e:s.heap.get? b=some o) (u:∀ l,η.D l->η.ρ l≠b) (uo:¬own b) (d:(∃ vs,o.data=.fields vs)∨∃ vs n,o=lstO vs n):s'.heap.get? b=some o :=
 let ⟨o',e',sm⟩:=x.fm b o lo e u uo
 have q:o'=o:=sm.fld fun _ _ q=>d.elim (fun ⟨_,d⟩=>by rw [q] at d; contradiction) fun ⟨_,_,d⟩=>by rw [d] at q; contradiction
 q▸e'
theorem Stp.un {G:Gb} {own:Addr->Prop} {η η':Et} {s s':Shared} (x:Stp G own η η' s s') {b:Addr} {o:Obj} (e:s.heap.get? b=some o) (u:∀ l,η.D l->η.ρ l≠b):∀ l,η'.D l->η'.ρ l≠b:=fun l hl q=>by
 by_cases h:η.D l
 ·exact u l h ((x.le.ρ l h)▸q)
 ·have:=x.new l hl h
  rw [q,e] at this; exact sn this
theorem Stp.unZ {G:Gb} {own:Addr->Prop} {η η':Et} {s s':Shared} (x:Stp G own η η' s s') {b:Addr} {o:Obj} (e:s.heap.get? b=some o) (u:∀ l,η.D l->η.ρ l≠b) (z:η.Z b=none):η'.Z b=none:=by
 cases q:η'.Z b with
 | none=>rfl
 | some ob =>
  rcases x.newZ b ob q with h | h | ⟨l,d,h⟩
  ·rw [z] at h; exact ns h
  ·rw [e] at h; exact sn h
  ·exact (u l d h).elim
theorem Stp.trans {G:Gb} {own:Addr->Prop} {η η' η'':Et} {s s' s'':Shared} (x:Stp G own η η' s s') (y:Stp G own η' η'' s' s''):Stp G own η η'' s s'':=by
 refine ⟨x.le.trans y.le,fun b o e=>let ⟨o',e'⟩:=x.ex b o e; y.ex b o' e',fun l a b=>?_,fun a o e=>?_,fun b o hb e u ow=>?_⟩
 ·by_cases h:η'.D l
  ·rw [y.le.ρ l h]; exact x.new l h b
  ·cases q:s.heap.get? (η''.ρ l) with
   | none=>rfl
   | some o =>
    obtain ⟨o',e'⟩:=x.ex _ o q
    rw [y.new l a h] at e'; exact ns e'
 ·rcases y.newZ a o e with h | h | ⟨l,d,h⟩
  ·exact x.newZ a o h
  ·cases q:s.heap.get? a with
   | none=>exact .inr (.inl rfl)
   | some oa=>obtain ⟨o',e'⟩:=x.ex _ oa q; rw [h] at e'; exact ns e'
  ·by_cases hd:η.D l
   ·exact .inr (.inr ⟨l,hd,(x.le.ρ l hd).symm.trans h⟩)
   ·exact .inr (.inl (h▸x.new l d hd))
 ·obtain ⟨o',e',d'⟩:=x.fm b o hb e u ow
  obtain ⟨o'',e'',d''⟩:=y.fm b o' hb e' (x.un e u) ow
  exact ⟨o'',e'',d'.trans d''⟩
theorem Stp.wide {G:Gb} {own own':Addr->Prop} {η η':Et} {s s':Shared} (x:Stp G own η η' s s') (h:∀ b,own b->own' b):Stp G own' η η' s s':=⟨x.le,x.ex,x.new,x.newZ,fun b o hb e u ow=>x.fm b o hb e u fun q=>ow (h b q)⟩
theorem Stp.narrow {G:Gb} {own own':Addr->Prop} {η η':Et} {s s':Shared} (x:Stp G own' η η' s s') (h:∀ b o,s.heap.get? b=some o->own' b->own b):Stp G own η η' s s':=⟨x.le,x.ex,x.new,x.newZ,fun b o hb e u ow=>x.fm b o hb e u fun q=>ow (h b o e q)⟩
theorem Sp {h h':Heap} {a:Addr} {m:Str->Option Value} (hn:h.Ns a m) (e:∀ o,h.get? a=some o->∃ o',h'.get? a=some o'∧o'.data=o.data):h'.Ns a m:=by
 obtain ⟨o,es,ep,x,d,r⟩:=hn
 obtain ⟨o',x',d'⟩:=e o x
 exact ⟨o',es,ep,x',d'.trans d,r⟩
theorem Ke {h h':Heap} {a:Addr} {v:Option Value} (hn:h.IsCell a v) (e:∀ o,h.get? a=some o->∃ o',h'.get? a=some o'∧o'.data=o.data):h'.IsCell a v:=by
 obtain ⟨o,x,d⟩:=hn
 obtain ⟨o',x',d'⟩:=e o x
 exact ⟨o',x',d'.trans d⟩
theorem He {α:Type} {l:List (Str×α)} {x:Str} {a:α} (e:l.lookup x=some a):(x,a)∈l:=mem_of_lookup e
theorem FR.step {c:Cx} {η η':Et} {loc:List (Option AV)} {h h':Heap} (F:FR c η loc h) (le:η.le η') (e:∀ b,c.own b->∀ o,h.get? b=some o->∃ o',h'.get? b=some o'∧o'.data=o.data):FR c η' loc h':=by
 obtain ⟨ln,ct,m,hn,r⟩:=F
 refine ⟨ln,fun x b hb=>let ⟨v,hv⟩:=ct x b hb; ⟨v,Ke hv (e b (.inr ⟨x,hb⟩))⟩,m,Sp hn (e c.L (.inl rfl)),fun i x b hb=>?_⟩
 have:=r i x b hb
 cases b with
 | false=>exact OVR.mono le this
 | true =>
  obtain ⟨ca,vo,hl,hc,hv⟩:=this
  exact ⟨ca,vo,hl,Ke hc (e ca (.inr ⟨x,He hl⟩)),hv.mono le⟩
theorem RN {h h' base:Heap} {l:List Env} (ff:h.FunFrames base l) (k:∀ e∈l,∀ b,e.frame=some b->h'.get? b=h.get? b):h'.FunFrames base l:=by
 induction l with
 | nil=>trivial
 | cons e r ih =>
  obtain ⟨hk,⟨L,o,hf,hn,ho,hd⟩,hr⟩:=ff
  exact ⟨hk,⟨L,o,hf,hn,(k e (.head _) L hf).trans ho,hd⟩,ih hr fun e he=>k e (.tail _ he)⟩
section
variable {G:Gb} {c:Cx} {η:Et} {σ:St} {s:Shared}
theorem Rel.ext (R:Rel G c η σ s) {h':Heap} {tk:Nat} (hk:∀ b o,s.heap.get? b=some o->h'.get? b=some o):Rel G c η σ { s with heap:=h',toks:=tk } where
 gok:=R.gok
 ok:=R.ok
 heap:=fun l o e=>let ⟨o',a,b⟩:=R.heap l o e; ⟨o',hk _ _ a,b⟩
 dom:=R.dom
 inj:=R.inj
 sep:=R.sep
 low:=R.low
 frz:=fun a o e=>hk _ _ (R.frz a o e)
 old:=R.old.step_keeps hk
 bk:=fun b o e n=>hk _ _ (R.bk b o e n)
 gens:=R.gens
 os:=R.os
 zt:=R.zt
 tabs:=R.tabs.keeps hk
 fr:=R.fr.step (.refl η) fun b _ o e=>⟨o,hk _ _ e,rfl⟩
 ownl:=R.ownl
 ff:=R.ff.of_keeps fun b o e _=>⟨o,hk _ _ e,rfl⟩
 fu:=R.fu
 fd:=fun e he b hb=>let ⟨o,es,ep,z,d⟩:=R.fd e he b hb; ⟨o,es,ep,hk _ _ z,d⟩
theorem Stp.ext {own:Addr->Prop} {h':Heap} {tk:Nat} (hk:∀ b o,s.heap.get? b=some o->h'.get? b=some o):Stp G own η η s { s with heap:=h',toks:=tk } :=
 ⟨.refl η,fun b o e=>⟨o,hk b o e⟩,fun _ a b=>(b a).elim,fun _ _ e=>.inl e,fun b o _ e _ _=>⟨o,hk b o e,.refl o⟩⟩
theorem Rel.ownThere (R:Rel G c η σ s) {b:Addr} (ow:c.own b):∃ o,s.heap.get? b=some o:=by
 obtain ⟨_,ct,m,hns,_⟩:=R.fr
 rcases ow with rfl | ⟨x,hx⟩
 ·obtain ⟨oL,_,_,z,_⟩:=hns; exact ⟨oL,z⟩
 ·obtain ⟨v,o,z,_⟩:=ct x b hx; exact ⟨o,z⟩
theorem Rel.labThere (R:Rel G c η σ s) {l:Lb} (d:η.D l):∃ o,s.heap.get? (η.ρ l)=some o:=by
 cases e:σ.H l with
 | none=>exact ((R.dom l).mp d e).elim
 | some ao=>obtain ⟨o',z,_⟩:=R.heap l ao e; exact ⟨o',z⟩
theorem Rel.D_of (R:Rel G c η σ s) {l:Lb} {o:AO} (e:σ.H l=some o):η.D l:=(R.dom l).mpr (by rw [e]; exact Dl _)
noncomputable def Et.addZ (η:Et) (a:Addr) (o:Obj):Et:=⟨η.ρ,η.D,fun x=>if x=a then some o else η.Z x⟩
theorem Rel.addZ (R:Rel G c η σ s) {h':Heap} {tk:Nat} {a:Addr} {o:Obj} (hk:∀ b o,s.heap.get? b=some o->h'.get? b=some o) (hn:s.heap.get? a=none) (ha:h'.get? a=some o) :
  Rel G c (η.addZ a o) σ { s with heap:=h',toks:=tk }∧∀ own,Stp G own η (η.addZ a o) s { s with heap:=h',toks:=tk }:=by
 have le:η.le (η.addZ a o):=⟨fun _ h=>h,fun _ _=>rfl,fun x ox e=>by
  show (if x=a then some o else η.Z x)=some ox
  by_cases q:x=a
  ·subst q; have:=R.frz _ _ e; rw [hn] at this; exact ns this
  ·rw [if_neg q]; exact e⟩
 have X:=R.ext (tk:=tk) hk
 have nl:∀ l,η.D l->η.ρ l≠a:=fun l d q=>by obtain ⟨o',z⟩:=R.labThere d; rw [q,hn] at z; exact ns z
 refine ⟨⟨X.gok,X.ok,fun l o e=>let ⟨o',z,r⟩:=X.heap l o e; ⟨o',z,r.mono le⟩,X.dom,X.inj,fun l o e d=>?_,X.low,fun x ox e=>?_,X.old,X.bk,X.gens,X.os,fun b o e=>by
   show (if b=a then some _ else η.Z b)=none
   obtain ⟨o',z⟩:=R.old.there b o e
   rw [if_neg (fun q=>by rw [q,hn] at z; exact ns z)]; exact R.zt b o e,X.tabs,X.fr.step le fun b _ o e=>⟨o,e,rfl⟩,fun b ow=>?_,X.ff,fun e he b hb=>by
   obtain ⟨b1,b2,b3⟩:=R.fu e he b hb
   refine ⟨b1,b2,?_⟩
   show (if b=a then some _ else η.Z b)=none
   obtain ⟨_,ob,zb,_⟩:=R.ff.mem (C0.mpr ⟨e,he,hb⟩)
   rw [if_neg (fun q=>by rw [q,hn] at zb; exact ns zb)]; exact b3,X.fd⟩,
  fun own=>⟨le,fun b o e=>⟨o,hk b o e⟩,fun _ a b=>(b a).elim,fun x ox e=>?_,fun b o _ e _ _=>⟨o,hk b o e,.refl o⟩⟩⟩
 ·show (if η.ρ l=a then some _ else η.Z (η.ρ l))=none
  rw [if_neg (nl l ((R.dom l).mpr (by rw [e]; exact Dl _)))]; exact R.sep l o e d
 ·have e:(if x=a then some o else η.Z x)=some ox:=e
  by_cases q:x=a
  ·subst q; rw [if_pos rfl] at e; obtain rfl:=Option.some.inj e; exact ha
  ·rw [if_neg q] at e; exact hk _ _ (R.frz x ox e)
 ·obtain ⟨a1,a2,a3⟩:=R.ownl b ow
  refine ⟨a1,?_,a3⟩
  show (if b=a then some o else η.Z b)=none
  by_cases q:b=a
  ·subst q
   exfalso
   obtain ⟨ob,z⟩:=R.ownThere ow; rw [hn] at z; exact ns z
  ·rw [if_neg q]; exact a2
 ·have e:(if x=a then some o else η.Z x)=some ox:=e
  by_cases q:x=a
  ·subst q; exact .inr (.inl hn)
  ·rw [if_neg q] at e; exact .inl e
noncomputable def Et.addL (η:Et) (l:Lb) (a:Addr):Et:=⟨fun x=>if x=l then a else η.ρ x,fun x=>x=l∨η.D x,η.Z⟩
theorem Rel.addL (R:Rel G c η σ s) {h':Heap} {tk:Nat} {a:Addr} {o:Obj} {l:Lb} {ao:AO} (hk:∀ b o,s.heap.get? b=some o->h'.get? b=some o) (hn:s.heap.get? a=none) (ha:h'.get? a=some o)
  (hb:G.h₀.objs.size≤a) (hl:σ.H l=none) (hr:OR G.w (η.addL l a) ao o) :
  Rel G c (η.addL l a) { σ with H:=up σ.H l ao } { s with heap:=h',toks:=tk }∧∀ own,Stp G own η (η.addL l a) s { s with heap:=h',toks:=tk }:=by
 have nd:¬η.D l:=fun d=>(R.dom l).mp d hl
 have old:∀ x,η.D x->(η.addL l a).ρ x=η.ρ x:=fun x d=>by
  show (if x=l then a else η.ρ x)=_
  rw [if_neg (by rintro rfl; exact nd d)]
 have self:(η.addL l a).ρ l=a:=if_pos rfl
 have le:η.le (η.addL l a):=⟨fun _ h=>.inr h,old,fun _ _ e=>e⟩
 have X:=R.ext (tk:=tk) hk
 have nl:∀ l,η.D l->η.ρ l≠a:=fun l d q=>by obtain ⟨o',z⟩:=R.labThere d; rw [q,hn] at z; exact ns z
 have dm:∀ x ox,up σ.H l ao x=some ox->(x=l∧ox=ao)∨(x≠l∧σ.H x=some ox):=fun x ox e=>by
  unfold up at e
  by_cases q:x=l
  ·rw [if_pos q] at e; obtain rfl:=Option.some.inj e; exact .inl ⟨q,rfl⟩
  ·rw [if_neg q] at e; exact .inr ⟨q,e⟩
 have Za:η.Z a=none:=by
  cases q:η.Z a with
  | none=>rfl
  | some o'=>have:=R.frz _ _ q; rw [hn] at this; exact ns this
 refine ⟨⟨X.gok,X.ok,fun x ox e=>?_,fun x=>?_,fun x y dx dy q=>?_,fun x ox e d=>?_,fun x d=>?_,X.frz,X.old,X.bk,X.gens,X.os,X.zt,X.tabs,X.fr.step le fun b _ o e=>⟨o,e,rfl⟩,fun b ow=>?_,X.ff,fun e he b hb=>?_,X.fd⟩,
  fun own=>⟨le,fun b o e=>⟨o,hk b o e⟩,fun x d n=>?_,fun _ _ e=>.inl e,fun b o _ e _ _=>⟨o,hk b o e,.refl o⟩⟩⟩
 ·rcases dm x ox e with ⟨rfl,rfl⟩ | ⟨q,e⟩
  ·rw [self]; exact ⟨o,ha,hr⟩
  ·rw [old x (R.D_of e)]
   obtain ⟨o',z,r⟩:=X.heap x ox e
   exact ⟨o',z,r.mono le⟩
 ·show (x=l∨η.D x)↔up σ.H l ao x≠none
  unfold up
  by_cases q:x=l
  ·rw [if_pos q]; exact ⟨fun _=>Dl _,fun _=>.inl q⟩
  ·rw [if_neg q,← R.dom x]; exact ⟨fun h=>h.resolve_left q,.inr⟩
 ·rcases dx with rfl | dx<;>rcases dy with rfl | dy
  ·rfl
  ·rw [self,old y dy] at q; exact (nl y dy q.symm).elim
  ·rw [self,old x dx] at q; exact (nl x dx q).elim
  ·rw [old x dx,old y dy] at q; exact R.inj x y dx dy q
 ·rcases dm x ox e with ⟨rfl,rfl⟩ | ⟨q,e⟩
  ·rw [self]; exact Za
  ·rw [old x (R.D_of e)]; exact R.sep x ox e d
 ·rcases d with rfl | d
  ·rw [self]; exact hb
  ·rw [old x d]; exact R.low x d
 ·obtain ⟨a1,a2,a3⟩:=R.ownl b ow
  refine ⟨a1,a2,fun x d=>?_⟩
  rcases d with rfl | d
  ·rw [self]; rintro rfl; obtain ⟨ob,z⟩:=R.ownThere ow; rw [hn] at z; exact ns z
  ·rw [old x d]; exact a3 x d
 ·obtain ⟨a1,a3,a4⟩:=R.fu e he b hb
  refine ⟨a1,fun x d=>?_,a4⟩
  rcases d with rfl | d
  ·rw [self]; rintro rfl
   have:=(R.ff.mem (C0.mpr ⟨e,he,hb⟩)).2
   obtain ⟨ob,z,_⟩:=this; rw [hn] at z; exact ns z
  ·rw [old x d]; exact a3 x d
 ·rcases d with rfl | d
  ·rw [self]; exact hn
  ·exact (n d).elim
theorem Rel.setL (R:Rel G c η σ s) {h':Heap} {tk:Nat} {o':Obj} {l:Lb} {ao ao₀:AO} (hl:σ.H l=some ao₀) (hd:ao₀≠.dead) (hs:DH (η.ρ l) s.heap h') (ho:h'.get? (η.ρ l)=some o') (hr:OR G.w η ao o') :
  Rel G c η { σ with H:=up σ.H l ao } { s with heap:=h',toks:=tk }∧∀ own,Stp G own η η s { s with heap:=h',toks:=tk }:=by
 have dl:=R.D_of hl
 have hlow:=R.low l dl
 have same:∀ b,b≠η.ρ l->h'.get? b=s.heap.get? b:=hs.2
 have ow:∀ b,c.own b->b≠η.ρ l:=fun b h q=>(R.ownl b h).2.2 l dl q.symm
 have dm:∀ x ox,up σ.H l ao x=some ox->(x=l∧ox=ao)∨(x≠l∧σ.H x=some ox):=fun x ox e=>by
  unfold up at e
  by_cases q:x=l
  ·rw [if_pos q] at e; obtain rfl:=Option.some.inj e; exact .inl ⟨q,rfl⟩
  ·rw [if_neg q] at e; exact .inr ⟨q,e⟩
 have zl:=R.sep l _ hl hd
 refine ⟨⟨R.gok,R.ok,fun x ox e=>?_,fun x=>?_,R.inj,fun x ox e d=>?_,R.low,fun a o e=>?_,R.old.step_same hlow hs,fun b o e n=>?_,R.gens,R.os,R.zt,R.tabs.extBut hlow hs.extBut,R.fr.step (.refl η) fun b hb o e=>⟨o,(same b (ow b hb)).trans e,rfl⟩,R.ownl,
  RN R.ff fun e he b hb=>?_,R.fu,fun e he b hb=>let ⟨o,es,ep,z,d⟩:=R.fd e he b hb; ⟨o,es,ep,(same b fun q=>(R.fu e he b hb).2.1 l dl q.symm).trans z,d⟩⟩,fun own=>⟨.refl η,fun b o e=>?_,fun _ a b=>(b a).elim,fun _ _ e=>.inl e,fun b o _ e u _=>⟨o,(same b fun q=>u l dl q.symm).trans e,.refl o⟩⟩⟩
 ·rcases dm x ox e with ⟨rfl,rfl⟩ | ⟨q,e⟩
  ·exact ⟨o',ho,hr⟩
  ·obtain ⟨o',z,r⟩:=R.heap x ox e
   exact ⟨o',(same _ fun z=>q (R.inj x l (R.D_of e) dl z)).trans z,r⟩
 ·show η.D x↔up σ.H l ao x≠none
  unfold up
  by_cases q:x=l
  ·subst q; rw [if_pos rfl]; exact ⟨fun _=>Dl _,fun _=>dl⟩
  ·rw [if_neg q]; exact R.dom x
 ·rcases dm x ox e with ⟨rfl,rfl⟩ | ⟨q,e⟩
  ·exact zl
  ·exact R.sep x ox e d
 ·refine (same a fun q=>?_).trans (R.frz a o e)
  rw [q,zl] at e; exact ns e
 ·exact (same b (AE (An (Ba e) hlow))).trans (R.bk b o e n)
 ·exact same b fun q=>(R.fu e he b hb).2.1 l dl q.symm
 ·by_cases q:b=η.ρ l
  ·exact ⟨o',q▸ho⟩
  ·exact ⟨o,(same b q).trans e⟩
end
end
section
noncomputable abbrev FF:Value->Shared->Prop:=fun _ _=>False
inductive Po (G:Gb) (c:Cx) {α β:Type} (X:Et->β->α->Prop) (η:Et) (s:Shared) (Q:β->St->Prop) (v':α) (s':Shared):Prop where
 | mk (v:β) (σ':St) (η':Et) (q:Q v σ') (x:X η' v v') (R:Rel G c η' σ' s') (t:Stp G c.own η η' s s'):Po G c X η s Q v' s'
section
variable {G:Gb} {c:Cx} {α β γ δ:Type} {X:Et->β->α->Prop} {Y:Et->δ->γ->Prop} {η η':Et} {s s':Shared} {σ σ':St}
theorem Po.back {Q:β->St->Prop} {v':α} (q:Po G c X η' s' Q v' s'') (st:Stp G c.own η η' s s'):Po G c X η s Q v' s'':=by
 obtain ⟨v,σ',η'',a,b,r,t⟩:=q
 exact ⟨v,σ',η'',a,b,r,st.trans t⟩
theorem Po.here {Q:β->St->Prop} {v:β} {v':α} (R:Rel G c η σ s) (q:Q v σ) (x:X η v v'):Po G c X η s Q v' s:=⟨v,σ,η,q,x,R,.refl ..⟩
theorem Po.toks {Q:β->St->Prop} {v:β} {v':α} {tk:Nat} (R:Rel G c η σ s) (q:Q v σ) (x:X η v v'):Po G c X η s Q v' { s with toks:=tk } :=
 ⟨v,σ,η,q,x,R.ext (h':=s.heap) fun _ _ e=>e,.ext fun _ _ e=>e⟩
theorem wb {m:Sem α} {K:β->St->Prop} {A:Around} {M:Model} {R:α->Shared->Prop} (h:wpAny M A m (Po G c X η s K) FF s)
  (k:∀ a' b σ1 η1 s1,K b σ1->X η1 b a'->Rel G c η1 σ1 s1->Stp G c.own η η1 s s1->R a' s1):wpAny M A m R FF s :=
 AC h (fun a' s1 ⟨b,σ1,η1,h1,h2,h3,h4⟩=>k a' b σ1 η1 s1 h1 h2 h3 h4) fun _ _ x=>x
theorem HM {m:Sem α} {A:Around} {M:Model} {Q:β->St->Prop} (h:wpAny M A m (Po G c X η' s' Q) FF s') (st:Stp G c.own η η' s s'):wpAny M A m (Po G c X η s Q) FF s' :=
 AC h (fun _ _ q=>q.back st) fun _ _ x=>x
theorem IM {m:Sem α} {A:Around} {M:Model} {Q Q':β->St->Prop} (h:wpAny M A m (Po G c X η s Q) FF s) (k:∀ v σ,Q v σ->Q' v σ):wpAny M A m (Po G c X η s Q') FF s :=
 AC h (fun _ _ ⟨v,σ',η',a,b,r,t⟩=>⟨v,σ',η',k _ _ a,b,r,t⟩) fun _ _ x=>x
end
noncomputable abbrev mo (G:Gb):Model:=model G.prog G.w
noncomputable def WE (G:Gb) (c:Cx) (e:Expr) (σ:St) (Q:PA):Prop:=∀ η s,Rel G c η σ s->wpAny (mo G) c.A (eval e c.env) (Po G c VR η s Q) FF s
noncomputable abbrev BR (_:Et) (b b':Bool):Prop:=b=b'
noncomputable def WT (G:Gb) (c:Cx) (e:Expr) (σ:St) (Q:PB):Prop:=∀ η s,Rel G c η σ s->wpAny (mo G) c.A (isTrue e c.env (eval e c.env)) (Po G c BR η s Q) FF s
inductive Fl where
 | next | brk | cont
 | ret (v:AV)
abbrev PF:=Fl->St->Prop
inductive FlR (η:Et):Fl->Flow->Prop where
 | next:FlR η .next .next
 | brk:FlR η .brk .brk
 | cont:FlR η .cont .cont
 | ret {v:AV} {v':Value}:VR η v v'->FlR η (.ret v) (.ret v')
noncomputable def WS (G:Gb) (c:Cx) (ss:List Stmt) (σ:St) (Q:PF):Prop:=∀ η s,Rel G c η σ s->wpAny (mo G) c.A (execs ss c.env) (Po G c FlR η s Q) FF s
noncomputable def W1 (G:Gb) (c:Cx) (ss:Stmt) (σ:St) (Q:PF):Prop:=∀ η s,Rel G c η σ s->wpAny (mo G) c.A (exec ss c.env) (Po G c FlR η s Q) FF s
noncomputable def WB (G:Gb) (c:Cx) {α β:Type} (X:Et->β->α->Prop) (t:Value->Value->Sem α) (a b:AV) (σ:St) (Q:β->St->Prop):Prop :=
 ∀ η s a' b',Rel G c η σ s->VR η a a'->VR η b b'->wpAny (mo G) c.A (t a' b') (Po G c X η s Q) FF s
noncomputable def WU (G:Gb) (c:Cx) {α β:Type} (X:Et->β->α->Prop) (t:Value->Sem α) (a:AV) (σ:St) (Q:β->St->Prop):Prop :=
 ∀ η s a',Rel G c η σ s->VR η a a'->wpAny (mo G) c.A (t a') (Po G c X η s Q) FF s
noncomputable abbrev UR (_:Et) (_:Unit) (_:Unit):Prop:=True
section
variable {G:Gb} {c:Cx} {σ:St}
theorem WE.mono {e:Expr} {Q Q':PA} (h:WE G c e σ Q) (k:∀ v σ',Q v σ'->Q' v σ'):WE G c e σ Q':=fun η s R =>
 IM (h η s R) k
theorem WS.mono {e:List Stmt} {Q Q':PF} (h:WS G c e σ Q) (k:∀ v σ',Q v σ'->Q' v σ'):WS G c e σ Q':=fun η s R =>
 IM (h η s R) k
theorem W1.mono {e:Stmt} {Q Q':PF} (h:W1 G c e σ Q) (k:∀ v σ',Q v σ'->Q' v σ'):W1 G c e σ Q':=fun η s R =>
 IM (h η s R) k
theorem WT.mono {e:Expr} {Q Q':PB} (h:WT G c e σ Q) (k:∀ v σ',Q v σ'->Q' v σ'):WT G c e σ Q':=fun η s R =>
 IM (h η s R) k
theorem WE.int {i:Int} {k:Nat} {pos:Pos} {Q:PA} (q:Q (.int i) σ):WE G c (.Constant (.int i) k pos) σ Q:=fun η s R=>wpAny_Constant_int (.toks R q (.int ..))
theorem WE.str {x:Str} {k:Nat} {pos:Pos} {Q:PA} (q:Q (.str x) σ):WE G c (.Constant (.str x) k pos) σ Q:=fun η s R=>wpAny_Constant_str (.toks R q (.str ..))
theorem WE.none {k:Nat} {pos:Pos} {Q:PA} (q:Q .none σ):WE G c (.Constant .none k pos) σ Q:=fun η s R=>wpAny_Constant_none (.here R q (.rig _))
theorem WE.bool {b:Bool} {k:Nat} {pos:Pos} {Q:PA} (q:Q (.bool b) σ):WE G c (.Constant (.bool b) k pos) σ Q:=fun η s R=>wpAny_Constant_bool (.here R q (.rig _))
theorem Rel.load {η:Et} {s:Shared} (R:Rel G c η σ s) {i:Nat} {x:Str} {b:Bool} {v:AV} (hi:c.ns[i]?=some (x,b)) (hv:lg σ.loc i=some v) {Q:PV} {E:PV} {A:Around}
  (h:∀ v',VR η v v'->Q v' s):wpAny (mo G) A (loadName c.env x) Q E s:=by
 obtain ⟨_,_,m,hn,r⟩:=R.fr
 have hm:(x,b)∈c.ns:=Au hi
 obtain ⟨_,ncd,nk⟩:=R.ok.names x b hm
 have:=r i x b hi
 cases b with
 | false =>
  dsimp only at this nk
  rw [hv] at this
  generalize e:m x=mv at this
  cases this with
  | some hv'=>exact wpAny_loadName_local R.ok.kind nk (by rw [R.ok.locals]; exact hn) e (h _ hv')
 | true =>
  obtain ⟨ca,vo,hl,hc,ho⟩:=this
  dsimp only at nk
  rw [hv] at ho
  cases ho with
  | some hv'=>exact wpAny_loadName_cell R.ok.kind nk.1 (R.ok.ce _ _ hl) hc (h _ hv')
theorem WE.name {i:Nat} {x:Str} {b:Bool} {pos:Pos} {v:AV} {Q:PA} (hi:c.ns[i]?=some (x,b)) (hv:lg σ.loc i=some v) (q:Q v σ):WE G c (.Name x pos) σ Q:=fun η s R =>
 GH (R.load hi hv fun v' hv'=>.here R q hv') (R.ok.names x b (Au hi)).1
theorem WE.binop {l r:Expr} {op:Operator} {pos:Pos} {Q:PA} (h:WE G c l σ fun a σ1=>WE G c r σ1 fun b σ2=>WB G c VR (binaryOp op) a b σ2 Q):WE G c (.BinOp l op r pos) σ Q:=fun η s R =>
 wpAny_BinOp (wb (h η s R) fun a' a σ1 η1 s1 h1 ha R1 st1=>wb (h1 η1 s1 R1) fun b' b σ2 η2 s2 h2 hb R2 st2=>HM (h2 η2 s2 a' b' R2 (ha.mono st2.le) hb) (st1.trans st2))
theorem WE.cmp {l r:Expr} {op:CmpOp} {pos:Pos} {Q:PA} (h:WE G c l σ fun a σ1=>WE G c r σ1 fun b σ2=>WB G c VR (compareOp op) a b σ2 Q) (hm:behindInMarks op r=false):WE G c (.Compare l [op] [r] pos) σ Q:=fun η s R =>
 wpAny_Compare1 (wb (h η s R) fun a' a σ1 η1 s1 h1 ha R1 st1=>wb (h1 η1 s1 R1) fun b' b σ2 η2 s2 h2 hb R2 st2=>HM (h2 η2 s2 a' b' R2 (ha.mono st2.le) hb) (st1.trans st2)) hm
theorem WT.cmp {l r:Expr} {op:CmpOp} {pos:Pos} {Q:PB} (h:WE G c l σ fun a σ1=>WE G c r σ1 fun b σ2=>WB G c VR (compareOp op) a b σ2 fun v σ3=>∃ t,v=.bool t∧Q t σ3) (hm:behindInMarks op r=false) :
  WT G c (.Compare l [op] [r] pos) σ Q:=fun η s R =>
 wpAny_isTrue_Compare1 (wb (h η s R) fun a' a σ1 η1 s1 h1 ha R1 st1=>wb (h1 η1 s1 R1) fun b' b σ2 η2 s2 h2 hb R2 st2=>wb (h2 η2 s2 a' b' R2 (ha.mono st2.le) hb) fun v' v σ3 η3 s3 h3 hv R3 st3=>by
  obtain ⟨t,rfl,q⟩:=h3
  obtain rfl:=hv.rigE
  exact EA ⟨t,σ3,η3,q,rfl,R3,(st1.trans st2).trans st3⟩) hm
theorem WT.not {e:Expr} {pos:Pos} {Q:PB} (h:WT G c e σ fun b σ1=>Q (!b) σ1):WT G c (.UnaryOp .Not e pos) σ Q:=fun η s R =>
 wpAny_isTrue_Not (wb (h η s R) fun b' b σ1 η1 s1 h1 hb R1 st1=>⟨!b,σ1,η1,h1,by cases hb; rfl,R1,st1⟩)
theorem WT.val {e:Expr} {Q:PB} (h:WE G c e σ fun a σ1=>WU G c BR truthy a σ1 Q) (he:isTrue e c.env (eval e c.env)=(do let v ← eval e c.env; standAt e.pos; holding [v] (truthy v))):WT G c e σ Q:=fun η s R =>
 wpAny_isTrue_value (wb (h η s R) fun a' a σ1 η1 s1 h1 ha R1 st1=>HM (h1 η1 s1 a' R1 ha) st1) he
noncomputable def WA (G:Gb) (c:Cx) (op:BoolOp) (es:List Expr) (σ:St) (Q:PB):Prop:=∀ η s,Rel G c η σ s->wpAny (mo G) c.A (allTrue op es c.env) (Po G c BR η s Q) FF s
theorem WT.boolop {op:BoolOp} {es:List Expr} {pos:Pos} {Q:PB} (h:WA G c op es σ Q):WT G c (.BoolOp op es pos) σ Q:=fun η s R=>wpAny_isTrue_BoolOp (h η s R)
theorem WA.andNil {Q:PB} (q:Q true σ):WA G c .And [] σ Q:=fun η s R=>wpAny_allTrue_And_nil (.here R q rfl)
theorem WA.orNil {Q:PB} (q:Q false σ):WA G c .Or [] σ Q:=fun η s R=>wpAny_allTrue_Or_nil (.here R q rfl)
theorem WA.and {e:Expr} {es:List Expr} {Q:PB} (h:WT G c e σ fun b σ1=>(b=true->WA G c .And es σ1 Q)∧(b=false->Q false σ1)):WA G c .And (e::es) σ Q:=fun η s R =>
 wpAny_allTrue_And_cons (wb (h η s R) fun b' b σ1 η1 s1 h1 hb R1 st1=>by
  cases hb
  cases b' with
  | true=>exact HM (h1.1 rfl η1 s1 R1) st1
  | false=>exact ⟨false,σ1,η1,h1.2 rfl,rfl,R1,st1⟩)
theorem WA.or {e:Expr} {es:List Expr} {Q:PB} (h:WT G c e σ fun b σ1=>(b=false->WA G c .Or es σ1 Q)∧(b=true->Q true σ1)):WA G c .Or (e::es) σ Q:=fun η s R =>
 wpAny_allTrue_Or_cons (wb (h η s R) fun b' b σ1 η1 s1 h1 hb R1 st1=>by
  cases hb
  cases b' with
  | false=>exact HM (h1.1 rfl η1 s1 R1) st1
  | true=>exact ⟨true,σ1,η1,h1.2 rfl,rfl,R1,st1⟩)
theorem WS.nil {Q:PF} (q:Q .next σ):WS G c [] σ Q:=fun η s R=>wpAny_execs_nil (.here R q .next)
theorem WS.cons {st:Stmt} {rest:List Stmt} {Q:PF} (h:W1 G c st σ fun f σ1=>match f with | .next=>WS G c rest σ1 Q | f=>Q f σ1):WS G c (st::rest) σ Q:=fun η s R =>
 FV (wb (h η s R) fun f' f σ1 η1 s1 h1 hf R1 st1=>by
  cases hf with
  | next=>exact HM (h1 η1 s1 R1) st1
  | brk=>exact ⟨_,σ1,η1,h1,.brk,R1,st1⟩
  | cont=>exact ⟨_,σ1,η1,h1,.cont,R1,st1⟩
  | ret hv=>exact ⟨_,σ1,η1,h1,.ret hv,R1,st1⟩)
theorem W1.ite {test:Expr} {body orelse:List Stmt} {pos:Pos} {Q:PF} (h:WT G c test σ fun b σ1=>(b=true->WS G c body σ1 Q)∧(b=false->WS G c orelse σ1 Q)):W1 G c (.If test body orelse pos) σ Q:=fun η s R =>
 wpAny_If (wb (h η s R) fun b' b σ1 η1 s1 h1 hb R1 st1=>by
  cases hb
  cases b' with
  | true=>exact HM (h1.1 rfl η1 s1 R1) st1
  | false=>exact HM (h1.2 rfl η1 s1 R1) st1)
theorem W1.ret {e:Expr} {pos:Pos} {Q:PF} (h:WE G c e σ fun v σ1=>Q (.ret v) σ1):W1 G c (.Return (some e) pos) σ Q:=fun η s R =>
 wpAny_Return_some (wb (h η s R) fun v' v σ1 η1 s1 h1 hv R1 st1=>⟨_,σ1,η1,h1,.ret hv,R1,st1⟩)
theorem W1.brk {pos:Pos} {Q:PF} (q:Q .brk σ):W1 G c (.Break pos) σ Q:=fun η s R=>(fun _ _ _=>.here R q .brk:wpAny (mo G) c.A (exec (.Break pos) c.env) (Po G c FlR η s Q) FF s)
theorem W1.cont {pos:Pos} {Q:PF} (q:Q .cont σ):W1 G c (.Continue pos) σ Q:=fun η s R=>(fun _ _ _=>.here R q .cont:wpAny (mo G) c.A (exec (.Continue pos) c.env) (Po G c FlR η s Q) FF s)
theorem Qj {l:List (Option AV)} {i j:Nat} {v:Option AV} (hi:i<l.length):lg (l.set i v) j=if j=i then v else lg l j:=by
 unfold lg
 rw [List.getElem?_set]
 by_cases h:i=j
 ·subst h; simp [hi]
 ·rw [if_neg h,if_neg (Dc h)]
theorem LA {ns:List (Str×Bool)} (nd:(ns.map (·.1)).Nodup) {i j:Nat} {x y:Str} {b b':Bool} (hi:ns[i]?=some (x,b)) (hj:ns[j]?=some (y,b')) (h:x=y):i=j:=by
 have e1:(ns.map (·.1))[i]?=some x:=by rw [Ai,hi]; rfl
 have e2:(ns.map (·.1))[j]?=some x:=by rw [Ai,hj,h]; rfl
 obtain ⟨li,gi⟩:=Am.mp e1
 obtain ⟨lj,gj⟩:=Am.mp e2
 exact (List.getElem_inj nd).mp (gi.trans gj.symm)
theorem Rel.own_ne {η:Et} {s:Shared} (R:Rel G c η σ s) {b:Addr} (ob:c.own b):(∀ l,η.D l->η.ρ l≠b)∧η.Z b=Av∧G.h₀.objs.size≤b :=
 let ⟨a1,a2,a3⟩:=R.ownl b ob; ⟨a3,a2,a1⟩
theorem Rel.setOwn {η:Et} {s:Shared} (R:Rel G c η σ s) {a:Addr} (oa:c.own a) {h':Heap} {tk:Nat} {loc':List (Option AV)} (hs:DH a s.heap h') (hd:∀ o,s.heap.get? a=some o->∃ o',An3 (h'.get? a=some o') ((∀ vs,o'.data≠.fields vs)) (∀ es ep,o.data=.dict es ep->Ex2 fun es' ep'=>o'.data=.dict es' ep')) (F:FR c η loc' h') :
  Rel G c η { σ with loc:=loc' } { s with heap:=h',toks:=tk }∧Stp G c.own η η s { s with heap:=h',toks:=tk }:=by
 obtain ⟨nl,nz,lo⟩:=R.own_ne oa
 obtain ⟨oo,hoo⟩:=R.ownThere oa
 obtain ⟨oo',hoo',hnf,hdd⟩:=hd oo hoo
 refine ⟨⟨R.gok,R.ok,fun l o e=>?_,R.dom,R.inj,R.sep,R.low,fun b o e=>?_,R.old.step_same lo hs,fun b o e n=>?_,R.gens,R.os,R.zt,R.tabs.extBut lo hs.extBut,F,R.ownl,?_,R.fu,fun e he b hb=>?_⟩,⟨.refl η,fun b o e=>?_,fun _ a b=>(b a).elim,fun _ _ e=>.inl e,fun b o _ e u ow=>?_⟩⟩
 ·obtain ⟨o',z,r⟩:=R.heap l o e
  exact ⟨o',(hs.2 _ (nl l (R.D_of e))).trans z,r⟩
 ·refine (hs.2 b fun q=>?_).trans (R.frz b o e)
  rw [q,nz] at e; exact ns e
 ·exact (hs.2 b (AE (An (Ba e) lo))).trans (R.bk b o e n)
 ·have:=R.ff
  revert this
  generalize c.fe=fe
  intro ff
  induction fe with
  | nil=>trivial
  | cons e r ih =>
   obtain ⟨hk,⟨L,o,hf,hn,ho,hd'⟩,hr⟩:=ff
   refine ⟨hk,?_,ih hr⟩
   by_cases q:L=a
   ·subst q; exact ⟨L,oo',hf,hn,hoo',hnf⟩
   ·exact ⟨L,o,hf,hn,(hs.2 L q).trans ho,hd'⟩
 ·obtain ⟨o,es,ep,z,d⟩:=R.fd e he b hb
  by_cases q:b=a
  ·subst q
   rw [hoo] at z; obtain rfl:=Option.some.inj z
   obtain ⟨es',ep',d'⟩:=hdd es ep d
   exact ⟨oo',es',ep',hoo',d'⟩
  ·exact ⟨o,es,ep,(hs.2 b q).trans z,d⟩
 ·by_cases q:b=a
  ·subst q; exact ⟨oo',hoo'⟩
  ·exact ⟨o,(hs.2 b q).trans e⟩
 ·exact ⟨o,(hs.2 b (fun q=>ow (q▸oa))).trans e,.refl o⟩
theorem Rel.store {η:Et} {s:Shared} (R:Rel G c η σ s) {i:Nat} {x:Str} {b:Bool} {v:AV} {v':Value} (hi:c.ns[i]?=some (x,b)) (hv:VR η v v') {Q:Unit->Shared->Prop} {E:PV} {A:Around}
  (h:∀ h' tk,Rel G c η { σ with loc:=σ.loc.set i (some v) } { s with heap:=h',toks:=tk }->Stp G c.own η η s { s with heap:=h',toks:=tk }->Q () { s with heap:=h',toks:=tk }):wpAny (mo G) A (storeName c.env x v') Q E s:=by
 obtain ⟨ln,ct,m,hn,r⟩:=id R.fr
 have hm:(x,b)∈c.ns:=Au hi
 obtain ⟨_,ncd,nk⟩:=R.ok.names x b hm
 have il:i<σ.loc.length:=by rw [ln]; exact (Am.mp hi).1
 have rx:=r i x b hi
 cases b with
 | false =>
  dsimp only at nk
  refine wpAny_storeName_local nk (by rw [R.ok.locals]; exact hn) (fun h' hn' hs'=>?_) (by rw [R.ok.kind]; rfl)
  rw [R.ok.locals] at hn' hs'
  have hs'':∀ y b,(y,b)∈c.oc->b≠c.L:=R.ok.cL
  have F:FR c η (σ.loc.set i (some v)) h':=by
   refine ⟨by rw [Aq]; exact ln,fun y b hb=>let ⟨v,hv⟩:=ct y b hb; ⟨v,hv.sameBut hs' (hs'' y b hb)⟩,_,hn',fun j y bb hj=>?_⟩
   have rj:=r j y bb hj
   rw [Qj il]
   cases bb with
   | false =>
    dsimp only at rj ⊢
    by_cases q:j=i
    ·subst q
     rw [hi] at hj; cases hj
     rw [if_pos rfl,if_pos rfl]; exact .some hv
    ·rw [if_neg q,if_neg (fun e=>q (LA R.ok.nd hj hi e))]; exact rj
   | true =>
    dsimp only at rj ⊢
    rw [if_neg (by rintro rfl; rw [hi] at hj; cases hj)]
    obtain ⟨ca,vo,h1,h2,h3⟩:=rj
    exact ⟨ca,vo,h1,h2.sameBut hs' (hs'' y ca (He h1)),h3⟩
  obtain ⟨Q1,Q2⟩:=R.setOwn (.inl rfl) (tk:=s.toks+1) hs' (fun o ho=>by
   obtain ⟨o',es,ep,ho',hd',_⟩:=hn'
   exact ⟨o',ho',(fun vs e=>by rw [hd'] at e; contradiction),fun _ _ _=>⟨es,ep,hd'⟩⟩) F
  exact h h' _ Q1 Q2
 | true =>
  dsimp only at nk rx
  obtain ⟨ca,vo,hl,hc,ho⟩:=rx
  refine wpAny_storeName_cell R.ok.kind nk.1 (R.ok.ce _ _ hl) hc fun h' hc' hs'=>?_
  have oca:c.own ca:=.inr ⟨x,He hl⟩
  have ne:ca≠c.L:=R.ok.cL x ca (He hl)
  have F:FR c η (σ.loc.set i (some v)) h':=by
   refine ⟨by rw [Aq]; exact ln,fun y b hb=>?_,m,hn.sameBut hs' (Dc ne),fun j y bb hj=>?_⟩
   ·by_cases q:b=ca
    ·subst q; exact ⟨_,hc'⟩
    ·obtain ⟨v,hv⟩:=ct y b hb; exact ⟨v,hv.sameBut hs' q⟩
   ·have rj:=r j y bb hj
    rw [Qj il]
    cases bb with
    | false =>
     dsimp only at rj ⊢
     rw [if_neg (by rintro rfl; rw [hi] at hj; cases hj)]; exact rj
    | true =>
     dsimp only at rj ⊢
     obtain ⟨cb,vo',h1,h2,h3⟩:=rj
     by_cases q:j=i
     ·subst q
      rw [hi] at hj; cases hj
      rw [if_pos rfl]
      rw [hl] at h1; obtain rfl:=Option.some.inj h1
      exact ⟨ca,_,hl,hc',.some hv⟩
     ·rw [if_neg q]
      refine ⟨cb,vo',h1,h2.sameBut hs' fun e=>?_,h3⟩
      subst e
      have:=name_of_addr R.ok.cnd (He h1) (He hl)
      exact q (LA R.ok.nd hj hi this)
  obtain ⟨Q1,Q2⟩:=R.setOwn oca (tk:=s.toks) hs' (fun o ho=>by
   obtain ⟨o',ho',hd'⟩:=hc'
   obtain ⟨oc,hoc,hdc⟩:=hc
   rw [ho] at hoc; obtain rfl:=Option.some.inj hoc
   exact ⟨o',ho',(fun vs e=>by rw [hd'] at e; contradiction),fun es ep q=>by rw [hdc] at q; contradiction⟩) F
  exact h h' _ Q1 Q2
end
end
section
theorem Th {h₀ h h':Heap} (K:OldK h₀ h) {a:Addr} (ha:h₀.objs.size≤a) (hx:DT a h h'):OldK h₀ h':=by
 have ne:∀ b o,h₀.get? b=some o->b≠a:=fun b o e=>AE (An (Ba e) ha)
 refine ⟨fun b o e=>?_,fun b o e=>let ⟨o',ho'⟩:=K.there b o e; ⟨o',hx _ _ (ne b o e) ho'⟩⟩
 rcases K.old b o e with x | ⟨t,hc,vs,more,hv,x⟩ | ⟨rfl,hc,⟨o',es,n,ho',r⟩,z⟩
 ·exact .inl (hx _ _ (ne b o e) x)
 ·exact .inr (.inl ⟨t,hc,vs,more,hv,hx _ _ (ne b o e) x⟩)
 ·have q:=hx _ _ (ne _ o e) ho'
  exact .inr (.inr ⟨rfl,hc,⟨o',es,n,q,r⟩,fun key=>by rw [ET (q.trans ho'.symm) key]; exact z key⟩)
section
variable {G:Gb} {c:Cx} {η:Et} {σ:St} {s:Shared}
theorem Rel.junk (R:Rel G c η σ s) {a:Addr} {h':Heap} {tk:Nat} (ul:∀ l,η.D l->η.ρ l≠a) (uz:η.Z a=none) (uo:¬c.own a) (uf:∀ e∈c.fe,e.frame≠some a) (hlo:G.h₀.objs.size≤a) (hx:DT a s.heap h') :
  Rel G c η σ { s with heap:=h',toks:=tk } where
 gok:=R.gok
 ok:=R.ok
 heap:=fun l o e=>let ⟨o',z,r⟩:=R.heap l o e; ⟨o',hx _ _ (ul l (R.D_of e)) z,r⟩
 dom:=R.dom
 inj:=R.inj
 sep:=R.sep
 low:=R.low
 frz:=fun b o e=>hx _ _ (fun q=>by simp only [q,uz] at e; exact ns e) (R.frz b o e)
 old:=Th R.old hlo hx
 bk:=fun b o e n=>hx _ _ (AE (An (Ba e) hlo)) (R.bk b o e n)
 gens:=R.gens
 os:=R.os
 zt:=R.zt
 tabs:=R.tabs.extBut hlo hx
 fr:=R.fr.step (.refl η) fun b ob o e=>⟨o,hx _ _ (fun q=>uo (q▸ob)) e,rfl⟩
 ownl:=R.ownl
 ff:=by
  have:=R.ff
  revert this uf
  generalize c.fe=fe
  intro uf ff
  induction fe with
  | nil=>trivial
  | cons e r ih =>
   obtain ⟨hk,⟨L,o,hf,hn,ho,hd'⟩,hr⟩:=ff
   exact ⟨hk,⟨L,o,hf,hn,hx L o (fun q=>uf e (.head _) (q▸hf)) ho,hd'⟩,ih (fun e he=>uf e (.tail _ he)) hr⟩
 fu:=R.fu
 fd:=fun e he b hb=>let ⟨o,es,ep,z,d⟩:=R.fd e he b hb; ⟨o,es,ep,hx _ _ (fun q=>uf e he (q▸hb)) z,d⟩
theorem Stp.junk {own:Addr->Prop} {a:Addr} {h':Heap} {tk:Nat} (ho:own a) (hx:DT a s.heap h') (hex:∃ o,h'.get? a=some o):Stp G own η η s { s with heap:=h',toks:=tk } :=
 ⟨.refl η,fun b o e=>by
  by_cases q:b=a
  ·subst q; exact hex
  ·exact ⟨o,hx b o q e⟩,fun _ a b=>(b a).elim,fun _ _ e=>.inl e,fun b o _ e _ n=>⟨o,hx b o (fun q=>n (q▸ho)) e,.refl o⟩⟩
theorem Rel.sizeLe (R:Rel G c η σ s):G.h₀.objs.size≤s.heap.objs.size:=by
 obtain ⟨o,e⟩:=R.ownThere (.inl rfl)
 exact Ay (Ag (R.ownl c.L (.inl rfl)).1 (Ba e))
theorem Ht {h:Heap} {a:Addr} (ha:h.objs.size≤a):h.get? a=none:=by
 cases e:h.get? a with
 | none=>rfl
 | some o=>exact absurd (Ba e) (Bh.mpr ha)
end
structure Itr (G:Gb) (η₀:Et) (I:Addr) (xs:List AV) (Kp:St->Prop) (It:Nat->Heap->Prop):Prop where
 at_:∀ i h h',It i h->(∀ o vs,h.get? I=some o->o.data=.fields vs->h'.get? I=some o)->It i h'
 there:∀ i h,It i h->∃ o,h.get? I=some o
 nx:∀ c i η σ s x,Rel G c η σ s->Kp σ->η₀.le η->It i s.heap->xs[i]?=some x->∀ (A:Around) (Q:Option Value->Shared->Prop) (E:PV),
  (∀ v' h' tk,VR η x v'->It (i+1) h'->DH I s.heap h'->Q (some v') { s with heap:=h',toks:=tk })->wpAny (mo G) A (pyNext (.ref I)) Q E s
 fin:∀ c i η σ s,Rel G c η σ s->Kp σ->η₀.le η->It i s.heap->xs[i]?=none->∀ (A:Around) (Q:Option Value->Shared->Prop) (E:PV),A.handled=none →
  (∀ h' tk,DT I s.heap h'->Q none { s with heap:=h',toks:=tk })->wpAny (mo G) A (pyNext (.ref I)) Q E s
 self:∀ i (s:Shared) (A:Around) (Q:PV) (E:PV),It i s.heap->Q (.ref I) s->wpAny (mo G) A (pyIter (.ref I)) Q E s
 go:∀ target v i (s:Shared) (A:Around) (Q:Unit->Shared->Prop) (E:PV),It i s.heap->Q () s->wpAny (mo G) A (letOwnedTupleGo target (.ref I) v) Q E s
noncomputable def Itb (G:Gb) (v:AV) (xs:List AV) (Kp:St->Prop):Prop:=∀ c η σ s v',Rel G c η σ s->Kp σ->VR η v v'->∀ (A:Around) (Q:PV) (E:PV),
 (∀ I h' tk It,s.heap.get? I=none->G.h₀.objs.size≤I->(∀ b o,s.heap.get? b=some o->h'.get? b=some o)->Itr G η I xs Kp It->It 0 h'->Q (.ref I) { s with heap:=h',toks:=tk })->wpAny (mo G) A (pyIter v') Q E s
inductive WIo (G:Gb) (c:Cx) (η:Et) (s:Shared) (K:List AV->(St->Prop)->St->Prop) (it:Value) (sb:Shared):Prop where
 | mk (I:Addr) (xs:List AV) (Kp:St->Prop) (It:Nat->Heap->Prop) (σ1:St) (η1:Et) (s1:Shared) (h':Heap) (tk:Nat) (e1:it=.ref I) (e2:sb={ s1 with heap:=h',toks:=tk }) (R1:Rel G c η1 σ1 s1) (st:Stp G c.own η η1 s s1) (hI:s1.heap.get? I=none) (hlo:G.h₀.objs.size≤I)
  (hk:∀ b o,s1.heap.get? b=some o->h'.get? b=some o) (itr:Itr G η1 I xs Kp It) (it0:It 0 h') (kp:Kp σ1) (k:K xs Kp σ1):WIo G c η s K it sb
noncomputable def WI (G:Gb) (c:Cx) (iter:Expr) (σ:St) (K:List AV->(St->Prop)->St->Prop):Prop:=∀ η s,Rel G c η σ s->wpAny (mo G) c.A (eval iter c.env) (fun x sa=>wpAny (mo G) c.A (pyIter x) (WIo G c η s K) FF sa) FF s
theorem WI.of {G:Gb} {c:Cx} {iter:Expr} {σ:St} {K:List AV->(St->Prop)->St->Prop} (h:WE G c iter σ fun v σ1=>Ex2 fun xs Kp=>An3 (Itb G v xs Kp) (Kp σ1) (K xs Kp σ1)):WI G c iter σ K:=fun η s R =>
 wb (h η s R) fun v' v σ1 η1 s1 h1 hv R1 st1=>by
  obtain ⟨xs,Kp,itb,kp,k⟩:=h1
  exact itb c η1 σ1 s1 v' R1 kp hv _ _ _ fun I h' tk It hI hlo hk itr it0=>⟨I,xs,Kp,It,σ1,η1,s1,h',tk,rfl,rfl,R1,st1,hI,hlo,hk,itr,it0,kp,k⟩
noncomputable def WG (G:Gb) (c:Cx) (target:Expr) (v:AV) (σ:St) (Q:St->Prop):Prop:=∀ η s v',Rel G c η σ s->VR η v v'->wpAny (mo G) c.A (assign target c.env v') (Po G c UR η s fun _ σ'=>Q σ') FF s
section
variable {G:Gb} {c:Cx} {σ:St}
theorem Qh {α:Type} {M:Model} {A:Around} {t:Sem α} {Q:α->Shared->Prop} {E:PV} {s:Shared} (h:wpAny M A t Q FF s):wpAny M A t Q E s:=AC h (fun _ _ x=>x) fun _ _ x=>x.elim
theorem WG.name {i:Nat} {x:Str} {b:Bool} {pos:Pos} {v:AV} {Q:St->Prop} (hi:c.ns[i]?=some (x,b)) (q:Q { σ with loc:=σ.loc.set i (some v) }):WG G c (.Name x pos) v σ Q:=fun η s v' R hv =>
 wpAny_assign_Name (R.store hi hv fun h' tk R' st=>⟨(),_,η,q,trivial,R',st⟩)
theorem W1.while_ {test:Expr} {body orelse:List Stmt} {pos:Pos} {Q:PF} (I:Nat->St->Prop) (n:Nat) (h:I n σ)
  (turn:∀ n σ,I n σ->WT G c test σ fun b σ1=>(b=true->WS G c body σ1 fun f σ2=>match f with | .next | .cont=>∃ m,m<n∧I m σ2 | .brk=>Q .next σ2 | .ret v=>Q (.ret v) σ2)∧(b=false->WS G c orelse σ1 Q)) :
  W1 G c (.While test body orelse pos) σ Q:=fun η s R=>by
 refine wpAny_While (codeAny_whileLoop (fun n s'=>Ex2 fun σ' η'=>An3 (I n σ') (Rel G c η' σ' s') (Stp G c.own η η' s s')) (fun n s' hI=>?_) n ⟨σ,η,h,R,.refl ..⟩)
 obtain ⟨σ',η',hI,R',st'⟩:=hI
 refine Qh (wb (turn n σ' hI η' s' R') fun b' b σ1 η1 s1 h1 hb R1 st1=>?_)
 cases hb
 cases b' with
 | true =>
  refine Qh (wb (h1.1 rfl η1 s1 R1) fun f' f σ2 η2 s2 h2 hf R2 st2=>?_)
  have st:=(st'.trans st1).trans st2
  cases hf with
  | next=>obtain ⟨m,hm,hI⟩:=h2; exact ⟨m,hm,σ2,η2,hI,R2,st⟩
  | cont=>obtain ⟨m,hm,hI⟩:=h2; exact ⟨m,hm,σ2,η2,hI,R2,st⟩
  | brk=>exact ⟨_,σ2,η2,h2,.next,R2,st⟩
  | ret hv=>exact ⟨_,σ2,η2,h2,.ret hv,R2,st⟩
 | false=>exact Qh (wb (h1.2 rfl η1 s1 R1) fun f' f σ2 η2 s2 h2 hf R2 st2=>⟨_,σ2,η2,h2,hf,R2,(st'.trans st1).trans st2⟩)
theorem W1.for_ {target iter:Expr} {body orelse:List Stmt} {pos:Pos} {Q:PF} (hh:c.hd=false)
  (h:WI G c iter σ fun xs Kp σ1=>∃ Inv:Nat->St->Prop,An4 (Inv 0 σ1) ((∀ i σ,Inv i σ->Kp σ)) ((∀ i x σ,xs[i]?=some x->Inv i σ->WG G c target x σ fun σ'=>WS G c body σ' fun f σ2=>match f with | .next | .cont=>Inv (i+1) σ2 | .brk=>Q .next σ2 | .ret v=>Q (.ret v) σ2)) ((∀ σ,Inv xs.length σ->WS G c orelse σ Q)))
  (hs:∀ x,foldedSetIterable iter c.env x=pure x):W1 G c (.For target iter body orelse pos) σ Q:=fun η s R=>by
 refine wpAny_For (AC (h η s R) (fun x sa hx=>AC hx (fun it sb hi=>?_) fun _ _ x=>x) fun _ _ x=>x) hs
 obtain ⟨I,xs,Kp,It,σ1,η1,s1,h',tk,rfl,rfl,R1,st1,hI,hlo,hk,itr,it0,_,Inv,i0,kp,turn,fin⟩:=hi
 have nown:¬c.own I:=fun ow=>by obtain ⟨o,e⟩:=R1.ownThere ow; rw [hI] at e; exact ns e
 have nfr:∀ e∈c.fe,e.frame≠some I:=fun e he q=>by
  obtain ⟨_,o,z,_⟩:=R1.ff.mem (C0.mpr ⟨e,he,q⟩); rw [hI] at z; exact ns z
 have nl1:∀ l,η1.D l->η1.ρ l≠I:=fun l d q=>by obtain ⟨o,z⟩:=R1.labThere d; rw [q,hI] at z; exact ns z
 have nz1:η1.Z I=none:=by
  cases q:η1.Z I with
  | none=>rfl
  | some o=>have:=R1.frz _ _ q; rw [hI] at this; exact ns this
 obtain ⟨oI,eI⟩:=itr.there 0 h' it0
 let own':Addr->Prop:=fun b=>c.own b∨b=I
 have RI:Rel G c η1 σ1 { s1 with heap:=h',toks:=tk }:=R1.ext hk
 have stI:Stp G own' η1 η1 s1 { s1 with heap:=h',toks:=tk }:=.ext hk
 have fine:∀ {η' s'},Stp G own' η1 η' { s1 with heap:=h',toks:=tk } s'->Stp G c.own η η' s s':=fun x =>
  st1.trans ((stI.trans x).narrow fun b o e ow=>ow.resolve_right fun q=>by rw [q,hI] at e; exact ns e)
 refine codeAny_forLoop_any (fun k s'=>Ex3 fun i σ' η'=>An6 (k=xs.length+1 - i) (i≤xs.length) (Inv i σ') (Rel G c η' σ' s') (Stp G own' η1 η' { s1 with heap:=h',toks:=tk } s') (It i s'.heap)) ?_ (xs.length+1)
  ⟨0,σ1,η1,rfl,A4 _,i0,RI,.refl ..,it0⟩
 rintro k s' ⟨i,σ',η',rfl,hi,inv,R',st',it⟩
 have ul:=st'.un eI nl1
 have uz:=st'.unZ eI nl1 nz1
 cases hx:xs[i]? with
 | some x =>
  refine itr.nx c i η' σ' s' x R' (kp i σ' inv) st'.le it hx _ _ _ fun v'' h2 tk2 hv2 it2 hs2=>?_
  refine itr.go target v'' (i+1) _ _ _ _ it2 ?_
  have R2:Rel G c η' σ' { s' with heap:=h2,toks:=tk2 }:=R'.junk ul uz nown nfr hlo hs2.extBut
  obtain ⟨o2,e2⟩:=itr.there _ _ it2
  have st2:Stp G own' η' η' s' { s' with heap:=h2,toks:=tk2 }:=.junk (.inr rfl) hs2.extBut ⟨o2,e2⟩
  refine Qh (wb (turn i x σ' hx inv η' _ v'' R2 hv2) fun _ _ σ3 η3 s3 h3 _ R3 st3=>?_)
  refine Qh (wb (h3 η3 s3 R3) fun f' f σ4 η4 s4 h4 hf R4 st4=>?_)
  have bd:=st3.trans st4
  have all:=(st'.trans st2).trans (bd.wide fun _=>.inl)
  have it4:It (i+1) s4.heap:=itr.at_ _ _ _ it2 fun o vs e d=>bd.kept hlo e ul nown (.inl ⟨_,d⟩)
  have il:i<xs.length:=(Am.mp hx).1
  cases hf with
  | next=>exact ⟨_,JA il,i+1,σ4,η4,rfl,il,h4,R4,all,it4⟩
  | cont=>exact ⟨_,JA il,i+1,σ4,η4,rfl,il,h4,R4,all,it4⟩
  | brk=>exact ⟨_,σ4,η4,h4,.next,R4,fine all⟩
  | ret hv=>exact ⟨_,σ4,η4,h4,.ret hv,R4,fine all⟩
 | none =>
  have il:i=xs.length:=FJ (by assumption) (Bg.mp hx)
  subst il
  refine itr.fin c _ η' σ' s' R' (kp _ σ' inv) st'.le it hx _ _ _ (R'.ok.handled hh) fun h2 tk2 hx2=>?_
  have R2:Rel G c η' σ' { s' with heap:=h2,toks:=tk2 }:=R'.junk ul uz nown nfr hlo hx2
  refine Qh (wb (fin σ' inv η' _ R2) fun f' f σ4 η4 s4 h4 hf R4 st4=>⟨_,σ4,η4,h4,hf,R4,?_⟩)
  have a1:Stp G own' η1 η' s1 s':=stI.trans st'
  have a2:Stp G c.own η1 η' s1 { s' with heap:=h2,toks:=tk2 }:=by
   refine ⟨a1.le,fun b o e=>?_,a1.new,a1.newZ,fun b o hb e u ow=>?_⟩
   ·obtain ⟨o',e'⟩:=a1.ex b o e
    exact ⟨o',hx2 b o' (fun q=>by rw [q,hI] at e; exact ns e) e'⟩
   ·have nb:b≠I:=fun q=>by rw [q,hI] at e; exact ns e
    obtain ⟨o',e',r⟩:=a1.fm b o hb e u (fun q=>q.elim ow nb)
    exact ⟨o',hx2 b o' nb e',r⟩
  exact st1.trans (a2.trans st4)
end
end
section
noncomputable def isL (σ:St) (v:AV) (xs:List AV):Prop:=v=.lst xs∨∃ l,v=.ref l∧σ.H l=some (.list xs)
theorem Rel.list {G:Gb} {c:Cx} {η:Et} {σ:St} {s:Shared} (R:Rel G c η σ s) {v:AV} {v':Value} {xs:List AV} (h:isL σ v xs) (hv:VR η v v'):Ex3 fun a vs n=>An3 (v'=.ref a) (s.heap.get? a=some (lstO vs n)) (VRs η xs vs.toList):=by
 rcases h with rfl | ⟨l,rfl,hl⟩
 ·obtain ⟨_,_,_,rfl,z,r⟩:=hv.lstE
  exact ⟨_,_,_,rfl,R.frz _ _ z,r⟩
 ·obtain ⟨rfl,d⟩:=hv.refE
  ·
   obtain ⟨o',z,vs,n,rfl,r⟩:=R.heap l _ hl
   exact ⟨_,vs,n,rfl,z,r⟩
theorem HF {η:Et} {xs:List AV} {vs:Array Value} (h:VRs η xs vs.toList) {i:Nat} {x:AV} (e:xs[i]?=some x):∃ v,vs[i]?=some v∧VR η x v:=by
 obtain ⟨v,a,b⟩:=h.get e
 exact ⟨v,by rw [← CV]; exact a,b⟩
theorem JY {η:Et} {xs:List AV} {vs:Array Value} (h:VRs η xs vs.toList) {i:Nat} (e:xs[i]?=none):vs[i]?=none:=by
 have:=h.length
 rw [← CV,Bg,← this]
 exact Bg.mp e
theorem HK {G:Gb} {c:Cx} {η:Et} {σ:St} {s:Shared} (R:Rel G c η σ s):s.heap.get? s.heap.objs.size=none∧G.h₀.objs.size≤s.heap.objs.size:=⟨Ht (Ak _),R.sizeLe⟩
theorem Hv {M:Model} {A:Around} {E:PV} {s:Shared} {target:Expr} {I:Addr} {v:Value} {Q:Unit->Shared->Prop} {n:String} {o:Obj} (ho:s.heap.get? I=some o) (hc:o.cls=.type n)
  (hn:["enumerate", "zip", "dict_itemiterator", "dict_reverseitemiterator", "odict_iterator", "itertools.zip_longest", "itertools.pairwise"].contains n=false) (h:Q () s):wpAny M A (letOwnedTupleGo target (.ref I) v) Q E s:=by
 have main:∀ (a:Addr),wpAny M A (do
   let o ← load I
   match o.cls,o.data with
   | .type n,.fields vs =>
    if ["enumerate", "zip", "dict_itemiterator", "dict_reverseitemiterator", "odict_iterator", "itertools.zip_longest", "itertools.pairwise"].contains n&&vs[0]?==some (rawInt a) then
     rule "for.unpacks-the-owned-tuple"
     updateField I 0 .none
   | _,_=>pure ():Sem Unit) Q E s:=fun a=>by
  refine Aa (wpAny_load ho ?_)
  rw [hc]
  cases o.data<;>first
   | (dsimp only; rw [hn,Bool.false_and,if_neg (by decide)]; exact Ad h)
   | exact Ad h
 cases target<;>first
  | exact Ad h
  | (cases v<;>first | exact main _ | exact Ad h)
section
variable {G:Gb}
theorem Itr.list {η₀:Et} {I ax:Addr} {xs:List AV} {Kp:St->Prop} (h:∀ c η σ s,Rel G c η σ s->Kp σ->η₀.le η->Ex2 fun vs n=>s.heap.get? ax=some (lstO vs n)∧VRs η xs vs.toList) :
  Itr G η₀ I xs Kp fun i h=>h.IsListIter I ax i where
 at_:=fun i h h' ⟨o,e,hc,hd⟩ k=>⟨o,k o _ e hd,hc,hd⟩
 there:=fun i h ⟨o,e,_⟩=>⟨o,e⟩
 nx:=fun c i η σ s x R kp le it hx A Q E k=>by
  obtain ⟨vs,n,e,r⟩:=h c η σ s R kp le
  obtain ⟨v,hv,hr⟩:=HF r hx
  exact wpAny_pyNext_list_item it ⟨_,e,rfl,n,rfl⟩ hv fun h' it' hs=>k v h' s.toks hr it' hs
 fin:=fun c i η σ s R kp le it hx A Q E hh k=>by
  obtain ⟨vs,n,e,r⟩:=h c η σ s R kp le
  exact wpAny_pyNext_list_end hh it ⟨_,e,rfl,n,rfl⟩ (JY r hx) fun h' he=>k h' s.toks he
 self:=fun i s A Q E it h=>wpAny_pyIter_listiter it h
 go:=fun target v i s A Q E ⟨o,e,hc,_⟩ h=>Hv e hc (by decide) h
theorem Itb.list {v:AV} {xs:List AV} {Kp:St->Prop} (hk:∀ σ,Kp σ->isL σ v xs):Itb G v xs Kp:=fun c η σ s v' R kp hv A Q E k=>by
 obtain ⟨a,vs,n,rfl,e,r⟩:=R.list (hk σ kp) hv
 obtain ⟨f1,f2⟩:=HK R
 refine wpAny_pyIter_list ⟨_,e,rfl,n,rfl⟩ (k s.heap.objs.size _ s.toks (fun i h=>h.IsListIter s.heap.objs.size a i) f1 f2 (fun b o e=>AD _ e) (.list fun c' η' σ' s' R' kp' le=>?_) ⟨_,Ah _ rfl,rfl,rfl⟩)
 obtain ⟨a',vs',n',q,e',r'⟩:=R'.list (hk σ' kp') (hv.mono le)
 cases q
 exact ⟨vs',n',e',r'⟩
theorem Itb.lst {xs:List AV}:Itb G (.lst xs) xs fun _=>True:=.list fun _ _=>.inl rfl
theorem Itb.ref {l:Lb} {xs:List AV}:Itb G (.ref l) xs fun σ=>σ.H l=some (.list xs):=.list fun _ h=>.inr ⟨l,rfl,h⟩
set_option tactic.hygienic true in
theorem Itb.tup {xs:List AV}:Itb G (.tup xs) xs fun _=>True:=fun c η σ s v' R kp hv A Q E k=>by
 obtain ⟨_,_,_,rfl,z,r⟩:=hv.tupE
 ·
  rename_i a vs n
  obtain ⟨f1,f2⟩:=HK R
  refine wpAny_pyIter_tuple ⟨_,R.frz _ _ z,rfl,n,rfl⟩ (k s.heap.objs.size _ s.toks (fun i h=>h.IsTupleIter s.heap.objs.size a i) f1 f2 (fun b o e=>AD _ e) ?_ ⟨_,Ah _ rfl,rfl,rfl⟩)
  exact {
   at_:=fun i h h' ⟨o,e,hc,hd⟩ k=>⟨o,k o _ e hd,hc,hd⟩
   there:=fun i h ⟨o,e,_⟩=>⟨o,e⟩
   nx:=fun c i η' σ s x R kp le it hx A Q E k=>by
    have r':=r.mono le
    obtain ⟨v,hv,hr⟩:=HF r' hx
    exact wpAny_pyNext_tuple_item it ⟨_,R.frz _ _ (le.Z _ _ z),rfl,n,rfl⟩ hv fun h' it' hs=>k v h' s.toks hr it' hs
   fin:=fun c i η' σ s R kp le it hx A Q E hh k =>
    wpAny_pyNext_tuple_end hh it ⟨_,R.frz _ _ (le.Z _ _ z),rfl,n,rfl⟩ (JY r hx) fun h' he=>k h' s.toks he
   self:=fun i s A Q E it h=>wpAny_pyIter_tupleiter it h
   go:=fun target v i s A Q E ⟨o,e,hc,_⟩ h=>Hv e hc (by decide) h }
noncomputable def rangeL (a b c:Int):List AV:=(A5 (A9 a b c).toNat).map fun (i:Nat)=>AV.int (a+i*c)
theorem IC (a b c:Int):0≤A9 a b c:=by
 unfold A9
 split
 ·split
  ·have:=Int.ediv_nonneg (a:=b - a - 1) (b:=c) (by exact GU (Int.sub_pos_of_lt (by assumption))) (by exact Bf (by assumption)); exact Int.le_add_one this
  ·decide
 ·split
  ·by_cases h:c=0
   ·subst h; simp
   ·have:=Int.ediv_nonneg (a:=a - b - 1) (b:=-c) (by exact GU (Int.sub_pos_of_lt (by assumption))) (Int.neg_nonneg_of_nonpos (BE.mp (by assumption))); exact Int.le_add_one this
  ·decide
theorem Itr.range {η₀:Et} {I:Addr} {a c:Int} {n:Nat} {Kp:St->Prop}:Itr G η₀ I ((A5 n).map fun (i:Nat)=>AV.int (a+i*c)) Kp fun i h=>i≤n∧IsRangeIter h I (a+i*c) ((n:Int) - i) c where
 at_:=fun i h h' ⟨l,e⟩ k=>⟨l,k _ _ e rfl⟩
 there:=fun i h ⟨l,e⟩=>⟨_,e⟩
 nx:=fun cx i η σ s x R kp le it hx A Q E k=>by
  obtain ⟨hi,it⟩:=it
  have il:i<n:=by have:=(Am.mp hx).1; simpa using this
  have ex:x=.int (a+i*c):=by simp [Ai,BW,il] at hx; exact hx.symm
  subst ex
  refine wpAny_pyNext_range_item it (by lia) fun h' it' hs=>k _ h' _ (.int ..) ⟨il,?_⟩ hs
  have e1:a+(i:Int)*c+c=a+((i+1:Nat):Int)*c:=by rw [Int.natCast_succ,Int.add_mul,Int.one_mul,Int.add_assoc]
  have e2:(n:Int) - i - 1=(n:Int) - ((i+1:Nat):Int):=by lia
  rw [e1,e2] at it'
  exact it'
 fin:=fun cx i η σ s R kp le it hx A Q E hh k=>by
  obtain ⟨hi,it⟩:=it
  have il:n≤i:=by have:=Bg.mp hx; simpa using this
  exact wpAny_pyNext_range_end hh it (by lia) fun h' he=>k h' s.toks he
 self:=fun i s A Q E it h=>wpAny_pyIter_rangeiter it.2 h
 go:=fun target v i s A Q E ⟨_,e⟩ h=>Hv e rfl (by decide) h
theorem Itb.rng {a b c:Int} (hsm:Es a b c=true):Itb G (.rng a b c) (rangeL a b c) fun _=>True:=fun cx η σ s v' R kp hv A Q E k=>by
 obtain ⟨_,_,_,_,rfl,z⟩:=hv.rngE
 ·
  obtain ⟨f1,f2⟩:=HK R
  have hn:=IC a b c
  refine wpAny_pyIter_range (R.frz _ _ z) hsm (k s.heap.objs.size _ s.toks _ f1 f2 (fun b o e=>AD _ e) (Itr.range (a:=a) (c:=c) (n:=(A9 a b c).toNat)) ⟨A4 _,?_⟩)
  have e:a+((0:Nat):Int)*c=a:=by simp
  have e2:(((A9 a b c).toNat:Nat):Int) - ((0:Nat):Int)=A9 a b c:=by rw [DW hn]; simp
  rw [e,e2]
  exact Ah _ rfl
end
end
section
inductive IE (η:Et):List (Str×AV)->List (Str×Value)->Prop where
 | nil:IE η [] []
 | cons {x:Str} {v:AV} {v':Value} {ab:List (Str×AV)} {bs:List (Str×Value)}:VR η v v'->IE η ab bs->IE η ((x,v)::ab) ((x,v')::bs)
theorem IE.names {η:Et} {ab:List (Str×AV)} {bs:List (Str×Value)} (h:IE η ab bs):bs.map (·.1)=ab.map (·.1):=by
 induction h with
 | nil=>rfl
 | cons _ _ ih=>rw [AM,AM,ih]
noncomputable def WBind (G:Gb) (fd:FuncData) (args:List AV) (ab:List (Str×AV)):Prop:=∀ c η σ s args' (A:Around) (E:PV) (Q:List (Str×Value)->Shared->Prop),Rel G c η σ s->VRs η args args' →
 (∀ binds η1 h' tk,Rel G c η1 σ { s with heap:=h',toks:=tk }->Stp G c.own η η1 s { s with heap:=h',toks:=tk }->IE η1 ab binds->Q binds { s with heap:=h',toks:=tk })->wpAny (mo G) A (bindArgs fd ⟨args',[]⟩) Q E s
theorem K3 {k:Str->Option NameKind} {x:Str} {bs:List (Str×Value)}:∀ {m:Str->Option Value},x∉bs.map (·.1)->bindL k bs m x=m x:=by
 induction bs with
 | nil=>exact fun _=>rfl
 | cons b r ih =>
  intro m h
  show bindL k r _ x=_
  rw [ih fun e=>h (.tail _ e)]
  split
  ·exact if_neg fun e:x=b.1=>h (e▸.head _)
  ·rfl
theorem K4 {k:Str->Option NameKind} {x:Str} {bs:List (Str×Value)}:∀ {m:Str->Option Value},x∉bs.map (·.1)->bindC k bs m x=m x:=by
 induction bs with
 | nil=>exact fun _=>rfl
 | cons b r ih =>
  intro m h
  show bindC k r _ x=_
  rw [ih fun e=>h (.tail _ e)]
  split
  ·rfl
  ·exact if_neg fun e:x=b.1=>h (e▸.head _)
theorem NQ {η:Et} {k:Str->Option NameKind} {x:Str} {v:AV} {ab:List (Str×AV)} {bs:List (Str×Value)} (br:IE η ab bs):(ab.map (·.1)).Nodup->∀ {j:Nat},ab[j]?=some (x,v)->∀ m m':Str->Option Value,
  ∃ v',An3 (VR η v v') ((k x=some .local->bindL k bs m x=some v')) ((k x≠some .local->bindC k bs m' x=some v')):=by
 induction br with
 | nil=>exact fun _ _ e=>ns e
 | @cons y u v' ab bs hv r ih =>
  intro nd j e m m'
  rw [AM,BA] at nd
  cases j with
  | zero =>
   obtain ⟨rfl,rfl⟩:=Prod.mk.inj (Option.some.inj e)
   refine ⟨v',hv,fun hk=>?_,fun hk=>?_⟩
   ·unfold bindL; rw [K3 (r.names▸nd.1),if_pos hk,if_pos rfl]
   ·unfold bindC; rw [K4 (r.names▸nd.1),if_neg hk,if_pos rfl]
  | succ j=>exact ih nd.2 e _ _
noncomputable def fnOk (fd:FuncData) (ns:List (Str×Bool)):Bool :=
 (fd.scope.kind==.function)&&!fd.scope.isCoroutine&&!fd.scope.isGenerator &&
 ns.all (fun x=>!(x.1==("__debug__" : Str))&&!(x.1==("__classdict__" : Str))&&(fd.scope.names.lookup x.1==some (if x.2 then Dr else NameKind.local))&&(!x.2||((cellsFrom 0 fd.scope.names []).lookup x.1).isSome)) &&
 decide ((ns.map (·.1)).Nodup)&&decide (((cellsFrom 0 fd.scope.names []).map (·.1)).Nodup)
theorem KS {l:List (Str×Addr)}:∀ {l':List (Str×Addr)},l.map (·.1)=l'.map (·.1)->∀ x,(l.lookup x).isSome=(l'.lookup x).isSome:=by
 induction l with
 | nil =>
  intro l' h x
  rw [List.map_eq_nil_iff.mp h.symm]
 | cons a l ih =>
  intro l' h x
  cases l' with
  | nil=>cases h
  | cons b l' =>
   obtain ⟨h1,h2⟩:=List.cons.inj h
   rw [Bd,Bd,show a.1=b.1 from h1]
   cases x==b.1 with
   | true=>rfl
   | false=>exact ih h2 x
noncomputable def fcx (fd:FuncData) (f:Addr) (ns:List (Str×Bool)) (A:Around) (fe:List Env) (L:Addr) (k:Nat):Cx :=
 { A:=A.deeper (callEnvC fd L f),env:=callEnvC fd L f,fe:=callEnvC fd L f::fe,L:=L,ns:=ns,k:=k,oc:=(callEnvC fd L f).cells }
noncomputable def retv:Fl->AV
 | .ret v=>v
 | _=>.none
noncomputable def flv:Flow->Value
 | .ret v=>v
 | _=>.none
theorem FlR.val {η:Et} {fl:Fl} {fl':Flow} (h:FlR η fl fl'):VR η (retv fl) (flv fl'):=by
 cases h with
 | ret hv=>exact hv
 | next=>exact .rig _
 | brk=>exact .rig _
 | cont=>exact .rig _
noncomputable def retP (Q:PV) (r:Result) (s':Shared):Prop:=match r with
 | .ok (.ret v)=>Q v s'
 | .ok _=>False
 | .error _=>False
noncomputable def WC (G:Gb) (k:Nat) (f:Value) (args:List AV) (H:Hp) (Q:AV->Hp->Prop):Prop:=∀ c,k≤c.k->c.hd=false->∀ η s σ args',Rel G c η σ s->σ.H=H->VRs η args args' →
 codeAny (mo G) c.A (.call f ⟨args',[]⟩) (retP (Po G c VR η s fun v σ'=>σ'.loc=σ.loc∧Q v σ'.H)) s
theorem WC.call {G:Gb} {k:Nat} {f:Value} {args:List AV} {H:Hp} {Q:AV->Hp->Prop} (h:WC G k f args H Q) {c:Cx} (hk:k≤c.k) (hh:c.hd=false) {η:Et} {s:Shared} {σ:St} {args':List Value} (R:Rel G c η σ s) (hH:σ.H=H) (ha:VRs η args args') :
  wpAny (mo G) c.A (call f args') (Po G c VR η s fun v σ'=>σ'.loc=σ.loc∧Q v σ'.H) FF s :=
 BL (Cu (h c hk hh η s σ args' R hH ha) fun r s' z=>by rcases r with e | (v | _ | _ | _)<;>exact z)
noncomputable def loc0 (ab:List (Str×AV)) (ns:List (Str×Bool)):List (Option AV):=ab.map (fun x=>some x.2)++Az (ns.length - ab.length) none
theorem Gb.KIn {G:Gb} {c:Cx} {η:Et} {σ:St} {s:Shared} (R:Rel G c η σ s) {a:Addr} {o:Obj} (e:G.K.lookup a=some o) (hc:o.cls≠.none):s.heap.get? a=some o:=R.old.get_of_cls (R.gok.X _ _ e) hc
structure Bs (G:Gb) (η:Et) (H:Hp) (s:Shared):Prop where
 gok:G.Ok
 heap:∀ l o,H l=some o->∃ o',s.heap.get? (η.ρ l)=some o'∧OR G.w η o o'
 dom:∀ l,η.D l↔H l≠none
 inj:∀ l l',η.D l->η.D l'->η.ρ l=η.ρ l'->l=l'
 sep:∀ l o,H l=some o->o≠.dead->η.Z (η.ρ l)=none
 low:∀ l,η.D l->G.h₀.objs.size≤η.ρ l
 frz:∀ a o,η.Z a=some o->s.heap.get? a=some o
 old:OldK G.h₀ s.heap
 bk:∀ b o,G.h₀.get? b=some o->¬G.tb b->s.heap.get? b=some o
 gens:AllBare s.gens
 os:s.os=G.os₀
 zt:∀ b o,G.h₀.get? b=some o->η.Z b=none
 tabs:Tabs G.h₀ s.heap
 sz:G.h₀.objs.size≤s.heap.objs.size
structure Fes (G:Gb) (η:Et) (fe:List Env) (s:Shared):Prop where
 ff:s.heap.FunFrames eH fe
 fu:∀ e∈fe,∀ b,e.frame=some b->G.h₀.objs.size≤b∧(∀ l,η.D l->η.ρ l≠b)∧η.Z b=none
 fd:∀ e∈fe,∀ b,e.frame=some b->Ex3 fun o es ep=>s.heap.get? b=some o∧o.data=.dict es ep
section
variable {G:Gb} {η:Et} {H:Hp} {s:Shared} {c:Cx} {σ:St}
theorem Rel.bs (R:Rel G c η σ s):Bs G η σ.H s:=⟨R.gok,R.heap,R.dom,R.inj,R.sep,R.low,R.frz,R.old,R.bk,R.gens,R.os,R.zt,R.tabs,R.sizeLe⟩
theorem Rel.fes (R:Rel G c η σ s):Fes G η c.fe s:=⟨R.ff,R.fu,R.fd⟩
theorem Fes.nil:Fes G η [] s:=⟨trivial,fun _ h=>(nomatch h),fun _ h=>(nomatch h)⟩
theorem Bs.rel (B:Bs G η σ.H s) (ok:c.Ok) (fr:FR c η σ.loc s.heap) (ow:∀ b,c.own b->G.h₀.objs.size≤b∧η.Z b=none∧∀ l,η.D l->η.ρ l≠b) (F:Fes G η c.fe s):Rel G c η σ s :=
 ⟨B.gok,ok,B.heap,B.dom,B.inj,B.sep,B.low,B.frz,B.old,B.bk,B.gens,B.os,B.zt,B.tabs,fr,ow,F.ff,F.fu,F.fd⟩
theorem Bs.labThere (R:Bs G η H s) {l:Lb} (d:η.D l):∃ o,s.heap.get? (η.ρ l)=some o:=by
 cases e:H l with
 | none=>exact ((R.dom l).mp d e).elim
 | some ao=>obtain ⟨o',z,_⟩:=R.heap l ao e; exact ⟨o',z⟩
theorem Bs.new (B:Bs G η H s) {b:Addr} (hb:s.heap.get? b=none) (lo:G.h₀.objs.size≤b):G.h₀.objs.size≤b∧η.Z b=none∧∀ l,η.D l->η.ρ l≠b:=by
 refine ⟨lo,?_,fun l d q=>?_⟩
 ·cases q:η.Z b with
  | none=>rfl
  | some o=>have:=B.frz _ _ q; rw [hb] at this; exact ns this
 ·obtain ⟨o,z⟩:=B.labThere d; rw [q,hb] at z; exact ns z
theorem Bs.keeps (B:Bs G η H s) {h2:Heap} {tk:Nat} (k:∀ b o,s.heap.get? b=some o->h2.get? b=some o) (z:s.heap.objs.size≤h2.objs.size):Bs G η H { s with heap:=h2,toks:=tk } :=
 ⟨B.gok,fun l o e=>let ⟨o',z,r⟩:=B.heap l o e; ⟨o',k _ _ z,r⟩,B.dom,B.inj,B.sep,B.low,fun a o e=>k _ _ (B.frz a o e),B.old.step_keeps k,fun b o e n=>k _ _ (B.bk b o e n),B.gens,B.os,B.zt,B.tabs.keeps k,Ab B.sz z⟩
theorem Fes.keeps {fe:List Env} (F:Fes G η fe s) {h2:Heap} {tk:Nat} (k:∀ b o,s.heap.get? b=some o->h2.get? b=some o):Fes G η fe { s with heap:=h2,toks:=tk } :=
 ⟨F.ff.of_keeps fun b o e _=>⟨o,k _ _ e,rfl⟩,F.fu,fun e he b hb=>let ⟨o,es,ep,z,d⟩:=F.fd e he b hb; ⟨o,es,ep,k _ _ z,d⟩⟩
theorem Fes.cons {fe:List Env} {e2:Env} {L:Addr} {m:Str->Option Value} (F:Fes G η fe s) (kd:e2.scope.kind=.function) (hL:e2.frame=some L) (hn:s.heap.Ns L m) (u:G.h₀.objs.size≤L∧η.Z L=none∧∀ l,η.D l->η.ρ l≠L):Fes G η (e2::fe) s:=by
 obtain ⟨oL,es,ep,z,zd,_⟩:=hn
 refine ⟨⟨by rw [kd]; decide,⟨L,oL,hL,rfl,z,fun vs e=>by rw [zd] at e; contradiction⟩,F.ff⟩,fun e he b hb=>?_,fun e he b hb=>?_⟩
 ·cases he with
  | head=>rw [hL] at hb; obtain rfl:=Option.some.inj hb; exact ⟨u.1,u.2.2,u.2.1⟩
  | tail _ he=>exact F.fu e he b hb
 ·cases he with
  | head=>rw [hL] at hb; obtain rfl:=Option.some.inj hb; exact ⟨oL,es,ep,z,zd⟩
  | tail _ he=>exact F.fd e he b hb
theorem Bs.enter {c2:Cx} {e2:Env} {fe:List Env} {loc:List (Option AV)} {h2:Heap} {tk:Nat} (B:Bs G η H s) (F:Fes G η fe s) (hfe:c2.fe=e2::fe) (kd:e2.scope.kind=.function) (hL:e2.frame=some c2.L) (ow:∀ b,c2.own b->s.heap.objs.size≤b)
  (k:∀ b o,s.heap.get? b=some o->h2.get? b=some o) (ok:c2.Ok) (fr:FR c2 η loc h2):Rel G c2 η ⟨loc,H⟩ { s with heap:=h2,toks:=tk }:=by
 have un:∀ b,c2.own b->G.h₀.objs.size≤b∧η.Z b=none∧∀ l,η.D l->η.ρ l≠b:=fun b o=>B.new (Ht (ow b o)) (Ab B.sz (ow b o))
 have fr':=fr
 obtain ⟨_,_,m,hn,_⟩:=fr'
 exact ⟨B.gok,ok,fun l o e=>let ⟨o',z,r⟩:=B.heap l o e; ⟨o',k _ _ z,r⟩,B.dom,B.inj,B.sep,B.low,fun a o e=>k _ _ (B.frz a o e),B.old.step_keeps k,fun b o e n=>k _ _ (B.bk b o e n),B.gens,B.os,B.zt,B.tabs.keeps k,fr,un,
  hfe▸((F.keeps k).cons kd hL hn (un _ (.inl rfl))).ff,hfe▸((F.keeps (tk:=tk) k).cons kd hL hn (un _ (.inl rfl))).fu,hfe▸((F.keeps (tk:=tk) k).cons kd hL hn (un _ (.inl rfl))).fd⟩
theorem Rel.back {c2:Cx} {e2:Env} {η3:Et} {σ3:St} {s3:Shared} (R1:Rel G c η σ s) (R3:Rel G c2 η3 σ3 s3) (hfe:c2.fe=e2::c.fe) (ow:∀ b,c2.own b->s.heap.objs.size≤b) (x:Stp G c2.own η η3 s s3):Rel G c η3 { σ with H:=σ3.H } s3∧Stp G c.own η η3 s s3:=by
 have fresh:∀ b o,s.heap.get? b=some o->¬c2.own b:=fun b o e w=>absurd (Ba e) (Bh.mpr (ow b w))
 have st:Stp G c.own η η3 s s3:=x.narrow fun b o e w=>(fresh b o e w).elim
 have F:=R3.fes
 rw [hfe] at F
 refine ⟨Bs.rel (σ:={ σ with H:=σ3.H }) R3.bs R1.ok (R1.fr.step st.le fun b w o e=>?_) (fun b w=>?_) ⟨F.ff.2.2,fun e he=>F.fu e (.tail _ he),fun e he=>F.fd e (.tail _ he)⟩,st⟩
 ·obtain ⟨a1,a2,a3⟩:=R1.ownl b w
  obtain ⟨o',e',sm⟩:=x.fm b o a1 e a3 (fresh b o e)
  exact ⟨o',e',sm.data⟩
 ·obtain ⟨a1,a2,a3⟩:=R1.ownl b w
  obtain ⟨o,e⟩:=R1.ownThere w
  exact ⟨a1,st.unZ e a3 a2,st.un e a3⟩
end
theorem KW {ab:List (Str×AV)} {ns:List (Str×Bool)} {i:Nat} {x:Str} {b:Bool} (hab:ab.map (·.1)=(ns.take ab.length).map (·.1)) (nd:(ns.map (·.1)).Nodup) (hi:ns[i]?=some (x,b)) :
  (∃ v,ab[i]?=some (x,v)∧lg (loc0 ab ns) i=some v)∨(x∉ab.map (·.1)∧lg (loc0 ab ns) i=none):=by
 unfold lg loc0
 by_cases hi':i<ab.length
 ·have e:(ab.map (·.1))[i]?=some x:=by rw [hab,Ai,El hi',hi]; rfl
  rw [Ai,Ao] at e
  obtain ⟨⟨_,v⟩,e,rfl⟩:=e
  exact .inl ⟨v,e,by rw [BD (by rw [Ae]; exact hi'),Ai,e]; rfl⟩
 ·refine .inr ⟨fun hm=>?_,?_⟩
  ·rw [hab] at hm
   obtain ⟨y,hy,e⟩:=As.mp hm
   obtain ⟨j,hj⟩:=Bl.mp hy
   have hj1:=(Am.mp hj).1
   rw [Dp,Nat.lt_min] at hj1
   rw [El hj1.1] at hj
   exact hi' (LA nd hi hj e.symm▸hj1.1)
  ·rw [B4 (by rw [Ae]; exact Bh.mp hi')]
   cases q:(Az (ns.length - ab.length) (none:Option AV))[i - (ab.map fun x=>some x.2).length]? with
   | none=>rfl
   | some y=>obtain ⟨_,q⟩:=Am.mp q; rw [Gv] at q; rw [← q]; rfl
theorem LC {ab:List (Str×AV)} {ns:List (Str×Bool)} (hab:ab.map (·.1)=(ns.take ab.length).map (·.1)):(loc0 ab ns).length=ns.length:=by
 have:=congrArg AH hab
 rw [Ae,Ae,Dp] at this
 unfold loc0
 rw [A6,Ae,C2,Nat.add_sub_cancel' (by rw [this]; exact Cd ..)]
theorem LM {fd:FuncData} {ns:List (Str×Bool)} (hok:fnOk fd ns=true):fd.scope.isCoroutine=false∧fd.scope.isGenerator=false:=by
 unfold fnOk at hok
 simp only [AF,Bz] at hok
 exact ⟨hok.1.1.1.1.2,hok.1.1.1.2⟩
theorem NK {G:Gb} {k:Nat} {fd:FuncData} {f:Addr} {body:List Stmt} {ns:List (Str×Bool)} {H:Hp} {ab:List (Str×AV)} {A:Around} {fe:List Env} {η1:Et} {s1:Shared} {RR:Result->Shared->Prop} {Q:PF}
  (gl:fd.globals=mainGlobals) (bu:fd.builtins=builtinsNs) (hcl:fd.closure=[]) (hok:fnOk fd ns=true) (hab:ab.map (·.1)=(ns.take ab.length).map (·.1))
  (hA:A.frames=some fe) (d1:A.depth+k+1≤900) (d2:A.units+3+50*k≤9000) (d3:A.handled=none) {binds:List (Str×Value)} (br:IE η1 ab binds) (B:Bs G η1 H s1) (F:Fes G η1 fe s1)
  (h:∀ L,WS G (fcx fd f ns A fe L k) body ⟨loc0 ab ns,H⟩ Q)
  (K:∀ L fl' fl σ3 η3 s3,Q fl σ3->FlR η3 fl fl'->Rel G (fcx fd f ns A fe L k) η3 σ3 s3->(∀ b,(fcx fd f ns A fe L k).own b->s1.heap.objs.size≤b)->Stp G (fcx fd f ns A fe L k).own η1 η3 s1 s3->RR (.ok (.ret (flv fl'))) s3) :
  wpAny (mo G) A.in1 (newFunctionEnv fd.scope fd.globals fd.closure binds (fd.qualname ++ ".<locals>.") (some f) fd.code none fd.builtins) (fun env s₂=>s₂.heap.NoLimit∧codeAny (mo G) A (.func body env) RR s₂) (fun e s'=>RR (.error e) s') s1:=by
 unfold fnOk at hok
 simp only [AF,Bz,beq_iff_eq,decide_eq_true_eq] at hok
 obtain ⟨⟨⟨⟨⟨k1,k2⟩,k3⟩,k4⟩,k5⟩,k6⟩:=hok
 have kk:∀ x b,(x,b)∈ns->(x==("__debug__" : Str))=false∧(x==("__classdict__" : Str))=false∧fd.scope.names.lookup x=some (if b then Dr else NameKind.local)∧(b=true->((cellsFrom (s1.heap.objs.size+1) fd.scope.names []).lookup x).isSome=true):=fun x b hm=>by
  have:=AX.mp k4 _ hm
  simp only [AF,Bz,beq_iff_eq,DU] at this
  exact ⟨this.1.1.1,this.1.1.2,this.1.2,fun hb=>by rw [← KS (cellsFrom_names fd.scope.names 0 _ [] [] rfl)]; exact this.2.resolve_left (by rw [hb]; decide)⟩
 rw [hcl]
 refine wpAny_newFunctionEnv_cells k1 (fun x hx=>?_) fun env' he s2 ic=>?_
 ·have hm:x.1∈binds.map (·.1):=EV hx
  rw [br.names,hab] at hm
  obtain ⟨⟨y,b⟩,hy,e⟩:=As.mp hm
  obtain ⟨_,_,a3,a4⟩:=kk y b (Cf hy)
  rw [← e]
  cases b with
  | false=>exact .inl a3
  | true=>exact .inr ⟨a3,a4 rfl⟩
 have he':env'=callEnvC fd s1.heap.objs.size f:=he
 clear he
 subst he'
 obtain ⟨h2,tk2,rfl,hk2⟩:=ic.done
 refine ⟨(B.gok.lim.at fun o e=>B.bk _ _ e fun q=>q.1 rfl).keeps hk2,codeAny_func ?_⟩
 have above:∀ x b,(x,b)∈cellsFrom (s1.heap.objs.size+1) fd.scope.names []->s1.heap.objs.size<b:=fun x b hb=>ic.above x b hb
 have ow:∀ b,(fcx fd f ns A fe s1.heap.objs.size k).own b->s1.heap.objs.size≤b:=fun b w=>by
  rcases w with rfl | ⟨x,hx⟩
  ·exact Ak _
  ·exact Ay (above x b hx)
 have abnd:(ab.map (·.1)).Nodup:=by rw [hab]; exact (Ci ..▸k5.sublist (D8 ..))
 refine Qh (wb (h _ η1 _ (B.enter F rfl k1 rfl ow hk2 ⟨k1,rfl,gl,bu,Gx hA,?_,d2,fun _=>d3,fun x b hm=>?_,k5,ic.apart,fun x b hb=>AG (above x b hb),fun _ _ e=>e⟩ ⟨LC hab,fun x b hb=>⟨_,ic.cell x b (lookup_of_mem_nodup ?_ hb)⟩,_,ic.toInCall.ns,fun i x b hi=>?_⟩)) fun fl' fl σ3 η3 s3 q3 hfl R3 st3=>?_)
 ·show A.depth+1+k≤900
  rw [D4]; exact d1
 ·obtain ⟨a1,a2,a3,a4⟩:=kk x b hm
  refine ⟨a1,a2,?_⟩
  cases b with
  | false=>exact a3
  | true=>exact ⟨a3,Do.mp (a4 rfl)⟩
 ·exact cellsFrom_names fd.scope.names 0 (s1.heap.objs.size+1) [] [] rfl▸k6
 ·obtain ⟨a1,a2,a3,a4⟩:=kk x b (Au hi)
  cases b with
  | false =>
   rcases KW hab k5 hi with ⟨v,hv,hl⟩ | ⟨hm,hl⟩
   ·obtain ⟨v',r1,r2,_⟩:=NQ (k:=(callEnvC fd s1.heap.objs.size f).kindOf) br abnd hv (fun _=>none) (fun _=>none)
    show OVR _ _ _
    rw [hl,r2 a3]; exact .some r1
   ·show OVR _ _ _
    rw [hl,K3 (br.names▸hm)]; exact .none
  | true =>
   obtain ⟨ca,hca⟩:=Do.mp (a4 rfl)
   refine ⟨ca,_,hca,ic.cell x ca hca,?_⟩
   rcases KW hab k5 hi with ⟨v,hv,hl⟩ | ⟨hm,hl⟩
   ·obtain ⟨v',r1,_,r3⟩:=NQ (k:=(callEnvC fd s1.heap.objs.size f).kindOf) br abnd hv (fun _=>none) (fun _=>none)
    rw [hl,r3 fun q=>nomatch a3.symm.trans q]; exact .some r1
   ·rw [hl,K4 (br.names▸hm)]; exact .none
 have z:=K _ fl' fl σ3 η3 s3 q3 hfl R3 ow ((Stp.ext hk2).trans st3)
 cases fl'<;>exact z
theorem WC.def {G:Gb} {k:Nat} {fd:FuncData} {f:Addr} {oc:Value} {od:Option Addr} {osl:Array (Option Value)} {body:List Stmt} {ns:List (Str×Bool)} {args:List AV} {H:Hp} {Q:AV->Hp->Prop} {ab:List (Str×AV)}
  (hf:G.K.lookup f=some ⟨oc,od,.func fd,osl⟩) (hoc:oc≠.none) (hcd:Ex4 fun cd oc' vs t=>An5 (fd.code=.ref cd) (G.K.lookup cd=some oc') (oc'.cls≠.none) (oc'.data=.fields vs) (vs[1]?=some (.str fd.qualname t))) (hb:fd.body=.stmts body) (hcl:fd.closure=[])
  (hgl:fd.globals=mainGlobals) (hbu:fd.builtins=builtinsNs) (hok:fnOk fd ns=true) (hbind:WBind G fd args ab) (hab:ab.map (·.1)=(ns.take ab.length).map (·.1))
  (h:∀ A fe L,WS G (fcx fd f ns A fe L k) body ⟨loc0 ab ns,H⟩ fun fl σ'=>Q (retv fl) σ'.H):WC G (k+2) (.ref f) args H Q:=by
 intro c hk hhd η s σ args' R hH hargs
 subst hH
 have d1:=R.ok.depth
 have d2:=R.ok.units
 obtain ⟨g2,g3⟩:=LM hok
 obtain ⟨cd,oc',vs,t,e1,e2,e3,e4,e5⟩:=hcd
 refine (Fd (by show c.A.depth<recursionLimit; unfold recursionLimit; lia) (Gb.KIn R hf hoc) rfl g2 g3 hb ⟨cd,oc',vs,t,e1,Gb.KIn R e2 e3,e4,e5⟩ (hbind c η σ s args' _ _ _ R hargs fun binds η1 h' tk R1 st1 br =>
  NK hgl hbu hcl hok hab R.ok.frames (by lia) (by lia) (R.ok.handled hhd) br R1.bs R1.fes (h c.A c.fe) fun L fl' fl σ3 η3 s3 q3 hfl R3 ow st3=>?_))
 obtain ⟨x,y⟩:=R1.back R3 rfl ow st3
 exact ⟨retv fl,{ σ with H:=σ3.H },η3,⟨rfl,q3⟩,hfl.val,x,st1.trans y⟩
end
section
section
variable {G:Gb} {c:Cx} {σ:St}
theorem Rel.K {η:Et} {s:Shared} (R:Rel G c η σ s):G.K.In s.heap:=fun a o e=>by
 rcases R.gok.Kc a o e with h | h
 ·exact R.old.get_of_cls (R.gok.X _ _ e) h
 ·exact R.bk _ _ (R.gok.X _ _ e) fun q=>q.1 h
noncomputable def Kpr (G:Gb) (f:AV):Prop:=∀ c η σ s f',Rel G c η σ s->VR η f f'->∃ k,(k=BQ∨k=Bv∨k=Bc)∧Looks (mo G) s.heap (keeperOf f') k
theorem Kpr.builtin {id:String}:Kpr G (.rig (.builtin id)):=fun c η σ s f' R hv=>by (first | obtain ⟨_,rfl⟩:=hv.intE | obtain ⟨_,rfl⟩:=hv.strE | obtain ⟨rfl,_⟩:=hv.refE | obtain rfl:=hv.rigE); exact ⟨.machine,.inr (.inl rfl),By rfl⟩
theorem Kpr.type {id:String}:Kpr G (.rig (.type id)):=fun c η σ s f' R hv=>by (first | obtain ⟨_,rfl⟩:=hv.intE | obtain ⟨_,rfl⟩:=hv.strE | obtain ⟨rfl,_⟩:=hv.refE | obtain rfl:=hv.rigE); exact ⟨.machine,.inr (.inl rfl),By rfl⟩
theorem Kpr.glob {a:Addr} (hk:keepIn G.K (.ref a)=true):Kpr G (.rig (.ref a)):=fun c η σ s f' R hv=>by (first | obtain ⟨_,rfl⟩:=hv.intE | obtain ⟨_,rfl⟩:=hv.strE | obtain ⟨rfl,_⟩:=hv.refE | obtain rfl:=hv.rigE); exact keeps_K hk s.heap R.K
noncomputable def WEs (G:Gb) (c:Cx) (pos:Pos) (es:List Expr) (σ:St) (Q:List AV->St->Prop):Prop:=∀ η s,Rel G c η σ s->wpAny (mo G) c.A (spliced (backTo pos (starEach es c.env))) (Po G c VRs η s Q) FF s
theorem WEs.nil {pos:Pos} {Q:List AV->St->Prop} (q:Q [] σ):WEs G c pos [] σ Q:=fun η s R=>Cv (.here R q .nil)
theorem WEs.cons {pos:Pos} {e:Expr} {rest:List Expr} {Q:List AV->St->Prop} (h:WE G c e σ fun v σ1=>WEs G c pos rest σ1 fun vs σ2=>Q (v::vs) σ2) (he:starEach (e::rest) c.env=(false,eval e c.env)::starEach rest c.env) :
  WEs G c pos (e::rest) σ Q:=fun η s R =>
 Ck (wb (h η s R) fun v' v σ1 η1 s1 h1 hv R1 st1=>wb (h1 η1 s1 R1) fun vs' vs σ2 η2 s2 h2 hvs R2 st2=>⟨v::vs,σ2,η2,h2,.cons (hv.mono st2.le) hvs,R2,st1.trans st2⟩) he
noncomputable def WV (G:Gb) (c:Cx) (f:AV) (vs:List AV) (σ:St) (Q:PA):Prop:=∀ η s f' vs',Rel G c η σ s->VR η f f'->VRs η vs vs'->wpAny (mo G) c.A (call f' vs') (Po G c VR η s Q) FF s
theorem WV.of {k:Nat} {f:Value} {vs:List AV} {Q:PA} (hk:k≤c.k) (hh:c.hd=false) (h:WC G k f vs σ.H fun v H'=>Q v { σ with H:=H' }):WV G c (.rig f) vs σ Q:=fun η s f' vs' R hf hvs=>by
 obtain rfl:=hf.rigE
 refine wb (h.call hk hh R rfl hvs) fun v' v σ1 η1 s1 h1 hv R1 st1=>⟨v,σ1,η1,?_,hv,R1,st1⟩
 obtain ⟨e,q⟩:=h1
 have:σ1={ σ with H:=σ1.H }:=by rw [← e]
 rw [this]; exact q
theorem Hz {M:Model} {A:Around} {E:PV} {s:Shared} {f:Value} {pos:Pos} {es:List Expr} {env:Env} {Q:Args->Shared->Prop} (hp:(backTo pos (starEach es env)).any (·.1)=false)
  (h:wpAny M A (spliced (backTo pos (starEach es env))) (fun vs s'=>Q ⟨vs,[]⟩ s') E s):wpAny M A (evalArgs f true (backTo pos (starEach es env)) []) Q E s:=by
 generalize backTo pos (starEach es env)=l at hp h
 cases l with
 | nil =>
  show wpAny M A (spliced [] >>=_) Q E s
  refine Aa (AC h (fun vs s' h'=>?_) fun _ _ x=>x)
  refine Aa (Ad (Ax ?_))
  exact Aa (Ad (Aa (Ad (Ad h'))))
 | cons x r =>
  obtain ⟨b,t⟩:=x
  cases b with
  | false=>exact evalArgs_plain h
  | true=>simp at hp
theorem WE.call {func:Expr} {es:List Expr} {pos:Pos} {Q:PA} (h:WE G c func σ fun f σ1=>Kpr G f∧WEs G c pos es σ1 fun vs σ2=>WV G c f vs σ2 Q)
  (he:eval (.Call func es [] pos) c.env=(eval func c.env >>=fun f=>callWith pos f [] (backTo pos (starEach es c.env)) [])) (hp:(backTo pos (starEach es c.env)).any (·.1)=false):WE G c (.Call func es [] pos) σ Q:=fun η s R=>by
 rw [he]
 refine Aa (wb (h η s R) fun f' f σ1 η1 s1 h1 hf R1 st1=>?_)
 obtain ⟨kp,h1⟩:=h1
 refine Dh (P:=fun h=>∃ k,(k=BQ∨k=Bv∨k=Bc)∧Looks (mo G) h (keeperOf f') k) (by rw [hp]; rfl) (fun _ x=>x) (Hz hp (wb (h1 η1 s1 R1) fun vs' vs σ2 η2 s2 h2 hvs R2 st2=>?_))
 exact ⟨kp c η2 σ2 s2 f' R2 (hf.mono st2.le),HM (h2 η2 s2 f' vs' R2 (hf.mono st2.le) hvs) (st1.trans st2)⟩
noncomputable def WM (G:Gb) (c:Cx) (ov:AV) (name:Str) (σ:St) (f:AV) (first:List AV):Prop:=∀ η s ov' pl,Rel G c η σ s->VR η ov ov'->∀ (Q:Value×List Value->Shared->Prop) (E:PV),
 (∀ f' first' tk,VR η f f'->VRs η first first'->Q (f',first') { s with toks:=tk })->wpAny (mo G) c.A (getMethod ov' name pl) Q E s
theorem WE.meth {o:Expr} {name:Str} {apos pos:Pos} {es:List Expr} {Q:PA}
  (h:WE G c o σ fun ov σ1=>Ex2 fun f first=>An3 (WM G c ov name σ1 f first) (Kpr G f) (WEs G c pos es σ1 fun vs σ2=>WV G c f (first++vs) σ2 Q))
  (hb:attributeBase o name c.env (eval o c.env)=eval o c.env) (hline:(apos.endLine==pos.line)=true) (hn:decide (es.length<30)=true) (hp:(backTo pos (starEach es c.env)).any (·.1)=false) (hpa:(backTo pos (starEach es c.env)).all (fun x=>!x.1)=true) :
  WE G c (.Call (.Attribute o name apos) es [] pos) σ Q:=fun η s R=>by
 show wpAny (mo G) c.A (do
  let ov ← attributeBase o name c.env (eval o c.env)
  standAt apos.atName
  methodCall o name apos pos c.env ov (es.length+([]:List Keyword).length) (backTo pos (starEach es c.env)) (backToKw pos (keywordEach [] c.env))) _ _ s
 rw [hb]
 refine Aa (wb (h η s R) fun ov' ov σ1 η1 s1 h1 hov R1 st1=>Aa (Bu ?_))
 obtain ⟨f,first,wm,kp,h1⟩:=h1
 have hfew:methodCallForm (es.length+([]:List Keyword).length) (backTo pos (starEach es c.env)) (backToKw pos (keywordEach [] c.env))=true:=by
  unfold methodCallForm
  rw [hpa]
  show (true&&true&&decide (es.length+0+(if ([]:List (Option Str×Sem Value)).isEmpty then 0 else 1)<30))=true
  exact hn
 unfold methodCall
 rw [hfew]
 refine Aa (Ax ?_)
 unfold calleeOf
 rw [if_pos rfl]
 refine wm η1 s1 ov' _ R1 hov _ _ fun f' first' tk hf hfirst=>?_
 have hpos:methodCallPos true o c.env apos pos=pure pos:=by unfold methodCallPos; rw [hline]; rfl
 dsimp only
 rw [hpos]
 refine Aa (Ad ?_)
 have R1':Rel G c η1 σ1 { s1 with toks:=tk }:=R1.ext fun _ _ e=>e
 have st1':Stp G c.own η1 η1 s1 { s1 with toks:=tk }:=.ext fun _ _ e=>e
 refine Dh (P:=fun h=>∃ k,(k=BQ∨k=Bv∨k=Bc)∧Looks (mo G) h (keeperOf f') k) (by rw [hp]; rfl) (fun _ x=>x) (Hz hp (wb (h1 η1 _ R1') fun vs' vs σ2 η2 s2 h2 hvs R2 st2=>?_))
 exact ⟨kp c η2 σ2 s2 f' R2 (hf.mono st2.le),HM (h2 η2 s2 f' (first'++vs') R2 (hf.mono st2.le) ((hfirst.mono st2.le).append hvs)) ((st1.trans st1').trans st2)⟩
end
end
section
section
variable {G:Gb} {c:Cx} {σ:St}
theorem Gb.nsAt {h:Heap} {a:Addr} {m:Str->Option Value} (bk:∀ β o,G.h₀.get? β=some o->¬G.tb β->h.get? β=some o) (n:G.h₀.Ns a m):h.Ns a m :=
 let ⟨o,es,ep,ho,hd,r⟩:=n
 ⟨o,es,ep,bk _ _ ho (fun ⟨_,_,_,hT⟩=>nomatch ((congrArg Obj.data (Option.some.inj (ho.symm.trans hT.2))).symm.trans hd)),hd,r⟩
section
variable {A:Around} {E:PV} {t:Shared} {env:Env}
theorem Uv {x:Str} {v:Value} {pos:Pos} {Q:PV} (gok:G.Ok) (bk:∀ β o,G.h₀.get? β=some o->¬G.tb β->t.heap.get? β=some o) (hg:env.globals=mainGlobals) (hbn:env.builtins=builtinsNs) (hk:env.scope.kind=.function)
  (e:nsIn G.K mainGlobals x=some Av) (hb:bootBuiltins x=some v) (hn:x ≠ "__name__") (hx:env.kindOf x=some .globalImplicit) (hd:(x==("__debug__" : Str))=false) (q:Q v t):wpAny (mo G) A (eval (.Name x pos) env) Q E t:=by
 exact Name_function_global hk hx (loadGlobal_builtin (by rw [hg]; exact G.nsAt bk gok.g) (mg_none_of gok.X gok.g e) (by rw [hbn]; exact G.nsAt bk gok.b) ((gok.bb x hn).trans hb) q) hd
theorem Tc {x:Str} {v:Value} {pos:Pos} {Q:PV} (gok:G.Ok) (bk:∀ β o,G.h₀.get? β=some o->¬G.tb β->t.heap.get? β=some o) (hg:env.globals=mainGlobals) (hk:env.scope.kind=.function)
  (e:nsIn G.K mainGlobals x=some (some v)) (hx:env.kindOf x=some .globalImplicit) (hd:(x==("__debug__" : Str))=false) (q:Q v t):wpAny (mo G) A (eval (.Name x pos) env) Q E t:=by
 exact Name_function_global hk hx (loadGlobal_global (by rw [hg]; exact G.nsAt bk gok.g) (mg_of gok.X gok.g e) q) hd
end
theorem Rel.rawG {η:Et} {s:Shared} {x:Str} {v:Value} {pos:Pos} {Q:PV} (R:Rel G c η σ s) (e:nsIn G.K mainGlobals x=some (some v)) (hx:c.env.kindOf x=some .globalImplicit) (hd:(x==("__debug__" : Str))=false) (q:Q v s):wpAny (mo G) c.A (eval (.Name x pos) c.env) Q FF s :=
 Tc R.gok R.bk R.ok.globals R.ok.kind e hx hd q
theorem Rel.raw {η:Et} {s:Shared} {x:Str} {v:Value} {pos:Pos} {Q:PV} (R:Rel G c η σ s) (e:nsIn G.K mainGlobals x=some Av) (hb:bootBuiltins x=some v) (hn:x ≠ "__name__") (hx:c.env.kindOf x=some .globalImplicit) (hd:(x==("__debug__" : Str))=false) (q:Q v s):wpAny (mo G) c.A (eval (.Name x pos) c.env) Q FF s :=
 Uv R.gok R.bk R.ok.globals R.ok.builtins R.ok.kind e hb hn hx hd q
theorem WE.glob {x:Str} {pos:Pos} {a:AV} {v:Value} {Q:PA} (e:nsIn G.K mainGlobals x=some (some v)) (hv:∀ η,VR η a v) (q:Q a σ) (hx:c.env.kindOf x=some .globalImplicit) (hd:(x==("__debug__" : Str))=false):WE G c (.Name x pos) σ Q:=fun η s R=>R.rawG e hx hd (.here R q (hv η))
theorem WE.bltn {x:Str} {pos:Pos} {v:Value} {Q:PA} (e:nsIn G.K mainGlobals x=some Av) (hb:bootBuiltins x=some v) (hn:x ≠ "__name__") (q:Q (.rig v) σ) (hx:c.env.kindOf x=some .globalImplicit) (hd:(x==("__debug__" : Str))=false):WE G c (.Name x pos) σ Q:=fun η s R=>R.raw e hb hn hx hd (.here R q (.rig _))
theorem VRs.size {η:Et} {xs:List AV} {vs:Array Value} (h:VRs η xs vs.toList):xs.length=vs.size:=by have:=h.length; rw [this]; simp
noncomputable def NoPyItem (G:Gb) (v:AV):Prop:=∀ c η σ s v',Rel G c η σ s->VR η v v'->∀ (A:Around) (Q:Bool->Shared->Prop) (E:PV),Q false s->wpAny (mo G) A (getitemInPython v') Q E s
variable {a b:Int}
theorem WB.add {Q:PA} (q:Q (.int (a+b)) σ):WB G c VR (binaryOp .Add) (.int a) (.int b) σ Q:=fun η s a' b' R ha hb=>by obtain ⟨_,rfl⟩:=ha.intE; obtain ⟨_,rfl⟩:=hb.intE; exact P.add_int (.toks R q (.int ..))
theorem WB.sub {Q:PA} (q:Q (.int (a - b)) σ):WB G c VR (binaryOp .Sub) (.int a) (.int b) σ Q:=fun η s a' b' R ha hb=>by obtain ⟨_,rfl⟩:=ha.intE; obtain ⟨_,rfl⟩:=hb.intE; exact P.sub_int (.toks R q (.int ..))
theorem WB.mul {Q:PA} (hm:IntMulOk a b) (q:Q (.int (a*b)) σ):WB G c VR (binaryOp .Mult) (.int a) (.int b) σ Q:=fun η s a' b' R ha hb=>by obtain ⟨_,rfl⟩:=ha.intE; obtain ⟨_,rfl⟩:=hb.intE; exact P.mul_int (.toks R q (.int ..)) hm
theorem WB.mod {Q:PA} (h0:b≠0) (q:Q (.int (a.fmod b)) σ):WB G c VR (binaryOp .Mod) (.int a) (.int b) σ Q:=fun η s a' b' R ha hb=>by obtain ⟨_,rfl⟩:=ha.intE; obtain ⟨_,rfl⟩:=hb.intE; exact mod_int h0 (.toks R q (.int ..))
theorem WB.fdiv {Q:PA} (h0:b≠0) (hs:b.natAbs<1073741824) (q:Q (.int (a.fdiv b)) σ):WB G c VR (binaryOp .FloorDiv) (.int a) (.int b) σ Q:=fun η s a' b' R ha hb=>by obtain ⟨_,rfl⟩:=ha.intE; obtain ⟨_,rfl⟩:=hb.intE; exact floordiv_int h0 (.toks R q (.int ..)) (.inl (En hs))
theorem WB.shr {Q:PA} (h0:0≤b) (q:Q (.int (a.fdiv (2 ^ b.toNat))) σ):WB G c VR (binaryOp .RShift) (.int a) (.int b) σ Q:=fun η s a' b' R ha hb=>by obtain ⟨_,rfl⟩:=ha.intE; obtain ⟨_,rfl⟩:=hb.intE; exact rshift_int h0 (.toks R q (.int ..))
theorem WB.lt {Q:PA} (q:Q (.bool (decide (a<b))) σ):WB G c VR (compareOp .Lt) (.int a) (.int b) σ Q:=fun η s a' b' R ha hb=>by obtain ⟨_,rfl⟩:=ha.intE; obtain ⟨_,rfl⟩:=hb.intE; exact P.lt_int (.here R q (.rig _))
theorem WB.le {Q:PA} (q:Q (.bool (decide (a≤b))) σ):WB G c VR (compareOp .LtE) (.int a) (.int b) σ Q:=fun η s a' b' R ha hb=>by obtain ⟨_,rfl⟩:=ha.intE; obtain ⟨_,rfl⟩:=hb.intE; exact P.le_int (.here R q (.rig _))
theorem WB.gt {Q:PA} (q:Q (.bool (decide (a>b))) σ):WB G c VR (compareOp .Gt) (.int a) (.int b) σ Q:=fun η s a' b' R ha hb=>by obtain ⟨_,rfl⟩:=ha.intE; obtain ⟨_,rfl⟩:=hb.intE; exact P.gt_int (.here R q (.rig _))
theorem WB.ge {Q:PA} (q:Q (.bool (decide (a≥b))) σ):WB G c VR (compareOp .GtE) (.int a) (.int b) σ Q:=fun η s a' b' R ha hb=>by obtain ⟨_,rfl⟩:=ha.intE; obtain ⟨_,rfl⟩:=hb.intE; exact P.ge_int (.here R q (.rig _))
theorem WB.eq {Q:PA} (q:Q (.bool (a==b)) σ):WB G c VR (compareOp .Eq) (.int a) (.int b) σ Q:=fun η s a' b' R ha hb=>by obtain ⟨_,rfl⟩:=ha.intE; obtain ⟨_,rfl⟩:=hb.intE; exact P.eq_int (.here R q (.rig _))
theorem WB.ne {Q:PA} (q:Q (.bool (a !=b)) σ):WB G c VR (compareOp .NotEq) (.int a) (.int b) σ Q:=fun η s a' b' R ha hb=>by obtain ⟨_,rfl⟩:=ha.intE; obtain ⟨_,rfl⟩:=hb.intE; exact P.ne_int (.here R q (.rig _))
theorem WB.iadd {Q:PA} (q:Q (.int (a+b)) σ):WB G c VR (inplaceOp .Add) (.int a) (.int b) σ Q:=fun η s a' b' R ha hb=>by obtain ⟨_,rfl⟩:=ha.intE; obtain ⟨_,rfl⟩:=hb.intE; exact P.iadd_int (.toks R q (.int ..))
theorem WB.isub {Q:PA} (q:Q (.int (a - b)) σ):WB G c VR (inplaceOp .Sub) (.int a) (.int b) σ Q:=fun η s a' b' R ha hb=>by obtain ⟨_,rfl⟩:=ha.intE; obtain ⟨_,rfl⟩:=hb.intE; exact P.isub_int (.toks R q (.int ..))
theorem WB.ifdiv {Q:PA} (h0:b≠0) (hs:b.natAbs<1073741824) (q:Q (.int (a.fdiv b)) σ):WB G c VR (inplaceOp .FloorDiv) (.int a) (.int b) σ Q:=fun η s a' b' R ha hb=>by obtain ⟨_,rfl⟩:=ha.intE; obtain ⟨_,rfl⟩:=hb.intE; exact ifloordiv_int h0 (.toks R q (.int ..)) (.inl (En hs))
theorem WB.is {x:AV} {Q:PA} {t:Bool} (ht:∀ η x',VR η x x'->(x'==Bt)=t) (q:Q (.bool t) σ):WB G c VR (compareOp .Is) x (.rig .none) σ Q:=fun η s a' b' R ha hb=>by
 obtain rfl:=hb.rigE; refine is_none ?_; rw [ht η a' ha]; exact .here R q (.rig _)
theorem WB.isNot {x:AV} {Q:PA} {t:Bool} (ht:∀ η x',VR η x x'->(x'==Bt)=t) (q:Q (.bool (!t)) σ):WB G c VR (compareOp .IsNot) x (.rig .none) σ Q:=fun η s a' b' R ha hb=>by
 obtain rfl:=hb.rigE; refine isNot_none ?_; rw [ht η a' ha]; exact .here R q (.rig _)
theorem WU.tBool {t:Bool} {Q:PB} (q:Q t σ):WU G c BR truthy (.bool t) σ Q:=fun η s a' R ha=>by (first | obtain ⟨_,rfl⟩:=ha.intE | obtain ⟨_,rfl⟩:=ha.strE | obtain ⟨rfl,_⟩:=ha.refE | obtain rfl:=ha.rigE); exact EA (.here R q rfl)
theorem WU.tNone {Q:PB} (q:Q false σ):WU G c BR truthy .none σ Q:=fun η s a' R ha=>by (first | obtain ⟨_,rfl⟩:=ha.intE | obtain ⟨_,rfl⟩:=ha.strE | obtain ⟨rfl,_⟩:=ha.refE | obtain rfl:=ha.rigE); exact PyProof.Rows.truthy_none (.here R q rfl)
theorem WU.tList {v:AV} {xs:List AV} {Q:PB} (hl:isL σ v xs) (hz:xs.length<2 ^ 60) (q:Q (!xs.isEmpty) σ):WU G c BR truthy v σ Q:=fun η s a' R ha=>by
 obtain ⟨ad,vs,n,rfl,e,r⟩:=R.list hl ha
 have hlen:=r.size
 refine wpAny_truthy_list ⟨_,e,rfl,n,rfl⟩ (by lia) ?_
 have he:(!vs.isEmpty)=!xs.isEmpty:=by
  congr 1
  cases xs with
  | nil=>simp only [Dy] at hlen; simp [Fh,← hlen]
  | cons x r=>simp only [AW] at hlen; simp [Fh,← hlen]
 rw [he]; exact .toks R q rfl
theorem JQ {l:List AV} {k:Int} {x:AV} (h:l[k.toNat]?=some x):k.toNat<l.length:=(Am.mp h).1
theorem WB.item {v x:AV} {xs:List AV} {k:Int} {Q:PA} (hl:isL σ v xs) (h0:0≤k) (hz:xs.length<2 ^ 60) (hx:xs[k.toNat]?=some x) (q:Q x σ):WB G c VR getItem v (.int k) σ Q:=fun η s a' b' R ha hb=>by
 obtain ⟨_,rfl⟩:=hb.intE
 obtain ⟨ad,vs,n,rfl,e,r⟩:=R.list hl ha
 obtain ⟨x',hx',hr⟩:=HF r hx
 have:=JQ hx
 exact wpAny_getItem_list ⟨_,e,rfl,n,rfl⟩ h0 (by lia) hx' (.here R q hr)
theorem WB.itemNeg {v x:AV} {xs:List AV} {k:Int} {Q:PA} (hl:isL σ v xs) (h0:k<0) (h1:-(xs.length:Int)≤k) (hz:xs.length<2 ^ 60) (hx:xs[(k+xs.length).toNat]?=some x) (q:Q x σ):WB G c VR getItem v (.int k) σ Q:=fun η s a' b' R ha hb=>by
 obtain ⟨_,rfl⟩:=hb.intE
 obtain ⟨ad,vs,n,rfl,e,r⟩:=R.list hl ha
 have hlen:=r.size
 obtain ⟨x',hx',hr⟩:=HF r hx
 exact wpAny_getItem_list_neg ⟨_,e,rfl,n,rfl⟩ h0 (by lia) (by lia) (by rw [← hlen]; exact hx') (.here R q hr)
theorem WV.lenL {v:AV} {xs:List AV} {Q:PA} (hl:isL σ v xs) (hz:xs.length<2 ^ 60) (q:Q (.int xs.length) σ):WV G c (.rig (.builtin "len")) [v] σ Q:=fun η s f' vs' R hf hvs=>by
 obtain rfl:=hf.rigE
 cases hvs with
 | cons hv hr=>cases hr with
  | nil =>
   obtain ⟨ad,vs,n,rfl,e,r⟩:=R.list hl hv
   have hlen:=r.size
   refine call_len_list ⟨_,e,rfl,n,rfl⟩ (by lia) ?_
   rw [← hlen]; exact .toks R q (.int ..)
theorem Tu {s:Shared} {v:Value} {T id:String} {A:Around} {Q:Bool->Shared->Prop} {E:PV} (hT:s.TypeIs v T) (hl:typeLookup (.type T) "__getitem__" = pure (some (.builtin id))) (h:Q false s):wpAny (mo G) A (getitemInPython v) Q E s:=by
 rw [getitemInPython_of_ne hT.not_modules]
 refine Aa (Dg hT hl ?_)
 exact Ad h
theorem NoPyItem.lst {xs:List AV}:NoPyItem G (.lst xs):=fun c η σ s v' R hv A Q E h=>by
 obtain ⟨_,_,_,rfl,z,r⟩:=hv.lstE
 exact Tu (T := "list") ⟨_,R.frz _ _ z,rfl⟩ Dn.lookup h
theorem NoPyItem.tup {xs:List AV}:NoPyItem G (.tup xs):=fun c η σ s v' R hv A Q E h=>by
 obtain ⟨_,_,_,rfl,z,r⟩:=hv.tupE
 exact Tu (T := "tuple") ⟨_,R.frz _ _ z,rfl⟩ F.slot_tuple_getitem.lookup h
theorem NoPyItem.str {x:Str}:NoPyItem G (.str x):=fun c η σ s v' R hv A Q E h=>by
 obtain ⟨t,rfl⟩:=hv.strE
 exact Tu (typeIs_str s x t) F.slot_str_getitem.lookup h
noncomputable def NoPyAt (G:Gb) (v:AV) (σ:St):Prop:=∀ c η s v',Rel G c η σ s->VR η v v'->∀ (A:Around) (Q:Bool->Shared->Prop) (E:PV),Q false s->wpAny (mo G) A (getitemInPython v') Q E s
theorem NoPyItem.at {v:AV} (h:NoPyItem G v):NoPyAt G v σ:=fun c η s v' R hv A Q E q=>h c η σ s v' R hv A Q E q
theorem NoPyAt.list {v:AV} {xs:List AV} (hl:isL σ v xs):NoPyAt G v σ:=fun c η s v' R hv A Q E h=>by
 obtain ⟨ad,vs,n,rfl,e,r⟩:=R.list hl hv
 exact Tu (T := "list") ⟨_,e,rfl⟩ Dn.lookup h
theorem NoPyAt.dict {l:Lb} {es:List (Int×AV)} {ep:Nat} (hl:σ.H l=some (.dict es ep)):NoPyAt G (.ref l) σ:=fun c η s v' R hv A Q E h=>by
 obtain ⟨rfl,d⟩:=hv.refE
 ·
  obtain ⟨o,e,en,rfl,r⟩:=R.heap l _ hl
  exact Tu (T := "dict") ⟨_,e,rfl⟩ slot_dict_getitem.lookup h
theorem WE.sub {o i:Expr} {pos:Pos} {Q:PA} (h:WE G c o σ fun v σ1=>WE G c i σ1 fun k σ2=>WB G c VR getItem v k σ2 Q∧NoPyAt G v σ2)
  (hs:∀ a b,subscripted i false a b=operate [a,b] (getItem a b)):WE G c (.Subscript o i pos) σ Q:=fun η s R=>by
 show wpAny (mo G) c.A (do
  let o' ← eval o c.env
  let i' ← holding [o'] (eval i c.env)
  standAt pos
  let r ← subscripted i (← getitemInPython o') o' i'
  letTemporaryGo o o' r
  pure r) _ _ s
 refine Aa (wb (h η s R) fun v' v σ1 η1 s1 h1 hv R1 st1=>Aa (Ax (wb (h1 η1 s1 R1) fun k' k σ2 η2 s2 h2 hk R2 st2=>Aa (Bu ?_))))
 obtain ⟨h2,np⟩:=h2
 refine Aa (np c η2 s2 v' R2 (hv.mono st2.le) _ _ _ ?_)
 rw [hs]
 refine Aa (G4 (wb (h2 η2 s2 v' k' R2 (hv.mono st2.le) hk) fun r' r σ3 η3 s3 h3 hr R3 st3=>Aa (wpAny_letTemporaryGo (Ad ?_))))
 exact ⟨r,σ3,η3,h3,hr,R3,(st1.trans st2).trans st3⟩
theorem JG {prog:Program} {w:World} {A:Around} {E:PV} {s:Shared} {l:Addr} {items:Array Value} {n:Nat} {k:Int} {t:Tok} {v:Value} {Q:Unit->Shared->Prop} (hl:s.heap.get? l=some (lstO items n))
  (h0:0≤k) (hfit:k<2 ^ 63) (hn:k<items.size) (hQ:∀ n',(s.heap.update l (DA (·.setIfInBounds k.toNat v))).get? l=some (lstO (items.setIfInBounds k.toNat v) n')->Q () { s with heap:=s.heap.update l (DA (·.setIfInBounds k.toNat v)) }) :
  wpAny (model prog w) A (setItem (.ref l) (.int k t) v) Q E s:=by
 have hT:s.TypeIs (.ref l) "list" :=⟨_,hl,rfl⟩
 refine Ax ?_
 refine Aa (wpAny_sequenceKey hT (by decide) ?_)
 refine Aa (EM (name:=A8 "__setitem__") hT EC (CU EC hT entry_list_setitem ?_ (args_list_setitem _ _ _)))
 show wpAny _ _ (CJ (.int k t) >>=_) _ _ s
 refine Aa (GX (fitsIndex_of h0 hfit) ?_)
 clear hfit
 obtain ⟨j,rfl⟩:=Gw h0
 have hj:j<items.size:=by lia
 have hx':items[j]?=some items[j]:=Array.getElem?_eq_getElem hj
 show wpAny _ _ ((seqItemAt l j >>=fun r=>pure (r.map (j,·))) >>=_) _ _ s
 refine Aa (Aa (wpAny_seqItemAt hl rfl (Ad ?_)))
 rw [hx']
 show wpAny _ _ (setSeqItemAt l j v >>=_) _ _ s
 refine Aa (wpAny_setSeqItemAt hl rfl ?_)
 have fin:=hQ (if (items.setIfInBounds j v).size==items.size then n else n+1) (BJ _ hl rfl)
 first
  | exact Aa (Ad (Ad ⟨.none,rfl,Ad fin⟩))
  | exact Ad ⟨.none,rfl,Ad fin⟩
noncomputable def WSet (G:Gb) (c:Cx) (o k v:AV) (σ:St) (Q:St->Prop):Prop:=∀ η s o' k' v',Rel G c η σ s->VR η o o'->VR η k k'->VR η v v'->wpAny (mo G) c.A (setItem o' k' v') (Po G c UR η s fun _ σ'=>Q σ') FF s
theorem WSet.list {l:Lb} {xs:List AV} {k:Int} {v:AV} {Q:St->Prop} (hl:σ.H l=some (.list xs)) (h0:0≤k) (hk:k<xs.length) (hz:xs.length<2 ^ 60) (q:Q { σ with H:=up σ.H l (.list (xs.set k.toNat v)) }):WSet G c (.ref l) (.int k) v σ Q:=fun η s o' k' v' R ho hk' hv=>by
 obtain ⟨rfl,d⟩:=ho.refE
 ·
  obtain ⟨_,rfl⟩:=hk'.intE
  obtain ⟨o,e,vs,n,rfl,r⟩:=R.heap l _ hl
  have hlen:=r.size
  refine JG e h0 (Du hk (B8 (B7.mpr hz) (by decide))) (B8 hk (Be.mpr (A1 hlen))) fun n' e'=>?_
  obtain ⟨R',st⟩:=R.setL (tk:=s.toks) (ao:=.list (xs.set k.toNat v)) hl (by intro q; contradiction) (A0 ..) e' ⟨_,n',rfl,by rw [FB]; exact r.set hv⟩
  exact ⟨(),_,η,q,trivial,R',st _⟩
theorem WG.sub {o i:Expr} {pos:Pos} {v:AV} {Q:St->Prop} (h:WE G c o σ fun ov σ1=>WE G c i σ1 fun k σ2=>WSet G c ov k v σ2 Q):WG G c (.Subscript o i pos) v σ Q:=fun η s v' R hv=>by
 rw [arm_assign_Subscript]
 refine Aa (Ax (wb (h η s R) fun ov' ov σ1 η1 s1 h1 ho R1 st1=>Aa (Ax (wb (h1 η1 s1 R1) fun k' k σ2 η2 s2 h2 hk R2 st2=>Aa (Bu (Aa (Ax
  (wb (h2 η2 s2 ov' k' v' R2 (ho.mono st2.le) hk (hv.mono (st1.le.trans st2.le))) fun _ _ σ3 η3 s3 h3 _ R3 st3=>G3 ⟨(),σ3,η3,h3,trivial,R3,(st1.trans st2).trans st3⟩))))))))
theorem W1.asg {target value:Expr} {pos:Pos} {Q:PF} (h:WE G c value σ fun v σ1=>WG G c target v σ1 fun σ2=>Q .next σ2) (hs:swapsWith value (some target) pos.line c.env=pure false) (hw:swappedStores [target] value c.env=pure Av)
  (ha:assignEach [target] c.env=[(false,assign target c.env)]):W1 G c (.Assign [target] value pos) σ Q:=fun η s R=>by
 show wpAny (mo G) c.A (do
  standAt pos
  if ← swapsWith value (some target) pos.line c.env then do
   evalThenUse value c.env fun v=>assignAll v ((assignEach [target] c.env).map (·.2))
   pure G1
  else do
   let v ← eval value c.env
   assignStores c.env v (← swappedStores [target] value c.env) ((assignEach [target] c.env).map (·.2))) _ _ s
 rw [hs,hw,ha]
 refine Aa (Bu (Aa (Ad ?_)))
 rw [if_neg (by decide)]
 refine Aa (wb (h η s R) fun v' v σ1 η1 s1 h1 hv R1 st1=>Aa (Ad ?_))
 show wpAny (mo G) c.A (assignAll v' [assign target c.env] >>=fun _=>pure G1) _ _ s1
 refine Aa (wb (h1 η1 s1 v' R1 hv) fun _ _ σ2 η2 s2 h2 _ R2 st2=>Ad ⟨.next,σ2,η2,h2,.next,R2,st1.trans st2⟩)
theorem W1.augName {i:Nat} {x:Str} {b:Bool} {npos pos:Pos} {op:Operator} {value:Expr} {old:AV} {Q:PF} (hi:c.ns[i]?=some (x,b)) (ho:lg σ.loc i=some old)
  (h:WE G c value σ fun v σ1=>WB G c VR (inplaceOp op) old v σ1 fun r σ2=>Q .next { σ2 with loc:=σ2.loc.set i (some r) }):W1 G c (.AugAssign (.Name x npos) op value pos) σ Q:=fun η s R =>
 wpAny_AugAssign_Name (R.load hi ho fun old' hold=>wb (h η s R) fun v' v σ1 η1 s1 h1 hv R1 st1=>wb (h1 η1 s1 old' v' R1 (hold.mono st1.le) hv) fun r' r σ2 η2 s2 h2 hr R2 st2 =>
  R2.store hi hr fun h' tk R3 st3=>⟨.next,_,η2,h2,.next,R3,(st1.trans st2).trans st3⟩)
end
end
section
noncomputable def NewL (xs:List AV) (σ:St) (Q:PA):Prop:=Q (.lst xs) σ∨∃ l,σ.H l=none∧Q (.ref l) { σ with H:=up σ.H l (.list xs) }
section
variable {G:Gb} {c:Cx} {σ:St}
theorem Rel.newZ {η:Et} {s:Shared} (R:Rel G c η σ s) {h':Heap} {tk:Nat} {a:Addr} {o:Obj} {v:AV} {Q:PA} (hk:∀ b o,s.heap.get? b=some o->h'.get? b=some o) (hn:s.heap.get? a=none) (ha:h'.get? a=some o)
  (hv:VR (η.addZ a o) v (.ref a)) (q:Q v σ):Po G c VR η s Q (.ref a) { s with heap:=h',toks:=tk }:=by
 obtain ⟨R',st⟩:=R.addZ (tk:=tk) hk hn ha
 exact ⟨v,σ,_,q,hv,R',st _⟩
theorem Et.leZ {η:Et} {s:Shared} (R:Rel G c η σ s) {a:Addr} {o:Obj} (hn:s.heap.get? a=none):η.le (η.addZ a o):=⟨fun _ h=>h,fun _ _=>rfl,fun x ox e=>by
 show (if x=a then some o else η.Z x)=some ox
 by_cases q:x=a
 ·subst q; have:=R.frz _ _ e; rw [hn] at this; exact ns this
 ·rw [if_neg q]; exact e⟩
theorem Rel.newL {η:Et} {s:Shared} (R:Rel G c η σ s) {h':Heap} {tk n:Nat} {a:Addr} {vs:Array Value} {xs:List AV} {Q:PA} (hk:∀ b o,s.heap.get? b=some o->h'.get? b=some o) (hn:s.heap.get? a=none) (hb:G.h₀.objs.size≤a) (ha:h'.get? a=some (lstO vs n))
  (hv:VRs η xs vs.toList) (q:NewL xs σ Q):Po G c VR η s Q (.ref a) { s with heap:=h',toks:=tk }:=by
 rcases q with q | ⟨l,hl,q⟩
 ·exact R.newZ hk hn ha (.lst (if_pos rfl) (hv.mono (Et.leZ R hn))) q
 ·have le:η.le (η.addL l a):=⟨fun _ h=>.inr h,fun x d=>by show (if x=l then a else η.ρ x)=_; rw [if_neg (by rintro rfl; exact (R.dom _).mp d hl)],fun _ _ e=>e⟩
  obtain ⟨R',st⟩:=R.addL (tk:=tk) (ao:=.list xs) hk hn ha hb hl ⟨vs,n,rfl,hv.mono le⟩
  refine ⟨.ref l,_,_,q,?_,R',st _⟩
  have:(η.addL l a).ρ l=a:=if_pos rfl
  have x:VR (η.addL l a) (.ref l) (.ref ((η.addL l a).ρ l)):=.ref (.inl rfl)
  rw [this] at x; exact x
theorem Rel.newT {η:Et} {s:Shared} (R:Rel G c η σ s) {h':Heap} {tk n:Nat} {a:Addr} {vs:Array Value} {xs:List AV} {Q:PA} (hk:∀ b o,s.heap.get? b=some o->h'.get? b=some o) (hn:s.heap.get? a=none) (ha:h'.get? a=some (tupO vs n))
  (hv:VRs η xs vs.toList) (q:Q (.tup xs) σ):Po G c VR η s Q (.ref a) { s with heap:=h',toks:=tk }:=R.newZ hk hn ha (.tup (if_pos rfl) (hv.mono (Et.leZ R hn))) q
theorem Ho {h:Heap} {o:Obj}:∀ b o',h.get? b=some o'->(h.push o).get? b=some o':=fun _ _ e=>AD _ e
theorem H9 {h:Heap}:h.get? h.objs.size=none:=Ht (Ak _)
theorem WE.list {es:List Expr} {pos:Pos} {Q:PA} (h:WEs G c pos es σ fun vs σ1=>vs.length≤2 ^ 20∧NewL vs σ1 Q):WE G c (.List es pos) σ Q:=fun η s R =>
 wpAny_List (wb (h η s R) fun vs' vs σ1 η1 s1 h1 hvs R1 st1=>⟨by have:=hvs.length; have:=h1.1; unfold sizeLine; lia,(R1.newL (tk:=s1.toks) Ho H9 R1.sizeLe (Ah _ rfl) (by exact hvs) h1.2).back st1⟩)
theorem WE.tuple {es:List Expr} {k:Nat} {pos:Pos} {Q:PA} (h:WEs G c pos es σ fun vs σ1=>vs.length≤2 ^ 20∧Q (.tup vs) σ1):WE G c (.Tuple es k pos) σ Q:=fun η s R =>
 wpAny_Tuple (wb (h η s R) fun vs' vs σ1 η1 s1 h1 hvs R1 st1=>⟨by have:=hvs.length; have:=h1.1; unfold sizeLine; lia,(R1.newT (tk:=s1.toks) Ho H9 (Ah _ rfl) (by exact hvs) h1.2).back st1⟩)
theorem Rel.listX {η:Et} {s:Shared} (R:Rel G c η σ s) {v:AV} {v':Value} {xs:List AV} (h:isL σ v xs) (hv:VR η v v'):Ex3 fun a vs n=>An3 (v'=.ref a) (IsL s.heap a vs n) (VRs η xs vs.toList):=R.list h hv
theorem WB.cat {v w:AV} {xs ys:List AV} {Q:PA} (h1:isL σ v xs) (h2:isL σ w ys) (hz:xs.length+ys.length≤2 ^ 20) (q:NewL (xs++ys) σ Q):WB G c VR (binaryOp .Add) v w σ Q:=fun η s a' b' R ha hb=>by
 obtain ⟨a,vs,n,rfl,e,r⟩:=R.list h1 ha
 obtain ⟨b,ws,m,rfl,e',r'⟩:=R.list h2 hb
 have z1:=r.size
 have z2:=r'.size
 refine P.add_list e e' (R.newL (tk:=s.toks) Ho H9 R.sizeLe (Ah _ rfl) ?_ q) (by unfold sizeLine; lia)
 rw [Dq]; exact r.append r'
theorem WV.append {l:Lb} {xs:List AV} {x:AV} {Q:PA} (hl:σ.H l=some (.list xs)) (hz:xs.length≤2 ^ 20) (q:Q .none { σ with H:=up σ.H l (.list (xs++[x])) }):WV G c (.rig (.builtin "list.append")) [.ref l,x] σ Q:=fun η s f' vs' R hf hvs=>by
 obtain rfl:=hf.rigE
 obtain ⟨_,_,rfl,hv,hx⟩:=hvs.E2
 ·
   obtain ⟨rfl,d⟩:=hv.refE
   ·
    obtain ⟨o,e,vs,n,rfl,r⟩:=R.heap l _ hl
    have z:=r.size
    refine ED Em ⟨_,e,rfl⟩ F.entry_list_append (Fg _ _) (list_append _ vs n _ (by unfold sizeLine; lia)) ⟨e,?_⟩
    obtain ⟨R',st⟩:=R.setL (tk:=s.toks) (ao:=.list (xs++[x])) hl (by intro q; contradiction) (A0 ..) (Fz e fun y=>y.push _) ⟨_,_,rfl,by rw [D7]; exact r.append (.cons hx .nil)⟩
    exact ⟨_,_,η,q,.rig _,R',st _⟩
theorem WM.list {v:AV} {xs:List AV} {name:Str} {id:String} (hl:isL σ v xs) (slot:Slot "list" name id) (hty:typeOf (.builtin id)=pure (.type "method_descriptor")):WM G c v name σ (.rig (.builtin id)) [v]:=fun η s ov' pl R hv Q E k=>by
 obtain ⟨a,vs,n,rfl,e,r⟩:=R.list hl hv
 exact getMethod_list_of slot hty ⟨_,e,rfl,n,rfl⟩ ⟨_,e,rfl⟩ (k _ _ s.toks (.rig _) (.cons hv .nil))
theorem WM.append {v:AV} {xs:List AV} (hl:isL σ v xs):WM G c v "append" σ (.rig (.builtin "list.append")) [v]:=.list hl Em (by kernel_rfl)
theorem HR (vs:Array Value) (k:Nat):(vs.eraseIdxIfInBounds k).toList=vs.toList.eraseIdx k:=by simp
theorem HN {k:Int} {n:Nat} (h0:0≤k) (h1:k<n):seqIndex? k n=some k.toNat:=by
 unfold seqIndex?
 have a:¬k<0:=by lia
 rw [if_neg a]
 rw [if_pos (by simp [h0,h1])]
theorem I6 {k:Int} {n:Nat} (h0:k<0) (h1:-(n:Int)≤k):seqIndex? k n=some (k+n).toNat:=by
 unfold seqIndex?
 rw [if_pos h0]
 rw [if_pos (by simp; lia)]
theorem WV.popAt {l:Lb} {xs:List AV} {x:AV} {k:Int} {Q:PA} (hl:σ.H l=some (.list xs)) (hz:xs.length≤2 ^ 20) (h0:0≤k) (hx:xs[k.toNat]?=some x) (q:Q x { σ with H:=up σ.H l (.list (xs.eraseIdx k.toNat)) }):WV G c (.rig (.builtin "list.pop")) [.ref l,.int k] σ Q:=fun η s f' vs' R hf hvs=>by
 obtain rfl:=hf.rigE
 obtain ⟨_,_,rfl,hv,hk⟩:=hvs.E2
 ·
   obtain ⟨_,rfl⟩:=hk.intE
   obtain ⟨rfl,d⟩:=hv.refE
   ·
    obtain ⟨o,e,vs,n,rfl,r⟩:=R.heap l _ hl
    have z:=r.size
    have kl:=JQ hx
    obtain ⟨x',hx',hr⟩:=HF r hx
    refine ED Ga ⟨_,e,rfl⟩ F.entry_list_pop (F.args_list_pop_2 _ _) (MeetsSeq.list_pop_at _ vs n k _ k.toNat x' (fitsIndex_of h0 (B8 ((F1 h0).mp kl) (Bw (Be.mpr hz) (by decide)))) ?_ hx' (by unfold sizeLine; lia)) ⟨e,?_⟩
    ·exact HN h0 ((F1 h0).mp (AJ kl z))
    ·obtain ⟨R',st⟩:=R.setL (tk:=s.toks) (ao:=.list (xs.eraseIdx k.toNat)) hl (by intro q; contradiction) (A0 ..) (Fz e fun y=>y.eraseIdxIfInBounds k.toNat) ⟨_,_,rfl,by rw [HR]; exact r.eraseIdx⟩
     exact ⟨_,_,η,q,hr,R',st _⟩
theorem WV.pop {l:Lb} {xs:List AV} {x:AV} {Q:PA} (hl:σ.H l=some (.list xs)) (hz:xs.length≤2 ^ 20) (hx:xs[xs.length - 1]?=some x) (q:Q x { σ with H:=up σ.H l (.list xs.dropLast) }):WV G c (.rig (.builtin "list.pop")) [.ref l] σ Q:=fun η s f' vs' R hf hvs=>by
 obtain rfl:=hf.rigE
 obtain ⟨_,rfl,hv⟩:=hvs.E1
 ·
  obtain ⟨rfl,d⟩:=hv.refE
  ·
   obtain ⟨o,e,vs,n,rfl,r⟩:=R.heap l _ hl
   have z:=r.size
   obtain ⟨x',hx',hr⟩:=HF r hx
   refine ED Ga ⟨_,e,rfl⟩ F.entry_list_pop (F.args_list_pop_1 _) (MeetsSeq.list_pop_last _ vs n x' (by rw [← z]; exact hx') (by unfold sizeLine; lia)) ⟨e,?_⟩
   obtain ⟨R',st⟩:=R.setL (tk:=s.toks) (ao:=.list xs.dropLast) hl (by intro q; contradiction) (A0 ..) (Fz e fun y=>y.eraseIdxIfInBounds (vs.size - 1)) ⟨_,_,rfl,by
    rw [HR,← z,← F7]; exact r.eraseIdx⟩
   exact ⟨_,_,η,q,hr,R',st _⟩
theorem WV.clear {l:Lb} {xs:List AV} {Q:PA} (hl:σ.H l=some (.list xs)) (hz:xs.length≤2 ^ 20) (q:Q .none { σ with H:=up σ.H l (.list []) }):WV G c (.rig (.builtin "list.clear")) [.ref l] σ Q:=fun η s f' vs' R hf hvs=>by
 obtain rfl:=hf.rigE
 obtain ⟨_,rfl,hv⟩:=hvs.E1
 ·
  obtain ⟨rfl,d⟩:=hv.refE
  ·
   obtain ⟨o,e,vs,n,rfl,r⟩:=R.heap l _ hl
   have z:=r.size
   refine ED F.slot_list_clear ⟨_,e,rfl⟩ F.entry_list_clear (F.args_list_clear_1 _) (AutoSeq1.list_clear_list_0 _ vs n (by unfold sizeLine; lia)) ⟨e,?_⟩
   obtain ⟨R',st⟩:=R.setL (tk:=s.toks) (ao:=.list []) hl (by intro q; contradiction) (A0 ..) (Fz e fun _=>#[]) ⟨_,_,rfl,.nil⟩
   exact ⟨_,_,η,q,.rig _,R',st _⟩
theorem WM.pop {v:AV} {xs:List AV} (hl:isL σ v xs):WM G c v "pop" σ (.rig (.builtin "list.pop")) [v]:=.list hl Ga (by kernel_rfl)
theorem WM.clear {v:AV} {xs:List AV} (hl:isL σ v xs):WM G c v "clear" σ (.rig (.builtin "list.clear")) [v]:=.list hl F.slot_list_clear (by kernel_rfl)
theorem W1.expr {e:Expr} {pos:Pos} {Q:PF} (h:WE G c e σ fun _ σ1=>Q .next σ1) (hs:swapsWith e Av pos.line c.env=pure false):W1 G c (.Expr e pos) σ Q:=fun η s R =>
 wpAny_Expr_any (wb (h η s R) fun v' v σ1 η1 s1 h1 hv R1 st1=>⟨.next,σ1,η1,h1,.next,R1,st1⟩) (by unfold interactive; rw [R.ok.kind]; rfl) hs
end
end
section
section
variable {G:Gb} {c:Cx} {η:Et} {σ:St} {s:Shared}
theorem Rel.promZ (R:Rel G c η σ s) {a:Addr} {o:Obj} (e:s.heap.get? a=some o) (ul:∀ l,η.D l->η.ρ l≠a) (uo:¬c.own a) (uz:η.Z a=none) (hlo:G.h₀.objs.size≤a) (uf:∀ e∈c.fe,e.frame≠some a):Rel G c (η.addZ a o) σ s∧η.le (η.addZ a o):=by
 have le:η.le (η.addZ a o):=⟨fun _ h=>h,fun _ _=>rfl,fun x ox ez=>by
  show (if x=a then some o else η.Z x)=some ox
  by_cases q:x=a
  ·subst q; rw [uz] at ez; exact ns ez
  ·rw [if_neg q]; exact ez⟩
 refine ⟨⟨R.gok,R.ok,fun l o e=>let ⟨o',z,r⟩:=R.heap l o e; ⟨o',z,r.mono le⟩,R.dom,R.inj,fun l o' e' d=>?_,R.low,fun x ox e'=>?_,R.old,R.bk,R.gens,R.os,fun b o e=>by
   show (if b=a then some _ else η.Z b)=none
   rw [if_neg (fun q:b=a=>absurd (Ba e) (Bh.mpr (q▸hlo)))]; exact R.zt b o e,R.tabs,R.fr.step le fun b _ o e=>⟨o,e,rfl⟩,fun b ow=>?_,R.ff,fun e' he b hb=>by
   obtain ⟨b1,b2,b3⟩:=R.fu e' he b hb
   refine ⟨b1,b2,?_⟩
   show (if b=a then some _ else η.Z b)=none
   rw [if_neg (fun q:b=a=>uf e' he (q▸hb))]; exact b3,R.fd⟩,le⟩
 ·show (if η.ρ l=a then some _ else η.Z (η.ρ l))=none
  rw [if_neg (ul l (R.D_of e'))]; exact R.sep l o' e' d
 ·have e':(if x=a then some o else η.Z x)=some ox:=e'
  by_cases q:x=a
  ·subst q; rw [if_pos rfl] at e'; obtain rfl:=Option.some.inj e'; exact e
  ·rw [if_neg q] at e'; exact R.frz x ox e'
 ·obtain ⟨a1,a2,a3⟩:=R.ownl b ow
  refine ⟨a1,?_,a3⟩
  show (if b=a then some o else η.Z b)=none
  have nb:b≠a:=fun q=>uo (q▸ow)
  rw [if_neg nb]; exact a2
theorem Stp.promZ {own:Addr->Prop} {η₁:Et} {s₁:Shared} (x:Stp G own η₁ η s₁ s) {a:Addr} {o:Obj} (le:η.le (η.addZ a o)) (hn:s₁.heap.get? a=none):Stp G own η₁ (η.addZ a o) s₁ s :=
 ⟨x.le.trans le,x.ex,x.new,fun y oy e=>by
  have e:(if y=a then some o else η.Z y)=some oy:=e
  by_cases q:y=a
  ·subst q; exact .inr (.inl hn)
  ·rw [if_neg q] at e; exact x.newZ y oy e,x.fm⟩
theorem Rel.promL (R:Rel G c η σ s) {a:Addr} {o:Obj} {l:Lb} {ao:AO} (e:s.heap.get? a=some o) (ul:∀ l,η.D l->η.ρ l≠a) (uo:¬c.own a) (uz:η.Z a=none) (uf:∀ e∈c.fe,e.frame≠some a) (hlo:G.h₀.objs.size≤a) (hl:σ.H l=none) (hr:OR G.w (η.addL l a) ao o) :
  Rel G c (η.addL l a) { σ with H:=up σ.H l ao } s∧η.le (η.addL l a):=by
 have nd:¬η.D l:=fun d=>(R.dom l).mp d hl
 have old:∀ x,η.D x->(η.addL l a).ρ x=η.ρ x:=fun x d=>by
  show (if x=l then a else η.ρ x)=_
  rw [if_neg (by rintro rfl; exact nd d)]
 have self:(η.addL l a).ρ l=a:=if_pos rfl
 have le:η.le (η.addL l a):=⟨fun _ h=>.inr h,old,fun _ _ e=>e⟩
 have dm:∀ x ox,up σ.H l ao x=some ox->(x=l∧ox=ao)∨(x≠l∧σ.H x=some ox):=fun x ox e=>by
  unfold up at e
  by_cases q:x=l
  ·rw [if_pos q] at e; obtain rfl:=Option.some.inj e; exact .inl ⟨q,rfl⟩
  ·rw [if_neg q] at e; exact .inr ⟨q,e⟩
 refine ⟨⟨R.gok,R.ok,fun x ox e'=>?_,fun x=>?_,fun x y dx dy q=>?_,fun x ox e' d=>?_,fun x d=>?_,R.frz,R.old,R.bk,R.gens,R.os,R.zt,R.tabs,R.fr.step le fun b _ o e=>⟨o,e,rfl⟩,fun b ow=>?_,R.ff,fun e' he b hb=>?_,R.fd⟩,le⟩
 ·rcases dm x ox e' with ⟨rfl,rfl⟩ | ⟨q,e'⟩
  ·rw [self]; exact ⟨o,e,hr⟩
  ·rw [old x (R.D_of e')]
   obtain ⟨o',z,r⟩:=R.heap x ox e'
   exact ⟨o',z,r.mono le⟩
 ·show (x=l∨η.D x)↔up σ.H l ao x≠none
  unfold up
  by_cases q:x=l
  ·rw [if_pos q]; exact ⟨fun _=>Dl _,fun _=>.inl q⟩
  ·rw [if_neg q,← R.dom x]; exact ⟨fun h=>h.resolve_left q,.inr⟩
 ·rcases dx with rfl | dx<;>rcases dy with rfl | dy
  ·rfl
  ·rw [self,old y dy] at q; exact (ul y dy q.symm).elim
  ·rw [self,old x dx] at q; exact (ul x dx q).elim
  ·rw [old x dx,old y dy] at q; exact R.inj x y dx dy q
 ·rcases dm x ox e' with ⟨rfl,rfl⟩ | ⟨q,e'⟩
  ·rw [self]; exact uz
  ·rw [old x (R.D_of e')]; exact R.sep x ox e' d
 ·rcases d with rfl | d
  ·rw [self]; exact hlo
  ·rw [old x d]; exact R.low x d
 ·obtain ⟨a1,a2,a3⟩:=R.ownl b ow
  refine ⟨a1,a2,fun x d=>?_⟩
  rcases d with rfl | d
  ·rw [self]; rintro rfl; exact uo ow
  ·rw [old x d]; exact a3 x d
 ·obtain ⟨a1,a3,a4⟩:=R.fu e' he b hb
  refine ⟨a1,fun x d=>?_,a4⟩
  rcases d with rfl | d
  ·rw [self]; rintro rfl; exact uf e' he hb
  ·rw [old x d]; exact a3 x d
theorem Stp.promL {own:Addr->Prop} {η₁:Et} {s₁:Shared} (x:Stp G own η₁ η s₁ s) {a:Addr} {l:Lb} (le:η.le (η.addL l a)) (hn:s₁.heap.get? a=none) (hl:¬η.D l):Stp G own η₁ (η.addL l a) s₁ s :=
 ⟨x.le.trans le,x.ex,fun y d n=>by
  rcases d with rfl | d
  ·show s₁.heap.get? (if y=y then a else _)=none
   rw [if_pos rfl]; exact hn
  ·rw [le.ρ y d]; exact x.new y d n,fun y oy e=>x.newZ y oy e,x.fm⟩
theorem Po.newL {η₁:Et} {s₁:Shared} {xs:List AV} {Q:PA} (R:Rel G c η σ s) (x:Stp G c.own η₁ η s₁ s) {a:Addr} {vs:Array Value} {n:Nat} (e:s.heap.get? a=some (lstO vs n)) (hv:VRs η xs vs.toList) (hn:s₁.heap.get? a=none)
  (ul:∀ l,η.D l->η.ρ l≠a) (uo:¬c.own a) (uz:η.Z a=none) (uf:∀ e∈c.fe,e.frame≠some a) (hlo:G.h₀.objs.size≤a) (q:NewL xs σ Q):Po G c VR η₁ s₁ Q (.ref a) s:=by
 rcases q with q | ⟨l,hl,q⟩
 ·obtain ⟨R',le⟩:=R.promZ e ul uo uz hlo uf
  exact ⟨_,σ,_,q,.lst (if_pos rfl) (hv.mono le),R',x.promZ le hn⟩
 ·have le:η.le (η.addL l a):=⟨fun _ h=>.inr h,fun x d=>by show (if x=l then a else η.ρ x)=_; rw [if_neg (by rintro rfl; exact (R.dom _).mp d hl)],fun _ _ e=>e⟩
  obtain ⟨R',_⟩:=R.promL (ao:=.list xs) e ul uo uz uf hlo hl ⟨vs,n,rfl,hv.mono le⟩
  refine ⟨.ref l,_,_,q,?_,R',x.promL le hn fun d=>(R.dom l).mp d hl⟩
  have:(η.addL l a).ρ l=a:=if_pos rfl
  have y:VR (η.addL l a) (.ref l) (.ref ((η.addL l a).ρ l)):=.ref (.inl rfl)
  rw [this] at y; exact y
end
noncomputable def clo (env:Env):List (Str×NameKind)->List (Str×Addr)->List (Str×Addr)
 | [],cs=>cs
 | (n,k)::r,cs=>clo env r (if k==.free then (n,(env.cells.lookup n).getD 0)::cs else cs)
theorem Jt {scope:Scope} {env:Env} (h:∀ x∈scope.names,x.2=.free->∃ a,env.cells.lookup x.1=some a):closureFor scope env=pure (clo env scope.names []):=by
 have key:∀ (l:List (Str×NameKind)) (cs:List (Str×Addr)),(∀ x∈l,x.2=.free->∃ a,env.cells.lookup x.1=some a) →
   (forIn l cs fun (x:Str×NameKind) (cs:List (Str×Addr))=>(do
    if x.2==.free then
     let a ← cellOf env x.1
     pure (Er ((x.1,a)::cs))
    else pure (Er cs):Sem (ForInStep (List (Str×Addr)))))=pure (clo env l cs):=by
  intro l
  induction l with
  | nil=>intro cs _; rfl
  | cons x r ih =>
   intro cs hx
   obtain ⟨n,k⟩:=x
   rw [EJ]
   by_cases hk:k=.free
   ·subst hk
    obtain ⟨a,ha⟩:=hx _ (.head _) rfl
    have e1:cellOf env n=pure a:=by delta cellOf; rw [ha]
    rw [if_pos (show ((n,NameKind.free).2==NameKind.free)=true from rfl),e1,pure_bind,pure_bind]
    refine (ih _ fun y hy=>hx y (.tail _ hy)).trans ?_
    show pure (clo env r _)=pure (clo env r _)
    rw [if_pos (show (NameKind.free==NameKind.free)=true from rfl),ha]; rfl
   ·have hb:¬((n,k).2==NameKind.free)=true:=fun h=>hk (beq_iff_eq.mp h)
    rw [if_neg hb,pure_bind]
    refine (ih _ fun y hy=>hx y (.tail _ hy)).trans ?_
    show pure (clo env r _)=pure (clo env r _)
    rw [if_neg (show ¬(k==NameKind.free)=true from hb)]
 delta closureFor
 have:=key scope.names [] h
 rw [bind_pure]
 exact this
set_option tactic.hygienic true in
theorem RU {env:Env} {x:Str} {a:Addr} {l:List (Str×NameKind)}:∀ {cs:List (Str×Addr)},(x,a)∈clo env l cs->(x,a)∈cs∨((x,.free)∈l∧a=(env.cells.lookup x).getD 0):=by
 induction l with
 | nil=>exact fun h=>.inl h
 | cons y r ih =>
  intro cs h
  rcases ih h with h | ⟨h,e⟩
  ·split at h
   ·rename_i hk
    rcases Ap.mp h with q | q
    ·obtain ⟨rfl,rfl⟩:=Prod.mk.inj q; exact .inr ⟨by rw [← beq_iff_eq.mp hk]; exact .head _,rfl⟩
    ·exact .inl q
   ·exact .inl h
  ·exact .inr ⟨.tail _ h,e⟩
end
section
section
variable {prog:Program} {w:World} {A:Around} {R:Result->Shared->Prop} {s:Shared}
noncomputable abbrev testsT (ifs:List Expr) (env:Env):Sem Bool:=forIn ifs true fun c r=>if r=true then do let ok ← isTrue c env (eval c env); pure (Er ok) else pure (Er r)
noncomputable def CEnd (prog:Program) (w:World) (A:Around) (elt:Expr) (acc:Value) (env:Env) (Nx:Shared->Prop) (ok:Bool) (s:Shared):Prop :=
 if ok=true then wpAny (model prog w) A (eval elt env) (fun x s₄=>wpAny (model prog w) A (call (.builtin "list.append") [acc,x]) (fun _ s₅=>Nx s₅) FF s₄) FF s else Nx s
theorem CEnd.no {elt:Expr} {acc:Value} {env:Env} {Nx:Shared->Prop} (h:Nx s):CEnd prog w A elt acc env Nx false s:=h
theorem CEnd.yes {elt:Expr} {acc:Value} {env:Env} {Nx:Shared->Prop} (h:wpAny (model prog w) A (eval elt env) (fun x s₄=>wpAny (model prog w) A (call (.builtin "list.append") [acc,x]) (fun _ s₅=>Nx s₅) FF s₄) FF s):CEnd prog w A elt acc env Nx true s:=h
noncomputable def CTurn (prog:Program) (w:World) (A:Around) (target elt:Expr) (ifs:List Expr) (it acc:Value) (env:Env) (R:Result->Shared->Prop) (Nx:Shared->Prop) (r:Option Value) (s₁:Shared):Prop :=
 @Option.casesOn _ (fun _=>Prop) r (R (.ok .next) s₁) fun v=>wpAny (model prog w) A (letOwnedTupleGo target it v) (fun _ s₁'=>wpAny (model prog w) A (assign target env v) (fun _ s₂=>wpAny (model prog w) A (testsT ifs env) (CEnd prog w A elt acc env Nx) FF s₂) FF s₁') FF s₁
theorem Kx {elt target iter:Expr} {ifs:List Expr} {scope:Scope} {pos:Pos} {it acc:Value} {env:Env} (I:Nat->Shared->Prop)
  (turn:∀ n s,I n s->wpAny (model prog w) A (pyNext it) (CTurn prog w A target elt ifs it acc env R fun s=>∃ m,m<n∧I m s) FF s)
  (n:Nat) (h:I n s):codeAny (model prog w) A (.compLoop (.ListComp elt [⟨target,iter,ifs,0⟩] scope pos) 0 it acc env) R s:=by
 refine codeAny_loop rfl I (fun n s hI=>?_) n h
 show wpAny _ A ((compTurn (.ListComp elt [⟨target,iter,ifs,0⟩] scope pos) 0 it acc env).onRaise (fun x=>do noteFrame x env; theTreesLotGoes x)) _ _ s
 refine wpAny_noted ?_
 rw [compTurn_list]
 refine Qh (Aa (Bu (Aa (AC (turn n s hI) (fun r s₁ h₁=>?_) fun _ _ h'=>h'))))
 cases r with
 | none=>exact Ad h₁
 | some v =>
  refine Aa (AC h₁ (fun _ s₁' h₁'=>?_) fun _ _ h'=>h')
  refine Aa (AC h₁' (fun _ s₂ h₂=>Aa (AC h₂ (fun ok s₃ h₃=>?_) fun _ _ h'=>h')) fun _ _ h'=>h')
  cases ok with
  | false=>exact Ad ⟨rfl,h₃⟩
  | true=>exact Aa (Aa (AC h₃ (fun x s₄ h₄=>Aa (AC h₄ (fun _ s₅ h₅=>Ad (Ad ⟨rfl,h₅⟩)) fun _ _ h'=>h')) fun _ _ h'=>h'))
end
noncomputable def WTs (G:Gb) (c:Cx) (ifs:List Expr) (σ:St) (Q:PB):Prop:=∀ η s,Rel G c η σ s->wpAny (mo G) c.A (testsT ifs c.env) (Po G c BR η s Q) FF s
theorem WTs.nil {G:Gb} {c:Cx} {σ:St} {Q:PB} (q:Q true σ):WTs G c [] σ Q:=fun η s R=>wpAny_tests_nil (.here R q rfl)
theorem WTs.one {G:Gb} {c:Cx} {σ:St} {t:Expr} {Q:PB} (h:WT G c t σ Q):WTs G c [t] σ Q:=fun η s R=>wpAny_tests_one (h η s R)
noncomputable def ccx (c:Cx) (scope:Scope) (C:Addr) (own cap:List Str):Cx :=
 { A:=c.A,env:=compEnvC scope (clo c.env scope.names []) C c.env,fe:=c.fe,L:=C,ns:=own.map (·,false)++cap.map (·,true),k:=c.k,hd:=c.hd,oc:=clo c.env scope.names [] }
noncomputable def compOk (scope:Scope) (own cap:List Str):Bool :=
 (scope.kind==.function)&&own.all (fun x=>!(x==("__debug__" : Str))&&!(x==("__classdict__" : Str))&&(scope.names.lookup x==some NameKind.local))&&cap.all (fun x=>!(x==("__debug__" : Str))&&!(x==("__classdict__" : Str))&&(scope.names.lookup x==some NameKind.free)) &&
 scope.names.all (fun x=>!(x.2==Dr)&&(!(x.2==NameKind.free)||cap.contains x.1)&&(!(x.2==NameKind.local)||(scope.names.lookup x.1==some NameKind.local)))&&decide ((own++cap).Nodup)&&decide ((scope.names.map (·.1)).Nodup)
theorem Px {env:Env} {x:Str} {l:List (Str×NameKind)}:∀ {cs:List (Str×Addr)},x∉l.map (·.1)->(clo env l cs).lookup x=cs.lookup x:=by
 induction l with
 | nil=>exact fun _=>rfl
 | cons y r ih =>
  intro cs hx
  obtain ⟨n,k⟩:=y
  show (clo env r _).lookup x=_
  rw [ih fun q=>hx (.tail _ q)]
  split
  ·rw [Bd,beq_eq_false_iff_ne.mpr fun q:x=n=>hx (q▸.head _)]
  ·rfl
theorem Mq {env:Env} {x:Str} {l:List (Str×NameKind)}:∀ {cs:List (Str×Addr)},(l.map (·.1)).Nodup->(x,.free)∈l->(clo env l cs).lookup x=some ((env.cells.lookup x).getD 0):=by
 induction l with
 | nil=>exact fun _ h=>nomatch h
 | cons y r ih =>
  intro cs nd h
  rw [AM,BA] at nd
  rcases Ap.mp h with rfl | h
  ·show (clo env r _).lookup x=_
   rw [Px nd.1]; show GQ x ((x,_)::cs)=_; rw [Bd,beq_self_eq_true]
  ·exact ih nd.2 h
theorem TJ {env:Env} {l:List (Str×NameKind)} {x:Str}:∀ {cs:List (Str×Addr)},x∈(clo env l cs).map (·.1)->x∈cs.map (·.1)∨x∈l.map (·.1):=by
 induction l with
 | nil=>exact fun h=>.inl h
 | cons y r ih =>
  intro cs h
  rcases ih h with q | q
  ·split at q
   ·rcases Ap.mp q with e | q
    ·exact .inr (e▸.head _)
    ·exact .inl q
   ·exact .inl q
  ·exact .inr (.tail _ q)
theorem Mp {env:Env} {l:List (Str×NameKind)}:∀ {cs:List (Str×Addr)},(l.map (·.1)).Nodup->(cs.map (·.1)).Nodup->(∀ x∈l.map (·.1),x∉cs.map (·.1))->((clo env l cs).map (·.1)).Nodup:=by
 induction l with
 | nil=>exact fun _ h _=>h
 | cons y r ih =>
  intro cs nd h dj
  rw [AM,BA] at nd
  refine ih nd.2 ?_ fun x hx=>?_
  ·split
   ·rw [AM,BA]; exact ⟨dj y.1 (.head _),h⟩
   ·exact h
  ·split
   ·intro q
    rcases Ap.mp q with rfl | q
    ·exact nd.1 hx
    ·exact dj x (.tail _ hx) q
   ·exact dj x (.tail _ hx)
theorem NH {env:Env} {l:List (Str×NameKind)} (nd:(l.map (·.1)).Nodup):((clo env l []).map (·.1)).Nodup:=Mp nd .nil fun _ _ q=>nomatch q
theorem Rn {a b:List (Option AV)} {i:Nat} (h:i<a.length):lg (a++b) i=lg a i:=by unfold lg; rw [BD h]
theorem LD {a b:List (Option AV)} {i:Nat} (h:a.length≤i):lg (a++b) i=lg b (i - a.length):=by unfold lg; rw [B4 h]
theorem Ic {env:Env} (hk:env.scope.kind=.function) {names:List (Str×NameKind)} {x:Str} (h:names.lookup x=some .free) (hc:env.kindOf x=some .cell) :
  (names.map fun (n,k)=>if (k==NameKind.free&&env.scope.kind==.function&&env.kindOf n==some .cell) then (n,Dr) else (n,k)).lookup x=some .cell:=by
 induction names with
 | nil=>exact ns h
 | cons y r ih =>
  obtain ⟨n,k⟩:=y
  show GQ x ((if (k==NameKind.free&&env.scope.kind==.function&&env.kindOf n==some .cell)=true then (n,Dr) else (n,k))::_)=_
  rw [Bd] at h
  cases hx:x==n with
  | true =>
   rw [hx] at h
   obtain rfl:=Option.some.inj h
   obtain rfl:=beq_iff_eq.mp hx
   rw [hk,hc]; show GQ x ((x,Dr)::_)=_; rw [Bd,hx]
  | false =>
   rw [hx] at h
   split
   ·rw [Bd,hx]; exact ih h
   ·rw [Bd,hx]; exact ih h
section
variable {G:Gb} {c:Cx} {σ:St}
structure PG (c:Cx) (scope:Scope) (own cap:List Str) (js:List Nat):Prop where
 kind:scope.kind=.function
 ko:∀ x∈own,((x==("__debug__" : Str))=false∧(x==("__classdict__" : Str))=false)∧scope.names.lookup x=some .local
 kc:∀ x∈cap,((x==("__debug__" : Str))=false∧(x==("__classdict__" : Str))=false)∧scope.names.lookup x=some .free
 kn:∀ y∈scope.names,y.2≠.cell∧(y.2=.free->y.1∈cap)
 nd:(own++cap).Nodup
 nd2:(scope.names.map (·.1)).Nodup
 jl:js.length=cap.length
 ja:∀ (t:Nat) (x:Str),cap[t]?=some x->∃ j:Nat,js[t]?=some j∧c.ns[j]?=some (x,true)
 cell:∀ x∈cap,c.env.kindOf x=some .cell∧∃ ca,c.oc.lookup x=some ca
 at_:∀ x∈cap,(clo c.env scope.names []).lookup x=c.oc.lookup x
 mem:∀ x b,(x,b)∈clo c.env scope.names []->x∈cap∧c.oc.lookup x=some b
theorem PG.of {scope:Scope} {own cap:List Str} {js:List Nat} (ok:c.Ok) (hok:compOk scope own cap=true) (hjs:js.map (c.ns[·]?)=cap.map fun x=>some (x,true)):PG c scope own cap js:=by
 unfold compOk at hok
 simp only [AF,beq_iff_eq,decide_eq_true_eq,AX,Bz,DU] at hok
 obtain ⟨⟨⟨⟨⟨k1,k2⟩,k3⟩,k4⟩,k5⟩,k6⟩:=hok
 have kn:∀ y∈scope.names,y.2≠.cell∧(y.2=.free->y.1∈cap):=fun y hy=>by
  obtain ⟨⟨q,r⟩,_⟩:=k4 y hy
  exact ⟨fun e=>(by rw [e] at q; exact ft q),fun e=>G0.mp (r.resolve_left fun r=>(by rw [e] at r; exact ft r))⟩
 have ja:∀ (t:Nat) (x:Str),cap[t]?=some x->∃ j:Nat,js[t]?=some j∧c.ns[j]?=some (x,true):=fun t x hx=>by
  have q:(js.map (c.ns[·]?))[t]?=some (some (x,true)):=by rw [hjs,Ai,hx]; rfl
  rw [Ai,Ao] at q
  exact q
 have cell:∀ x∈cap,c.env.kindOf x=some .cell∧∃ ca,c.oc.lookup x=some ca:=fun x hx=>by
  obtain ⟨t,ht⟩:=Bl.mp hx
  obtain ⟨j,_,hj⟩:=ja t x ht
  exact (ok.names x true (Au hj)).2.2
 refine ⟨k1,k2,k3,kn,k5,k6,by have:=congrArg AH hjs; rw [Ae,Ae] at this; exact this,ja,cell,fun x hx=>?_,fun x b hb=>?_⟩
 ·obtain ⟨_,ca,hca⟩:=cell x hx
  rw [Mq k6 (mem_of_lookup (k3 x hx).2),ok.ce _ _ hca,hca]; rfl
 ·rcases RU hb with q | ⟨q,e⟩
  ·contradiction
  ·have hx:=(kn _ q).2 rfl
   obtain ⟨_,ca,hca⟩:=cell x hx
   rw [ok.ce _ _ hca] at e
   exact ⟨hx,by rw [hca,e]; rfl⟩
theorem PG.own {scope:Scope} {own cap:List Str} {js:List Nat} (K:PG c scope own cap js) {C b:Addr} (ow:(ccx c scope C own cap).own b):b=C∨c.own b :=
 ow.imp id fun ⟨x,hx⟩=>.inr ⟨x,He (K.mem x b hx).2⟩
theorem PG.lgc {scope:Scope} {own cap:List Str} {js:List Nat} (K:PG c scope own cap js) {σ:St} {t j:Nat} (h:js[t]?=some j):lg (js.map (lg σ.loc)) t=lg σ.loc j:=by
 show ((js.map (lg σ.loc))[t]?).getD none=_
 rw [Ai,h]; rfl
theorem Rel.enterC {η:Et} {s:Shared} (R:Rel G c η σ s) {scope:Scope} {own cap:List Str} {js:List Nat} {C:Addr} {h':Heap} {tk:Nat} (hok:compOk scope own cap=true) (hjs:js.map (c.ns[·]?)=cap.map fun x=>some (x,true))
  (hk:∀ b o,s.heap.get? b=some o->h'.get? b=some o) (hC:s.heap.get? C=none) (hlo:G.h₀.objs.size≤C) (hn:h'.Ns C fun _=>none) :
  Rel G (ccx c scope C own cap) η ⟨own.map (fun _=>none)++js.map (lg σ.loc),σ.H⟩ { s with heap:=h',toks:=tk }:=by
 have K:=PG.of R.ok hok hjs
 have RX:=R.ext (tk:=tk) hk
 refine Bs.rel (σ:=⟨own.map (fun _=>none)++js.map (lg σ.loc),σ.H⟩) RX.bs ⟨K.kind,rfl,R.ok.globals,R.ok.builtins,R.ok.frames,R.ok.depth,R.ok.units,R.ok.handled,fun x b hm=>?_,?_,?_,fun x b hb q=>?_,fun _ _ e=>e⟩ ?_ (fun b ow=>?_) RX.fes
 ·rcases Aj.mp hm with q | q
  ·obtain ⟨y,hy,e⟩:=As.mp q
   cases e
   exact ⟨(K.ko x hy).1.1,(K.ko x hy).1.2,lookup_relabel_local (K.ko x hy).2⟩
  ·obtain ⟨y,hy,e⟩:=As.mp q
   cases e
   obtain ⟨b1,ca,hca⟩:=K.cell x hy
   exact ⟨(K.kc x hy).1.1,(K.kc x hy).1.2,Ic R.ok.kind (K.kc x hy).2 b1,ca,(K.at_ x hy).trans hca⟩
 ·have e:((own.map (·,false)++cap.map (·,true)).map (·.1))=own++cap:=by
   rw [Ar,AU,AU]
   exact congr (congrArg _ (List.map_id _)) (List.map_id _)
  exact e▸K.nd
 ·refine List.Pairwise.imp_of_mem ?_ (Fu.mp (NH (env:=c.env) K.nd2))
  intro x y hx hy ne e
  exact ne (name_of_addr R.ok.cnd (He (K.mem x.1 x.2 hx).2) (e▸He (K.mem y.1 y.2 hy).2))
 ·obtain ⟨o,e⟩:=R.ownThere (.inr ⟨x,He (K.mem x b hb).2⟩)
  have q:b=C:=q
  rw [q,hC] at e; exact ns e
 ·obtain ⟨ln,ct,m,hns,r⟩:=RX.fr
  refine ⟨?_,fun x b hb=>ct x b (He (K.mem x b hb).2),_,hn,fun i x b hi=>?_⟩
  ·show (own.map (fun _=>none)++js.map (lg σ.loc)).length=(own.map (·,false)++cap.map (·,true)).length
   rw [A6,A6,Ae,Ae,Ae,Ae,K.jl]
  have hi:(own.map (·,false)++cap.map (·,true))[i]?=some (x,b):=hi
  by_cases h:i<own.length
  ·rw [BD (by rw [Ae]; exact h),Ai,Ao] at hi
   obtain ⟨y,q,e⟩:=hi
   obtain ⟨rfl,rfl⟩:=Prod.mk.inj e
   show OVR _ _ _
   rw [Rn (by rw [Ae]; exact h)]
   have:lg (own.map fun _=>(none:Option AV)) i=none:=by unfold lg; rw [Ai,q]; rfl
   rw [this]; exact .none
  ·have h:=Bh.mp h
   rw [B4 (by rw [Ae]; exact h),Ai,Ae,Ao] at hi
   obtain ⟨y,q,e⟩:=hi
   cases e
   obtain ⟨j,hj1,hj2⟩:=K.ja _ x q
   obtain ⟨ca,vo,h1,h2,h3⟩:=r j x true hj2
   refine ⟨ca,vo,(K.at_ x (Au q)).trans h1,h2,?_⟩
   rw [LD (by rw [Ae]; exact h),Ae,K.lgc hj1]; exact h3
 ·rcases K.own ow with rfl | ow
  ·exact R.bs.new hC hlo
  ·exact R.ownl b ow
theorem Rel.leaveC {η η2:Et} {s s2:Shared} {σ2:St} {scope:Scope} {own cap:List Str} {js:List Nat} {C:Addr} {lo:List (Option AV)} {own3:Addr->Prop} (R:Rel G c η σ s) (R2:Rel G (ccx c scope C own cap) η2 σ2 s2) (hok:compOk scope own cap=true)
  (hjs:js.map (c.ns[·]?)=cap.map fun x=>some (x,true)) (hC:s.heap.get? C=none) (hl:σ2.loc=lo++js.map (lg σ.loc)) (hll:lo.length=own.length) (st:Stp G own3 η η2 s s2) (h3:∀ b o,s.heap.get? b=some o->own3 b->(ccx c scope C own cap).own b) :
  Rel G c η2 ⟨σ.loc,σ2.H⟩ s2∧Stp G c.own η η2 s s2:=by
 have K:=PG.of R.ok hok hjs
 have own2:∀ b o,s.heap.get? b=some o->(ccx c scope C own cap).own b->∃ x,(x,b)∈clo c.env scope.names []:=fun b o e ow=>by
  rcases ow with q | q
  ·have q:b=C:=q
   rw [q,hC] at e; exact ns e
  ·exact q
 have st':Stp G c.own η η2 s s2:=st.narrow fun b o e ow=>by
  obtain ⟨x,hx⟩:=own2 b o e (h3 b o e ow)
  exact .inr ⟨x,He (K.mem x b hx).2⟩
 have keep:∀ b o,c.own b->s.heap.get? b=some o->(∀ x,(x,b)∉clo c.env scope.names [])->∃ o',s2.heap.get? b=some o'∧o'.data=o.data:=fun b o ow e n=>by
  obtain ⟨a1,a2,a3⟩:=R.ownl b ow
  obtain ⟨o',e',sm⟩:=st.fm b o a1 e a3 fun q=>by obtain ⟨x,hx⟩:=own2 b o e (h3 b o e q); exact n x hx
  exact ⟨o',e',sm.data⟩
 obtain ⟨ln2,ct2,m2,hns2,r2⟩:=R2.fr
 obtain ⟨ln,ct,m,hns,r⟩:=R.fr
 refine ⟨Bs.rel (σ:=⟨σ.loc,σ2.H⟩) R2.bs R.ok ⟨ln,fun x b hb=>?_,m,?_,fun j y bb hj=>?_⟩ (fun b ow=>?_) R2.fes,st'⟩
 ·by_cases q:∃ x',(x',b)∈clo c.env scope.names []
  ·obtain ⟨x',hx'⟩:=q; exact ct2 x' b hx'
  ·obtain ⟨v,hv⟩:=ct x b hb
   exact ⟨v,Ke hv fun o e=>keep b o (.inr ⟨x,hb⟩) e fun x' hx'=>q ⟨x',hx'⟩⟩
 ·exact Sp hns fun o e=>keep c.L o (.inl rfl) e fun x hx=>R.ok.cL x _ (He (K.mem x _ hx).2) rfl
 ·have rj:=r j y bb hj
  cases bb with
  | false=>exact OVR.mono st.le rj
  | true =>
   obtain ⟨ca,vo,h1,h2,h4⟩:=rj
   dsimp only
   by_cases hy:y∈cap
   ·obtain ⟨t,ht⟩:=Bl.mp hy
    obtain ⟨j',hj1,hj2⟩:=K.ja t y ht
    have jj:j'=j:=LA R.ok.nd hj2 hj rfl
    subst jj
    have hi:(ccx c scope C own cap).ns[own.length+t]?=some (y,true):=by
     show (own.map (·,false)++cap.map (·,true))[own.length+t]?=_
     rw [B4 (by rw [Ae]; exact A3 ..),Ae,D3,Ai,ht]; rfl
    obtain ⟨ca',vo',g1,g2,g3⟩:=r2 _ y true hi
    have g1:(clo c.env scope.names []).lookup y=some ca':=g1
    rw [K.at_ y hy] at g1
    refine ⟨ca',vo',g1,g2,?_⟩
    rw [hl,LD (by rw [hll]; exact A3 ..),hll,D3] at g3
    rw [K.lgc hj1] at g3; exact g3
   ·refine ⟨ca,vo,h1,Ke h2 fun o e=>keep ca o (.inr ⟨y,He h1⟩) e fun x hx=>?_,h4.mono st.le⟩
    obtain ⟨hx1,hx2⟩:=K.mem x ca hx
    exact hy ((name_of_addr R.ok.cnd (He hx2) (He h1))▸hx1)
 ·obtain ⟨a1,a2,a3⟩:=R.ownl b ow
  obtain ⟨o,e⟩:=R.ownThere ow
  exact ⟨a1,st.unZ e a3 a2,st.un e a3⟩
end
end
section
structure Kd (G:Gb) (c:Cx) (η:Et) (a:Addr):Prop where
 ul:∀ l,η.D l->η.ρ l≠a
 uz:η.Z a=none
 uo:¬c.own a
 uf:∀ e∈c.fe,e.frame≠some a
 lo:G.h₀.objs.size≤a
theorem Kd.fresh {G:Gb} {c:Cx} {η:Et} {σ:St} {s:Shared} (R:Rel G c η σ s) {a:Addr} (hn:s.heap.get? a=none) (hlo:G.h₀.objs.size≤a):Kd G c η a where
 ul:=fun l d q=>by obtain ⟨o,z⟩:=R.labThere d; rw [q,hn] at z; exact ns z
 uz:=by
  cases q:η.Z a with
  | none=>rfl
  | some o=>have:=R.frz _ _ q; rw [hn] at this; exact ns this
 uo:=fun ow=>by obtain ⟨o,e⟩:=R.ownThere ow; rw [hn] at e; exact ns e
 uf:=fun e he q=>by obtain ⟨_,o,z,_⟩:=R.ff.mem (C0.mpr ⟨e,he,q⟩); rw [hn] at z; exact ns z
 lo:=hlo
theorem Kd.step {G:Gb} {c:Cx} {own:Addr->Prop} {η η':Et} {s s':Shared} {a:Addr} {o:Obj} (j:Kd G c η a) (st:Stp G own η η' s s') (e:s.heap.get? a=some o):Kd G c η' a:=⟨st.un e j.ul,st.unZ e j.ul j.uz,j.uo,j.uf,j.lo⟩
theorem Rel.junk' {G:Gb} {c:Cx} {η:Et} {σ:St} {s:Shared} (R:Rel G c η σ s) {a:Addr} {h':Heap} {tk:Nat} (j:Kd G c η a) (hx:DT a s.heap h'):Rel G c η σ { s with heap:=h',toks:=tk }:=R.junk j.ul j.uz j.uo j.uf j.lo hx
structure Li (G:Gb) (c:Cx) (η1:Et) (s1:Shared) (σ1:St) (outs:List AV) (D C:Addr) (η2:Et) (s2:Shared):Prop where
 R:Rel G c η2 σ1 s2
 st:Stp G c.own η1 η2 s1 s2
 out:Ex2 fun vs n=>s2.heap.get? D=some (lstO vs n)∧VRs η2 outs vs.toList
 nD:s1.heap.get? D=none
 jD:Kd G c η2 D
 nC:s1.heap.get? C=none
 jC:Kd G c η2 C
 ns:∃ m,s2.heap.Ns C m
 ne:D≠C
theorem St.eta {σ:St} {l:List (Option AV)} {H:Hp} (a:σ.loc=l) (b:σ.H=H):σ=⟨l,H⟩:=a▸b▸rfl
noncomputable def Turn (G:Gb) (c2:Cx) (target elt:Expr) (ifs:List Expr) (n:Nat) (capv:List (Option AV)) (H:Hp) (f:AV->Option AV) (x:AV):Prop:=∀ lo:List (Option AV),lo.length=n →
 WG G c2 target x ⟨lo++capv,H⟩ fun σ2=>WTs G c2 ifs σ2 fun ok σ3 =>
  (ok=true->WE G c2 elt σ3 fun v σ4=>f x=some v∧σ4.H=H∧∃ lo',lo'.length=n∧σ4.loc=lo'++capv)∧(ok=false->f x=none∧σ3.H=H∧∃ lo',lo'.length=n∧σ3.loc=lo'++capv)
section
variable {G:Gb} {c:Cx}
theorem Kw {elt target iter:Expr} {ifs:List Expr} {scope:Scope} {pos:Pos} {own cap:List Str} {js:List Nat} {xs:List AV} {Kp:St->Prop} {It:Nat->Heap->Prop} {I:Addr} {η1:Et} {σ1:St} {s1:Shared} {h':Heap} {tk:Nat} {f:AV->Option AV} {RR:Value->Addr->Result->Shared->Prop}
  (hh:c.hd=false) (hok:compOk scope own cap=true) (hjs:js.map (c.ns[·]?)=cap.map fun x=>some (x,true)) (R1:Rel G c η1 σ1 s1) (hI:s1.heap.get? I=none) (hlo:G.h₀.objs.size≤I) (hk:∀ b o,s1.heap.get? b=some o->h'.get? b=some o)
  (itr:Itr G η1 I xs Kp It) (it0:It 0 h') (hz:xs.length≤2 ^ 20) (hKp:∀ σ',σ'.H=σ1.H->Kp σ') (turn:∀ C,∀ x∈xs,Turn G (ccx c scope C own cap) target elt ifs own.length (js.map (lg σ1.loc)) σ1.H f x)
  (K:∀ D C η2 s2,Li G c η1 s1 σ1 (xs.filterMap f) D C η2 s2->RR (.ref D) C (.ok .next) s2) :
  wpAny (mo G) c.A (newList []) (fun acc s₃=>wpAny (mo G) c.A (newFunctionEnv scope c.env.globals (clo c.env scope.names []) [] c.env.qual none .none (some c.env)) (fun cenv s₄ =>
   codeAny (mo G) c.A (.compStart (.ListComp elt [⟨target,iter,ifs,0⟩] scope pos) 0 (.ref I) acc { cenv with scope:=relabel scope c.env }) (RR acc cenv.locals) s₄) FF s₃) FF { s1 with heap:=h',toks:=tk }:=by
 have K':=PG.of R1.ok hok hjs
 refine BZ (wpAny_newFunctionEnv (fun y hy=>(K'.kn y hy).1) (fun y hy=>nomatch hy) (fun h₁ hns₁ hsb₁=>?_) K'.kind)
 dsimp only at hns₁ hsb₁ ⊢
 generalize hD:h'.objs.size=D at *
 have hC:(h'.push { cls:=.type "list",dict:=none,data:=.seq ([]:List Value).toArray }).objs.size=D+1:=by simp only [Co,hD]
 rw [hC] at hns₁ hsb₁ ⊢
 have lowS:G.h₀.objs.size≤D:=by have:=(R1.ext (tk:=tk) hk).sizeLe; simp only [← hD]; exact this
 have neDC:D≠D+1:=AE (AY _)
 have nD':h'.get? D=none:=Ht (by lia)
 have nC':h'.get? (D+1)=none:=Ht (by lia)
 have up':∀ {a},h'.get? a=none->s1.heap.get? a=none:=fun {a} h=>by
  cases q:s1.heap.get? a with
  | none=>rfl
  | some o=>have:=hk _ _ q; rw [h] at this; exact ns this
 have nD:=up' nD'
 have nC:=up' nC'
 have e4:∀ b o,h'.get? b=some o->h₁.get? b=some o:=fun b o e=>hsb₁.extBut b o (fun q=>by simp only [q,nC'] at e; exact ns e) (AD _ (AD _ e))
 have eD:h₁.get? D=some (lstO #[] 0):=hsb₁.extBut D _ neDC (AD _ (hD▸Ah _ rfl))
 have hk4:∀ b o,s1.heap.get? b=some o->h₁.get? b=some o:=fun b o e=>e4 b o (hk b o e)
 obtain ⟨oI,eI⟩:=itr.there 0 h' it0
 have eI4:=e4 _ _ eI
 have neID:I≠D:=fun q=>by rw [q,nD'] at eI; exact ns eI
 have neIC:I≠D+1:=fun q=>by rw [q,nC'] at eI; exact ns eI
 have R2:Rel G (ccx c scope (D+1) own cap) η1 ⟨own.map (fun _=>none)++js.map (lg σ1.loc),σ1.H⟩ { s1 with heap:=h₁,toks:=tk }:=R1.enterC hok hjs hk4 nC (by exact AK (by assumption)) hns₁
 have jI:=Kd.fresh R1 hI hlo
 have jD:=Kd.fresh R1 nD lowS
 have jC:=Kd.fresh R1 nC (by exact AK (by assumption))
 have own2:∀ b,(ccx c scope (D+1) own cap).own b->b=D+1∨c.own b:=fun b ow=>K'.own ow
 have jI2:Kd G (ccx c scope (D+1) own cap) η1 I:=⟨jI.ul,jI.uz,fun ow=>(own2 I ow).elim neIC jI.uo,jI.uf,jI.lo⟩
 have jD2:Kd G (ccx c scope (D+1) own cap) η1 D:=⟨jD.ul,jD.uz,fun ow=>(own2 D ow).elim neDC jD.uo,jD.uf,jD.lo⟩
 let own3:Addr->Prop:=fun b=>(ccx c scope (D+1) own cap).own b∨b=I∨b=D
 have st4:Stp G own3 η1 η1 s1 { s1 with heap:=h₁,toks:=tk }:=.ext hk4
 have loop:codeAny (mo G) c.A (.compLoop (.ListComp elt [⟨target,iter,ifs,0⟩] scope pos) 0 (.ref I) (.ref D) (compEnvC scope (clo c.env scope.names []) (D+1) c.env)) (RR (.ref D) (D+1)) { s1 with heap:=h₁,toks:=tk }:=by
  refine Kx (fun k s'=>Ex5 fun (i:Nat) (η':Et) (lo:List (Option AV)) (vs:Array Value) (n:Nat)=>An7 (k=xs.length+1 - i) (i≤xs.length) (Rel G (ccx c scope (D+1) own cap) η' ⟨lo++js.map (lg σ1.loc),σ1.H⟩ s') (lo.length=own.length) (Stp G own3 η1 η' { s1 with heap:=h₁,toks:=tk } s') (It i s'.heap) (s'.heap.get? D=some (lstO vs n)∧VRs η' ((xs.take i).filterMap f) vs.toList)) ?_ (xs.length+1)
   ⟨0,η1,own.map (fun _=>none),#[],0,rfl,A4 _,R2,Ae ..,.refl ..,itr.at_ 0 _ _ it0 (fun o _ e _=>e4 _ _ e),eD,.nil⟩
  rintro k s' ⟨i,η',lo,vs,n,rfl,hi,R',hlo',st',it,eD',hvs⟩
  have jIn:=jI2.step st' eI4
  have jDn:=jD2.step st' eD
  cases hx:xs[i]? with
  | some x =>
   refine itr.nx _ i η' _ s' x R' (hKp _ rfl) st'.le it hx _ _ _ fun v' h2 tk2 hv2 it2 hs2=>?_
   refine itr.go target v' (i+1) _ _ _ _ it2 ?_
   have R3:=R'.junk' (tk:=tk2) jIn hs2.extBut
   obtain ⟨o2,e2⟩:=itr.there _ _ it2
   have st3:Stp G own3 η' η' s' { s' with heap:=h2,toks:=tk2 }:=.junk (.inr (.inl rfl)) hs2.extBut ⟨o2,e2⟩
   have eD2:h2.get? D=some (lstO vs n):=(hs2.2 D (Dc neID)).trans eD'
   have il:i<xs.length:=(Am.mp hx).1
   have tk_:xs.take (i+1)=xs.take i++[x]:=by simp only [Ft,hx]; rfl
   refine wb (turn (D+1) x (Au hx) lo hlo' η' _ v' R3 hv2) fun _ _ σ5 η5 s5 h5 _ R5 st5=>?_
   refine wb (h5 η5 s5 R5) fun ok' ok σ6 η6 s6 h6 hok6 R6 st6=>?_
   cases hok6
   have bd:=st5.trans st6
   cases ok' with
   | false =>
    obtain ⟨hf,hH6,lo6,hl6,hloc6⟩:=h6.2 rfl
    refine CEnd.no ⟨_,JA il,i+1,η6,lo6,vs,n,rfl,il,St.eta hloc6 hH6▸R6,hl6,(st'.trans st3).trans (bd.wide fun _=>.inl),itr.at_ _ _ _ it2 (fun o vs' e d=>bd.kept jI.lo e jIn.ul jIn.uo (.inl ⟨_,d⟩)),bd.kept jD.lo eD2 jDn.ul jDn.uo (.inr ⟨vs,n,rfl⟩),?_⟩
    ·simp only [tk_,EK]; simpa [hf] using hvs.mono bd.le
   | true =>
    refine CEnd.yes (wb (h6.1 rfl η6 s6 R6) fun y' y σ7 η7 s7 h7 hy R7 st7=>?_)
    obtain ⟨hf,hH7,lo7,hl7,hloc7⟩:=h7
    have bd:=bd.trans st7
    have eD7:=bd.kept jD.lo eD2 jDn.ul jDn.uo (.inr ⟨vs,n,rfl⟩)
    have z:=hvs.size
    have z2:((xs.take i).filterMap f).length≤i:=Ab (Dt ..) (by rw [Dp]; lia)
    have jD7:=jDn.step (s:={ s' with heap:=h2,toks:=tk2 }) bd eD2
    refine ED Em ⟨_,eD7,rfl⟩ F.entry_list_append (Fg _ _) (list_append _ vs n _ (by unfold sizeLine; lia)) ⟨eD7,?_⟩
    have R8:=R7.junk' (tk:=s7.toks) jD7 (A0 s7.heap D (DA fun x=>x.push y')).extBut
    have eD8:=Fz eD7 fun x=>x.push y'
    have it8:It (i+1) (s7.heap.update D (DA fun x=>x.push y')):=itr.at_ _ _ _ it2 fun o vs' e d=>((A0 s7.heap D _).2 I neID).trans (bd.kept jI.lo e jIn.ul jIn.uo (.inl ⟨_,d⟩))
    refine ⟨_,JA il,i+1,η7,lo7,vs.push y',_,rfl,il,St.eta hloc7 hH7▸R8,hl7,((st'.trans st3).trans (bd.wide fun _=>.inl)).trans (.junk (.inr (.inr rfl)) (A0 ..).extBut ⟨_,eD8⟩),it8,eD8,?_⟩
    simp only [tk_,EK,D7]
    refine (hvs.mono bd.le).append ?_
    simp only [Ct,hf,List.filterMap_nil]
    exact .cons hy .nil
  | none =>
   have il:i=xs.length:=FJ (by assumption) (Bg.mp hx)
   subst il
   refine itr.fin _ _ η' _ s' R' (hKp _ rfl) st'.le it hx _ _ _ (R'.ok.handled hh) fun h2 tk2 hx2=>?_
   have R3:=R'.junk' (tk:=tk2) jIn hx2
   have a1:Stp G own3 η1 η' s1 s':=st4.trans st'
   have a2:Stp G own3 η1 η' s1 { s' with heap:=h2,toks:=tk2 }:=by
    refine ⟨a1.le,fun b o e=>?_,a1.new,a1.newZ,fun b o hb e u ow=>?_⟩
    ·obtain ⟨o',e'⟩:=a1.ex b o e
     exact ⟨o',hx2 b o' (fun q=>by rw [q,hI] at e; exact ns e) e'⟩
    ·have nb:b≠I:=fun q=>by rw [q,hI] at e; exact ns e
     obtain ⟨o',e',r⟩:=a1.fm b o hb e u ow
     exact ⟨o',hx2 b o' nb e',r⟩
   obtain ⟨RL,stL⟩:=R1.leaveC R3 hok hjs nC rfl hlo' a2 fun b o e ow=>by
    rcases ow with q | q | q
    ·exact q
    ·rw [q,hI] at e; exact ns e
    ·rw [q,nD] at e; exact ns e
   obtain ⟨_,_,m2,hm2,_⟩:=R3.fr
   rw [AR (Ak _)] at hvs
   refine K D (D+1) η' _ ⟨RL,stL,⟨vs,n,hx2 D _ (Dc neID) eD',hvs⟩,nD,⟨jDn.ul,jDn.uz,jD.uo,jD.uf,jD.lo⟩,nC,?_,⟨m2,hm2⟩,neDC⟩
   obtain ⟨x1,x2,x3⟩:=R3.ownl (D+1) (.inl rfl)
   exact ⟨x3,x2,jC.uo,jC.uf,jC.lo⟩
 exact codeAny_compStart_list loop (itr.self 0 _ _ _ _ (itr.at_ 0 _ _ it0 fun o _ e _=>e4 _ _ e) loop)
end
end
section
section
variable {G:Gb} {c:Cx} {σ:St}
theorem HU {scope:Scope} {own cap:List Str} (hok:compOk scope own cap=true):scope.kind=.function∧(∀ x∈scope.names,x.2=.local->scope.names.lookup x.1=some .local)∧(∀ x∈scope.names,x.2=.free->x.1∈cap):=by
 unfold compOk at hok
 simp only [AF,beq_iff_eq,decide_eq_true_eq] at hok
 obtain ⟨⟨⟨⟨⟨k1,k2⟩,k3⟩,k4⟩,k5⟩,k6⟩:=hok
 refine ⟨k1,fun x hx e=>?_,fun x hx e=>?_⟩
 ·have:=AX.mp k4 _ hx
  simp only [AF,DU,Bz,beq_iff_eq] at this
  rcases this.2 with q | q
  ·rw [e] at q; simp at q
  ·exact q
 ·have:=AX.mp k4 _ hx
  simp only [AF,DU,Bz] at this
  rcases this.1.2 with q | q
  ·rw [e] at q; simp at q
  ·exact G0.mp q
theorem LO {η:Et} {s:Shared} (R:Rel G c η σ s) {scope:Scope} {own cap:List Str} {js:List Nat} (hok:compOk scope own cap=true) (hjs:js.map (c.ns[·]?)=cap.map fun x=>some (x,true)):closureFor scope c.env=pure (clo c.env scope.names []):=by
 refine Jt fun x hx e=>?_
 have hc:=(HU hok).2.2 x hx e
 obtain ⟨t,ht⟩:=Bl.mp hc
 have:(js.map (c.ns[·]?))[t]?=some (some (x.1,true)):=by rw [hjs,Ai,ht]; rfl
 rw [Ai] at this
 cases z:js[t]? with
 | none=>rw [z] at this; cases this
 | some j=>rw [z] at this; exact let ⟨ca,h⟩:=(R.ok.names x.1 true (Au (Option.some.inj this))).2.2.2; ⟨ca,R.ok.ce _ _ h⟩
theorem Li.drop {η1 η2:Et} {s1 s2:Shared} {σ1:St} {outs:List AV} {D C:Addr} (E:Li G c η1 s1 σ1 outs D C η2 s2) {h':Heap} {tk:Nat} (hs:DH C s2.heap h') :
  Rel G c η2 σ1 { s2 with heap:=h',toks:=tk }∧Stp G c.own η1 η2 s1 { s2 with heap:=h',toks:=tk }:=by
 refine ⟨E.R.junk' E.jC hs.extBut,⟨E.st.le,fun b o e=>?_,E.st.new,E.st.newZ,fun b o hb e u ow=>?_⟩⟩
 ·obtain ⟨o',e'⟩:=E.st.ex b o e
  exact ⟨o',hs.extBut b o' (fun q=>by rw [q,E.nC] at e; contradiction) e'⟩
 ·obtain ⟨o',e',r⟩:=E.st.fm b o hb e u ow
  exact ⟨o',hs.extBut b o' (fun q=>by rw [q,E.nC] at e; contradiction) e',r⟩
theorem U0 {η η₁:Et} {s s₁:Shared} {xs:List AV} {Q:PA} (R:Rel G c η σ s) (x:Stp G c.own η₁ η s₁ s) {a:Addr} {vs:Array Value} {n:Nat} (e:s.heap.get? a=some (lstO vs n)) (hv:VRs η xs vs.toList) (hn:s₁.heap.get? a=none)
  (j:Kd G c η a) (q:NewL xs σ Q):Ex3 fun v σ' η'=>An5 (Q v σ') (VR η' v (.ref a)) (Rel G c η' σ' s) (Stp G c.own η₁ η' s₁ s) (∀ b,b≠a->Kd G c η b->Kd G c η' b):=by
 rcases q with q | ⟨l,hl,q⟩
 ·obtain ⟨R',le⟩:=R.promZ e j.ul j.uo j.uz j.lo j.uf
  refine ⟨_,σ,_,q,.lst (if_pos rfl) (hv.mono le),R',x.promZ le hn,fun b ne jb=>⟨jb.ul,?_,jb.uo,jb.uf,jb.lo⟩⟩
  show (if b=a then some _ else η.Z b)=none
  rw [if_neg ne]; exact jb.uz
 ·have le:η.le (η.addL l a):=⟨fun _ h=>.inr h,fun x d=>by show (if x=l then a else η.ρ x)=_; rw [if_neg (by rintro rfl; exact (R.dom _).mp d hl)],fun _ _ e=>e⟩
  obtain ⟨R',_⟩:=R.promL (ao:=.list xs) e j.ul j.uo j.uz j.uf j.lo hl ⟨vs,n,rfl,hv.mono le⟩
  have sf:(η.addL l a).ρ l=a:=if_pos rfl
  have y:VR (η.addL l a) (.ref l) (.ref ((η.addL l a).ρ l)):=.ref (.inl rfl)
  rw [sf] at y
  refine ⟨.ref l,_,_,q,y,R',x.promL le hn fun d=>(R.dom l).mp d hl,fun b ne jb=>⟨fun l' d q=>?_,jb.uz,jb.uo,jb.uf,jb.lo⟩⟩
  rcases d with rfl | d
  ·rw [sf] at q; exact ne q.symm
  ·rw [le.ρ l' d] at q; exact jb.ul l' d q
theorem WE.comp {elt target iter:Expr} {ifs:List Expr} {scope:Scope} {pos:Pos} {Q:PA} (own cap:List Str) (js:List Nat) (hh:c.hd=false) (hok:compOk scope own cap=true) (hjs:js.map (c.ns[·]?)=cap.map fun x=>some (x,true))
  (h:WI G c iter σ fun xs Kp σ1=>xs.length≤2 ^ 20∧(∀ σ',σ'.H=σ1.H->Kp σ')∧∃ f:AV->Option AV,(∀ C,∀ x∈xs,Turn G (ccx c scope C own cap) target elt ifs own.length (js.map (lg σ1.loc)) σ1.H f x)∧NewL (xs.filterMap f) σ1 Q)
  (hs:∀ x,foldedSetIterable iter c.env x=pure x):WE G c (.ListComp elt [⟨target,iter,ifs,0⟩] scope pos) σ Q:=fun η s R=>by
 rw [eval_ListComp]
 obtain ⟨k1,k2,_⟩:=HU hok
 refine GG (use:=Av) rfl hs (LO R hok hjs) k1 k2 (AC (h η s R) (fun x sa hx=>AC hx (fun it sb hi=>?_) fun _ _ x=>x) fun _ _ x=>x)
 obtain ⟨I,xs,Kp,It,σ1,η1,s1,h',tk,rfl,rfl,R1,st1,hI,hlo,hk,itr,it0,_,hz,hKp,f,turn,q⟩:=hi
 refine Kw (RR:=fun acc C=>compPost (mo G) c.A FF Av (Po G c VR η s Q) acc C) hh hok hjs R1 hI hlo hk itr it0 hz hKp turn fun D C η2 s2 E=>?_
 obtain ⟨m,hm⟩:=E.ns
 refine ⟨m,hm,fun h'' hs''=>?_⟩
 obtain ⟨vs,n,eD,hvs⟩:=E.out
 obtain ⟨R3,st3⟩:=E.drop (tk:=s2.toks) hs''
 exact (Po.newL R3 st3 (hs''.extBut D _ E.ne eD) hvs E.nD E.jD.ul E.jD.uo E.jD.uz E.jD.uf E.jD.lo q).back st1
theorem W1.asgComp {elt target iter:Expr} {ifs:List Expr} {scope:Scope} {pos py spos:Pos} {y:Str} {i:Nat} {b:Bool} {Q:PF} (own cap:List Str) (js:List Nat) (hh:c.hd=false) (hok:compOk scope own cap=true) (hjs:js.map (c.ns[·]?)=cap.map fun x=>some (x,true))
  (hi:c.ns[i]?=some (y,b))
  (h:WI G c iter σ fun xs Kp σ1=>xs.length≤2 ^ 20∧(∀ σ',σ'.H=σ1.H->Kp σ')∧∃ f:AV->Option AV,(∀ C,∀ x∈xs,Turn G (ccx c scope C own cap) target elt ifs own.length (js.map (lg σ1.loc)) σ1.H f x)∧NewL (xs.filterMap f) σ1 fun v σ2=>Q .next { σ2 with loc:=σ2.loc.set i (some v) })
  (hs:∀ x,foldedSetIterable iter c.env x=pure x) (hsw:swapsWith (.ListComp elt [⟨target,iter,ifs,0⟩] scope pos) (some (.Name y py)) spos.line c.env=pure true) :
  W1 G c (.Assign [.Name y py] (.ListComp elt [⟨target,iter,ifs,0⟩] scope pos) spos) σ Q:=fun η s R=>by
 rw [exec_Assign_Name_used _ _ _ _ hsw]
 obtain ⟨k1,k2,_⟩:=HU hok
 refine Aa (Bu (Aa ?_))
 show wpAny _ c.A (do let _ ← comprehension (.ListComp elt [⟨target,iter,ifs,0⟩] scope pos) scope c.env _ (newList []) false (eval iter c.env) (some (assign (.Name y py) c.env))) _ _ s
 refine Aa (AC (GG (use:=some (assign (.Name y py) c.env)) (Q:=fun _ s'=>Po G c FlR η s Q .next s') rfl hs (LO R hok hjs) k1 k2
  (AC (h η s R) (fun x sa hx=>AC hx (fun it sb hi=>?_) fun _ _ x=>x) fun _ _ x=>x)) (fun _ s' hq=>Ad (Ad hq)) fun _ _ e=>e)
 obtain ⟨I,xs,Kp,It,σ1,η1,s1,h',tk,rfl,rfl,R1,st1,hI,hlo,hk,itr,it0,_,hz,hKp,f,turn,q⟩:=hi
 refine Kw (RR:=fun acc C=>compPost (mo G) c.A FF (some (assign (.Name y py) c.env)) (fun _ s'=>Po G c FlR η s Q .next s') acc C) hh hok hjs R1 hI hlo hk itr it0 hz hKp turn fun D C η2 s2 E=>?_
 obtain ⟨vs,n,eD,hvs⟩:=E.out
 show wpAny _ c.A (assign (.Name y py) c.env (.ref D)) _ _ _
 obtain ⟨v,σ3,η3,q3,hv3,R3,st3,jk⟩:=U0 E.R E.st eD hvs E.nD E.jD q
 have jC:=jk C (Dc E.ne) E.jC
 obtain ⟨m,hm⟩:=E.ns
 refine wpAny_assign_Name (R3.store hi hv3 fun h4 tk4 R4 st4=>⟨m,Sp hm fun o e=>?_,fun h5 hs5=>?_⟩)
 ·obtain ⟨o',e',sm⟩:=st4.fm C o jC.lo e jC.ul jC.uo
  exact ⟨o',e',sm.data⟩
 ·have R5:=R4.junk' (tk:=tk4) jC hs5.extBut
  refine ⟨.next,_,η3,q3,.next,R5,st1.trans ?_⟩
  have a1:=st3.trans st4
  refine ⟨a1.le,fun b o e=>?_,a1.new,a1.newZ,fun b o hb e u ow=>?_⟩
  ·obtain ⟨o',e'⟩:=a1.ex b o e
   exact ⟨o',hs5.extBut b o' (fun q=>by rw [q,E.nC] at e; exact ns e) e'⟩
  ·obtain ⟨o',e',r⟩:=a1.fm b o hb e u ow
   exact ⟨o',hs5.extBut b o' (fun q=>by rw [q,E.nC] at e; exact ns e) e',r⟩
end
end
section
noncomputable def AV.hd:AV->Bool
 | .rig v=>handedIn v
 | _=>true
theorem VR.handed {η:Et} {x:AV} {v:Value} (h:VR η x v) (hx:x.hd=true):handedIn v=true:=by
 revert hx
 exact @VR.casesOn η (fun x v _=>x.hd=true->handedIn v=true) x v h (fun _ h=>h) (fun _ _ _=>rfl) (fun _ _ _=>rfl) (fun _ _ _=>rfl) (fun _ _ _=>rfl) (fun _ _=>rfl) (fun _ _ _ _ _=>rfl) (fun _ _ _=>rfl) (fun _ _ _=>rfl) (fun _ _=>rfl)
structure K9 (K:Frag) (C:Addr):Prop where
 ga:plainGet K C "" = true
 hd:hasDictIn K C=true
 po:plainOver K C=true
 sa:findIn K (.ref C) "__setattr__" = some (some (.builtin "object.__setattr__"))
noncomputable abbrev NoCls (K:Frag) (C:Addr) (name:Str):Prop:=findIn K (.ref C) name=some none
theorem J2 (k:Str) (t:Tok):(Value.str k t).isStr k=true:=by simp [Value.isStr]
theorem II {k n:Str} (h:k≠n) (t:Tok):(Value.str k t).isStr n=false:=by simpa [Value.isStr] using h
theorem SEs.find {w:World} {η:Et} {es:List (Str×AV)} {en:List DictEntry} (h:SEs w η es en):(es.map (·.1)).Nodup->∀ {i:Nat} {k:Str} {x:AV},es[i]?=some (k,x)->∃ e,An3 (en.find? (·.key.isStr k)=some e) (VR η x e.val) (en.findIdx? (·.key.isStr k)=some i):=by
 induction h with
 | nil=>intro _ i k x e; cases e
 | @cons k' t x' v xs es hv r ih =>
  intro nd i k x e
  cases i with
  | zero =>
   cases e
   exact ⟨⟨AZ w.params k',.str k' t,_⟩,by rw [Cs]; rw [J2],hv,by rw [Fm]; rw [J2]; rfl⟩
  | succ i =>
   rw [AM,BA] at nd
   rw [Cj] at e
   have ne:k'≠k:=fun q=>nd.1 (by rw [q]; exact As.mpr ⟨_,Au e,rfl⟩)
   obtain ⟨en,a,b,d⟩:=ih nd.2 e
   exact ⟨en,by rw [Cs]; simp only [II ne]; exact a,b,by rw [Fm]; simp only [II ne,d]; rfl⟩
theorem SEs.miss {w:World} {η:Et} {es:List (Str×AV)} {en:List DictEntry} (h:SEs w η es en) {k:Str}:k∉es.map (·.1)->en.find? (·.key.isStr k)=none∧en.findIdx? (·.key.isStr k)=none:=by
 induction h with
 | nil=>exact fun _=>⟨rfl,rfl⟩
 | @cons k' t x' v xs es hv r ih =>
  intro h
  have ne:k'≠k:=fun q=>h (by rw [q]; exact .head _)
  obtain ⟨a,b⟩:=ih fun q=>h (.tail _ q)
  exact ⟨by rw [Cs]; rw [II ne]; exact a,by rw [Fm]; rw [II ne,b]; rfl⟩
theorem SEs.noRef {w:World} {η:Et} {es:List (Str×AV)} {en:List DictEntry} (h:SEs w η es en):en.any (·.refKey)=false:=by
 induction h with
 | nil=>rfl
 | cons _ _ ih=>rw [Gj,ih]; rfl
theorem SEs.length {w:World} {η:Et} {es:List (Str×AV)} {en:List DictEntry} (h:SEs w η es en):es.length=en.length:=by
 induction h with
 | nil=>rfl
 | cons _ _ ih=>exact congrArg (· + 1) ih
theorem SEs.set {w:World} {η:Et} {es:List (Str×AV)} {en:List DictEntry} (h:SEs w η es en):∀ {i:Nat} {k:Str} {x y:AV} {v:Value},es[i]?=some (k,x)->VR η y v->SEs w η (es.set i (k,y)) (en.modify i fun e=>{ e with val:=v }):=by
 induction h with
 | nil=>intro i k x y v e; cases e
 | cons hv r ih =>
  intro i k x y v e h
  cases i with
  | zero=>cases e; exact .cons h r
  | succ i=>exact .cons hv (ih (i:=i) e h)
theorem Lv {α:Type} {l:List α}:∀ {i:Nat} {x:α},l[i]?=some x->l.set i x=l:=by
 induction l with
 | nil=>intro i x e; cases e
 | cons a l ih =>
  intro i x e
  cases i with
  | zero=>obtain rfl:=Option.some.inj e; rfl
  | succ i=>exact congrArg (a::·) (ih (i:=i) e)
theorem SEs.push {w:World} {η:Et} {k:Str} {t:Tok} {y:AV} {v:Value} {es:List (Str×AV)} {en:List DictEntry} (h:SEs w η es en) (hv:VR η y v):SEs w η (es++[(k,y)]) (en++[⟨AZ w.params k,.str k t,v⟩]):=by
 induction h with
 | nil=>exact .cons hv .nil
 | cons a _ ih=>exact .cons a ih
section
variable {G:Gb} {c:Cx} {σ:St}
theorem Rel.inst {η:Et} {s:Shared} (R:Rel G c η σ s) {l d:Lb} {C:Addr} {es:List (Str×AV)} (hl:σ.H l=some (.inst C d)) (hd:σ.H d=some (.attrs es)) :
  Ex3 fun ox en n=>An5 (InstAt s.heap (η.ρ l) ox C (some { cls:=.type "dict",data:=.dict en n })) (ox.dict=some (η.ρ d)) (s.heap.get? (η.ρ d)=some { cls:=.type "dict",data:=.dict en n }) (SEs G.w η es en.toList) ((es.map (·.1)).Nodup):=by
 obtain ⟨o,e,rfl,dd⟩:=R.heap l _ hl
 obtain ⟨od,ed,en,n,rfl,r,nd⟩:=R.heap d _ hd
 exact ⟨_,en,n,⟨e,rfl,rfl,ed⟩,rfl,ed,r,nd⟩
theorem Ie {w:World} {η:Et} {es:List (Str×AV)} {en:Array DictEntry} {n:Nat} (h:SEs w η es en.toList) (nd:(es.map (·.1)).Nodup) {i:Nat} {k:Str} {x:AV} (e:es[i]?=some (k,x)) :
  ∃ v,lookIn k { cls:=.type "dict",data:=.dict en n }=some (some v)∧VR η x v:=by
 obtain ⟨y,a,b,_⟩:=h.find nd e
 exact ⟨y.val,by unfold lookIn; dsimp only; rw [a],b⟩
theorem HJ {w:World} {η:Et} {es:List (Str×AV)} {en:Array DictEntry} {n:Nat} (h:SEs w η es en.toList) {k:Str} (e:k∉es.map (·.1)) :
  lookIn k { cls:=.type "dict",data:=.dict en n }=some none:=by
 unfold lookIn; dsimp only; rw [(h.miss e).1]; dsimp only; rw [h.noRef]; rfl
noncomputable abbrev getA (name:Str):Value->Sem Value:=fun o=>getAttr o name true
theorem WE.attr {o:Expr} {name:Str} {pos:Pos} {Q:PA} (h:WE G c o σ fun ov σ1=>WU G c VR (getA name) ov σ1 Q)
  (he:attributeBase o name c.env (eval o c.env)=eval o c.env):WE G c (.Attribute o name pos) σ Q:=fun η s R =>
 Attribute_any_ (wb (h η s R) fun ov' ov σ1 η1 s1 h1 ho R1 st1=>HM (h1 η1 s1 ov' R1 ho) st1) (by rw [arm_eval_Attribute,he])
theorem WU.inst {l d:Lb} {C:Addr} {es:List (Str×AV)} {i:Nat} {name:Str} {x:AV} {Q:PA} (hl:σ.H l=some (.inst C d)) (hd:σ.H d=some (.attrs es)) (hi:es[i]?=some (name,x)) (hC:K9 G.K C) (hn:NoCls G.K C name) (hx:x.hd=true)
  (q:Q x σ):WU G c VR (getA name) (.ref l) σ Q:=fun η s o' R ho=>by
 obtain ⟨rfl,dd⟩:=ho.refE
 ·
  obtain ⟨ox,en,n,I,_,_,r,nd⟩:=R.inst hl hd
  obtain ⟨v,hv,vr⟩:=Ie (n:=n) r nd hi
  exact get_value R.K I (Ef hC.ga).1 (findObj_own hC.hd hn rfl hv) (vr.handed hx) (.toks R q vr)
theorem WM.inst {l d:Lb} {C f:Addr} {es:List (Str×AV)} {name:Str} (hl:σ.H l=some (.inst C d)) (hd:σ.H d=some (.attrs es)) (hC:K9 G.K C) (hf:findIn G.K (.ref C) name=some (some (.ref f))) (ht:typeIn G.K (.ref f)=some (.type "function"))
  (hn:name∉es.map (·.1)):WM G c (.ref l) name σ (.rig (.ref f)) [.ref l]:=fun η s ov' pl R hv Q E k=>by
 obtain ⟨rfl,dd⟩:=hv.refE
 ·
  obtain ⟨ox,en,n,I,_,_,r,nd⟩:=R.inst hl hd
  exact method_fn R.K I (Ef hC.ga).1 (Ef hC.ga).2 hf ht (by unfold shadowIn; dsimp only; rw [HJ r hn]; rfl) (k _ _ s.toks (.rig _) (.cons (.ref dd) .nil))
theorem Im {prog:Program} {w:World} {A:Around} {E:PV} {K:Frag} {C x dx:Addr} {s:Shared} {ox:Obj} {en:Array DictEntry} {n:Nat} {name:Str} {v:Value} {Q:Unit->Shared->Prop} (X:K.In s.heap)
  (I:InstAt s.heap x ox C (some { cls:=.type "dict",data:=.dict en n })) (hd:ox.dict=some dx) (hC:K9 K C) (hn:NoCls K C name) (hr:en.any (·.refKey)=false)
  {es':Array DictEntry} {n':Nat} (e':C6 name (AZ w.params name) (.str name (s.toks+1)) v { cls:=.type "dict",data:=.dict en n }={ cls:=.type "dict",data:=.dict es' n' }) (hz:es'.size≤1000)
  (h:(s.heap.update dx (C6 name (AZ w.params name) (.str name (s.toks+1)) v)).get? dx=some { cls:=.type "dict",data:=.dict es' n' } →
   Q () { s with heap:=s.heap.update dx (C6 name (AZ w.params name) (.str name (s.toks+1)) v),toks:=s.toks+2 }) :
  wpAny (model prog w) A (setAttr (.ref x) name v) Q E s:=by
 refine set_plain X I hC.sa (osa_open (s:={ s with toks:=s.toks+1 }) X I hC.po (by unfold takerIn; rw [hn]; rfl) fun b=>?_)
 obtain ⟨cd,hc,hd'⟩:=any_some hC.hd
 obtain ⟨hx,hcl,hno,hdd⟩:=I
 obtain ⟨oc,odi,oda,osl⟩:=ox
 dsimp only at hcl hd hdd
 subst hcl hd
 dsimp only at hdd
 have D':=BJ (C6 name (AZ w.params name) (.str name (s.toks+1)) v) hdd (by rw [e']; rfl)
 rw [e'] at D'
 refine Aa (Ad (Aa (Aa (Dv hx (Aa (Eg (h:=s.heap) X hc _ _ _ _ (fun _ _ e=>e) ?_))))))
 rw [hd']
 refine Ad (a:=some dx) (Aa (Ad (Aa ?_)))
 refine Aa (Aa (FW (Ad (Aa (Eu (Aa (Dv hdd ?_)))))))
 dsimp only
 rw [aRefKeyMayBeTheName_at,hr,FT]
 refine FU hdd ?_
 refine Aa (wpAny_lookBehind D' (pastItsLine_dict (by rw [CB]; exact Ab (by assumption) (by decide))) ?_)
 exact Ad (h D')
noncomputable def WSA (G:Gb) (c:Cx) (o:AV) (name:Str) (v:AV) (σ:St) (Q:St->Prop):Prop:=∀ η s o' v',Rel G c η σ s->VR η o o'->VR η v v'->wpAny (mo G) c.A (setAttr o' name v') (Po G c UR η s fun _ σ'=>Q σ') FF s
theorem WSA.upd {l d:Lb} {C:Addr} {es:List (Str×AV)} {i:Nat} {name:Str} {x v:AV} {Q:St->Prop} (hl:σ.H l=some (.inst C d)) (hd:σ.H d=some (.attrs es)) (hi:es[i]?=some (name,x)) (hC:K9 G.K C) (hn:NoCls G.K C name) (hz:es.length≤100)
  (q:Q { σ with H:=up σ.H d (.attrs (es.set i (name,v))) }):WSA G c (.ref l) name v σ Q:=fun η s o' v' R ho hv=>by
 obtain ⟨rfl,dd⟩:=ho.refE
 ·
  obtain ⟨ox,en,n,I,hdx,ed,r,nd⟩:=R.inst hl hd
  obtain ⟨_,_,_,fi⟩:=r.find nd hi
  have fi':en.findIdx? (·.key.isStr name)=some i:=by obtain ⟨en⟩:=en; rw [DD]; exact fi
  have pe:C6 name (AZ G.w.params name) (.str name (s.toks+1)) v' { cls:=.type "dict",data:=.dict en n }={ cls:=.type "dict",data:=.dict (en.modify i fun e=>{ e with val:=v' }) n }:=by
   rw [EU]; simp only [Ec,fi']
  refine Im R.K I hdx hC hn (by rw [← Ez]; exact r.noRef) pe (by have:=r.length; simp at this ⊢; lia) fun e2=>?_
  obtain ⟨R',st⟩:=R.setL (tk:=s.toks+2) (ao:=.attrs (es.set i (name,v))) hd (by intro q; contradiction) (A0 ..) e2 ⟨_,_,rfl,by rw [GF]; exact r.set hi hv,by
   have:(es.set i (name,v)).map (·.1)=es.map (·.1):=by
    rw [List.map_set]; exact Lv (by rw [Ai,hi]; rfl)
   rw [this]; exact nd⟩
  exact ⟨(),_,η,q,trivial,R',st _⟩
theorem WSA.new {l d:Lb} {C:Addr} {es:List (Str×AV)} {name:Str} {v:AV} {Q:St->Prop} (hl:σ.H l=some (.inst C d)) (hd:σ.H d=some (.attrs es)) (hi:name∉es.map (·.1)) (hC:K9 G.K C) (hn:NoCls G.K C name) (hz:es.length≤100)
  (q:Q { σ with H:=up σ.H d (.attrs (es++[(name,v)])) }):WSA G c (.ref l) name v σ Q:=fun η s o' v' R ho hv=>by
 obtain ⟨rfl,dd⟩:=ho.refE
 ·
  obtain ⟨ox,en,n,I,hdx,ed,r,nd⟩:=R.inst hl hd
  obtain ⟨_,fi⟩:=r.miss hi
  have fi':en.findIdx? (·.key.isStr name)=Av:=by obtain ⟨en⟩:=en; rw [DD]; exact fi
  have pe:C6 name (AZ G.w.params name) (.str name (s.toks+1)) v' { cls:=.type "dict",data:=.dict en n }={ cls:=.type "dict",data:=.dict (en.push ⟨AZ G.w.params name,.str name (s.toks+1),v'⟩) (n+1) }:=by
   rw [EU]; simp only [Ec,fi']
  refine Im R.K I hdx hC hn (by rw [← Ez]; exact r.noRef) pe (by have:=r.length; simp at this ⊢; lia) fun e2=>?_
  obtain ⟨R',st⟩:=R.setL (tk:=s.toks+2) (ao:=.attrs (es++[(name,v)])) hd (by intro q; contradiction) (A0 ..) e2 ⟨_,_,rfl,by rw [D7]; exact r.push hv,by
   rw [Ar,Fj,BH]; exact ⟨nd,by simp,by rintro a ha b hb rfl; rw [Al] at hb; have hb:a=name:=hb; exact hi (hb▸ha)⟩⟩
  exact ⟨(),_,η,q,trivial,R',st _⟩
theorem WG.attr {o:Expr} {name:Str} {pos:Pos} {v:AV} {Q:St->Prop} (h:WE G c o σ fun ov σ1=>WSA G c ov name v σ1 Q):WG G c (.Attribute o name pos) v σ Q:=fun η s v' R hv=>by
 rw [arm_assign_Attribute]
 exact Aa (Ax (wb (h η s R) fun ov' ov σ1 η1 s1 h1 ho R1 st1=>Aa (Bu (Aa (Ax
  (wb (h1 η1 s1 ov' v' R1 ho (hv.mono st1.le)) fun _ _ σ3 η3 s3 h3 _ R3 st3=>G3 ⟨(),σ3,η3,h3,trivial,R3,st1.trans st3⟩))))))
theorem W1.augAttr {o value:Expr} {attr:Str} {tpos pos:Pos} {op:Operator} {Q:PF}
  (h:WE G c o σ fun ov σ1=>WU G c VR (getA attr) ov σ1 fun old σ2=>WE G c value σ2 fun v σ3=>WB G c VR (inplaceOp op) old v σ3 fun r σ4=>WSA G c ov attr r σ4 fun σ5=>Q .next σ5):W1 G c (.AugAssign (.Attribute o attr tpos) op value pos) σ Q:=fun η s R =>
 wpAny_AugAssign_AttributeAny (wb (h η s R) fun ov' ov σ1 η1 s1 h1 ho R1 st1=>wb (h1 η1 s1 ov' R1 ho) fun old' old σ2 η2 s2 h2 hold R2 st2=>wb (h2 η2 s2 R2) fun v' v σ3 η3 s3 h3 hv R3 st3 =>
  wb (h3 η3 s3 old' v' R3 (hold.mono st3.le) hv) fun r' r σ4 η4 s4 h4 hr R4 st4=>wb (h4 η4 s4 ov' r' R4 (ho.mono (st2.le.trans (st3.le.trans st4.le))) hr) fun _ _ σ5 η5 s5 h5 _ R5 st5 =>
   ⟨.next,σ5,η5,h5,.next,R5,st1.trans (st2.trans (st3.trans (st4.trans st5)))⟩)
end
end
section
noncomputable def Cx.at (c:Cx) (A:Around) (k:Nat):Cx:={ c with A:=A,k:=k }
section
variable {G:Gb} {c:Cx} {σ:St}
theorem Rel.re {η:Et} {s:Shared} (R:Rel G c η σ s) {A:Around} {k:Nat} (ok:(c.at A k).Ok):Rel G (c.at A k) η σ s :=
 { gok:=R.gok,ok:=ok,heap:=R.heap,dom:=R.dom,inj:=R.inj,sep:=R.sep,low:=R.low,frz:=R.frz,old:=R.old,bk:=R.bk,gens:=R.gens,os:=R.os,zt:=R.zt,tabs:=R.tabs,fr:=R.fr,ownl:=R.ownl,ff:=R.ff,fu:=R.fu,fd:=R.fd }
theorem Rel.un {η:Et} {s:Shared} {A:Around} {k:Nat} (R:Rel G (c.at A k) η σ s) (ok:c.Ok):Rel G c η σ s :=
 { gok:=R.gok,ok:=ok,heap:=R.heap,dom:=R.dom,inj:=R.inj,sep:=R.sep,low:=R.low,frz:=R.frz,old:=R.old,bk:=R.bk,gens:=R.gens,os:=R.os,zt:=R.zt,tabs:=R.tabs,fr:=R.fr,ownl:=R.ownl,ff:=R.ff,fu:=R.fu,fd:=R.fd }
theorem Po.un {α β:Type} {X:Et->β->α->Prop} {η:Et} {s s':Shared} {A:Around} {k:Nat} {Q:β->St->Prop} {v:α} (h:Po G (c.at A k) X η s Q v s') (ok:c.Ok):Po G c X η s Q v s':=by
 obtain ⟨b,σ',η',q,x,R,st⟩:=h
 exact ⟨b,σ',η',q,x,R.un ok,st⟩
theorem Cx.Ok.at (ok:c.Ok) {A:Around} {k:Nat} (hf:A.frames=c.A.frames) (hh:A.handled=c.A.handled) (hd:A.depth+k≤c.A.depth+c.k) (hu:A.units+50*k≤c.A.units+50*c.k):(c.at A k).Ok :=
 { kind:=ok.kind,locals:=ok.locals,globals:=ok.globals,builtins:=ok.builtins,frames:=hf.trans ok.frames,depth:=Ab hd ok.depth,units:=Ab hu ok.units,handled:=fun q=>hh.trans (ok.handled q),names:=ok.names,nd:=ok.nd,cnd:=ok.cnd,cL:=ok.cL,ce:=ok.ce }
theorem J9 (A:Around) (C:Addr) (vs:List Value):(A.under (.builtin "type.__call__" ⟨.ref C::vs,[]⟩)).frames=A.frames∧(A.under (.builtin "type.__call__" ⟨.ref C::vs,[]⟩)).handled=A.handled∧(A.under (.builtin "type.__call__" ⟨.ref C::vs,[]⟩)).depth=A.depth+1∧(A.under (.builtin "type.__call__" ⟨.ref C::vs,[]⟩)).units=A.units+1 :=
 ⟨by rfl,rfl,rfl,by rfl⟩
theorem WV.make {C fI:Addr} {l d:Lb} {vs:List AV} {k:Nat} {Q:PA} (hm:makesIn G.K C=true) (hi:findIn G.K (.ref C) "__init__" = some (some (.ref fI))) (hf:typeIn G.K (.ref fI)=some (.type "function")) (hl:σ.H l=none) (hd:σ.H d=none) (ne:l≠d)
  (hk:k+1≤c.k) (hh:c.hd=false) (h:WC G k (.ref fI) (.ref l::vs) (up (up σ.H d (.attrs [])) l (.inst C d)) fun v H'=>v=.none∧Q (.ref l) { σ with H:=H' }):WV G c (.rig (.ref C)) vs σ Q:=fun η s f' vs' R hf' hvs=>by
 obtain rfl:=hf'.rigE
 obtain ⟨hp,g,dr,t,os⟩:=s
 have R0:=R
 obtain ⟨R1,st1⟩:=R.addL (h':=hp.push emptyDict) (tk:=t) (a:=hp.objs.size) (o:=emptyDict) (l:=d) (ao:=.attrs []) Ho H9 (Ah _ rfl) R.sizeLe hd ⟨#[],0,rfl,.nil,.nil⟩
 have dd:(η.addL d hp.objs.size).D d:=.inl rfl
 have ρd:(η.addL d hp.objs.size).ρ d=hp.objs.size:=if_pos rfl
 have hl1:up σ.H d (.attrs []) l=none:=(Ha _ _ ne).trans hl
 obtain ⟨R2,st2⟩:=R1.addL (h':=(hp.push emptyDict).push (instObj C hp.objs.size)) (tk:=t) (a:=hp.objs.size+1) (o:=instObj C hp.objs.size) (l:=l) (ao:=.inst C d) Ho (Ht (by show (hp.push _).objs.size≤_; rw [Co]; exact Ak _))
  (by have:=Ah (hp.push emptyDict) (o:=instObj C hp.objs.size) rfl; rw [Co] at this; exact this) (by have:=R.sizeLe; show _≤hp.objs.size+1; have this:G.h₀.objs.size≤hp.objs.size:=this; exact AK (by assumption)) hl1 (by
   refine ⟨?_,.inr dd⟩
   have:((η.addL d hp.objs.size).addL l (hp.objs.size+1)).ρ d=hp.objs.size:=by
    show (if d=l then _ else _)=_
    rw [if_neg (Dc ne)]; exact ρd
   rw [this])
 obtain ⟨u1,u2,u3,u4⟩:=J9 c.A C vs'
 have ok:=R.ok.at (A:=c.A.under (.builtin "type.__call__" ⟨.ref C::vs',[]⟩)) (k:=c.k - 1) u1 u2 (NC hk u3) (M4 hk u4)
 refine BL (make_core (makes_of R.K hm) (BG R.K hi) (fun self=>bind_fn R.K self hf) (.inl rfl) ?_)
 have ρl:((η.addL d hp.objs.size).addL l (hp.objs.size+1)).ρ l=hp.objs.size+1:=if_pos rfl
 have vl:VR ((η.addL d hp.objs.size).addL l (hp.objs.size+1)) (.ref l) (.ref (hp.objs.size+1)):=by
  have:=VR.ref (η:=(η.addL d hp.objs.size).addL l (hp.objs.size+1)) (l:=l) (.inl rfl)
  rw [ρl] at this; exact this
 have st:=(st1 c.own).trans (st2 c.own)
 refine Cu (h (c.at (c.A.under (.builtin "type.__call__" ⟨.ref C::vs',[]⟩)) (c.k - 1)) (B6 hk) hh _ _ _ (.ref (hp.objs.size+1)::vs') (R2.re ok) rfl (.cons vl (hvs.mono st.le))) fun r s' z=>?_
 rcases r with e | f
 ·exact z
 ·cases f with
  | ret v =>
   obtain ⟨v,σ3,η3,⟨e3,rfl,q3⟩,x,R3,st3⟩:=Po.un z R.ok
   obtain rfl:=x.rigE
   refine ⟨rfl,.ref l,σ3,η3,?_,vl.mono st3.le,R3,st.trans st3⟩
   have:σ3={ σ with H:=σ3.H }:=by
    have e3:σ3.loc=σ.loc:=e3
    rw [← e3]
   rw [this]; exact q3
  | _=>exact z
theorem WV.makeS {C fI:Addr} {l:Lb} {vs:List AV} {k:Nat} {Q:PA} (hm:makesIn G.K C=true) (hi:findIn G.K (.ref C) "__init__" = some (some (.ref fI))) (hf:typeIn G.K (.ref fI)=some (.type "function")) (hl:σ.H l=none)
  (hk:k+1≤c.k) (hh:c.hd=false) (h:WC G k (.ref fI) (.ref l::vs) (up σ.H l (.slots C [])) fun v H'=>v=.none∧Q (.ref l) { σ with H:=H' }):WV G c (.rig (.ref C)) vs σ Q:=fun η s f' vs' R hf' hvs=>by
 obtain rfl:=hf'.rigE
 obtain ⟨hp,g,dr,t,os⟩:=s
 have R0:=R
 obtain ⟨R1,st1⟩:=R.addZ (h':=hp.push emptyDict) (tk:=t) (a:=hp.objs.size) (o:=emptyDict) Ho H9 (Ah _ rfl)
 obtain ⟨R2,st2⟩:=R1.addL (h':=(hp.push emptyDict).push (instObj C hp.objs.size)) (tk:=t) (a:=hp.objs.size+1) (o:=instObj C hp.objs.size) (l:=l) (ao:=.slots C []) Ho (Ht (by show (hp.push _).objs.size≤_; rw [Co]; exact Ak _))
  (by have:=Ah (hp.push emptyDict) (o:=instObj C hp.objs.size) rfl; rw [Co] at this; exact this) (by have:=R.sizeLe; show _≤hp.objs.size+1; have this:G.h₀.objs.size≤hp.objs.size:=this; exact AK (by assumption)) hl
  ⟨#[],hp.objs.size,rfl,.nil,if_pos rfl⟩
 obtain ⟨u1,u2,u3,u4⟩:=J9 c.A C vs'
 have ok:=R.ok.at (A:=c.A.under (.builtin "type.__call__" ⟨.ref C::vs',[]⟩)) (k:=c.k - 1) u1 u2 (NC hk u3) (M4 hk u4)
 refine BL (make_core (makes_of R.K hm) (BG R.K hi) (fun self=>bind_fn R.K self hf) (.inl rfl) ?_)
 have ρl:((η.addZ hp.objs.size emptyDict).addL l (hp.objs.size+1)).ρ l=hp.objs.size+1:=if_pos rfl
 have vl:VR ((η.addZ hp.objs.size emptyDict).addL l (hp.objs.size+1)) (.ref l) (.ref (hp.objs.size+1)):=by
  have:=VR.ref (η:=(η.addZ hp.objs.size emptyDict).addL l (hp.objs.size+1)) (l:=l) (.inl rfl)
  rw [ρl] at this; exact this
 have st:=(st1 c.own).trans (st2 c.own)
 refine Cu (h (c.at (c.A.under (.builtin "type.__call__" ⟨.ref C::vs',[]⟩)) (c.k - 1)) (B6 hk) hh _ _ _ (.ref (hp.objs.size+1)::vs') (R2.re ok) rfl (.cons vl (hvs.mono st.le))) fun r s' z=>?_
 rcases r with e | f
 ·exact z
 ·cases f with
  | ret v =>
   obtain ⟨v,σ3,η3,⟨e3,rfl,q3⟩,x,R3,st3⟩:=Po.un z R.ok
   obtain rfl:=x.rigE
   refine ⟨rfl,.ref l,σ3,η3,?_,vl.mono st3.le,R3,st.trans st3⟩
   have:σ3={ σ with H:=σ3.H }:=by
    have e3:σ3.loc=σ.loc:=e3
    rw [← e3]
   rw [this]; exact q3
  | _=>exact z
theorem OVRs.get {η:Et} {xs:List (Option AV)} {vs:List (Option Value)} (h:OVRs η xs vs) {i:Nat} {x:AV} (e:xs[i]?=some (some x)):∃ v,vs[i]?=some (some v)∧VR η x v:=by
 obtain ⟨v,e,r⟩:=L2.get h e
 cases r with
 | some r=>exact ⟨_,e,r⟩
theorem OVRs.set {η:Et} {xs:List (Option AV)} {vs:List (Option Value)} (h:OVRs η xs vs) {i:Nat} {x:Option AV} {v:Option Value} (r:OVR η x v):OVRs η (xs.set i x) (vs.set i v):=L2.set r h
theorem OVRs.nones {η:Et} (n:Nat):OVRs η (Az n Av) (Az n Av):=by
 induction n with
 | zero=>exact .nil
 | succ n ih=>exact .cons .none ih
theorem Rel.slots {η:Et} {s:Shared} (R:Rel G c η σ s) {l:Lb} {C:Addr} {xs:List (Option AV)} (hl:σ.H l=some (.slots C xs)) :
  Ex2 fun sl dx=>An3 (InstAt s.heap (η.ρ l) { cls:=.ref C,dict:=some dx,data:=.plain,slots:=sl } C (some emptyDict)) (OVRs η xs sl.toList) (η.Z dx=some emptyDict):=by
 obtain ⟨o,e,sl,dx,rfl,r,z⟩:=R.heap l _ hl
 exact ⟨sl,dx,⟨e,rfl,rfl,R.frz _ _ z⟩,r,z⟩
structure Oo (K:Frag) (C p:Addr) (name:Str) (i:Nat):Prop where
 ga:plainGet K C "" = true
 fd:∀ od,findObj K C od name=some (.bind (.builtin "member_descriptor.__get__") (.ref p))
 sl:slotIn K p C=some i
 po:plainOver K C=true
 sa:findIn K (.ref C) "__setattr__" = some (some (.builtin "object.__setattr__"))
 tk:takerIn K C name=some (some (.ref p))
 ty:typeIn K (.ref p)=some (.type "member_descriptor")
 sm:i<1000
theorem WU.slot {l:Lb} {C p:Addr} {xs:List (Option AV)} {i:Nat} {name:Str} {x:AV} {Q:PA} (hl:σ.H l=some (.slots C xs)) (hi:xs[i]?=some (some x)) (hS:Oo G.K C p name i) (hx:x.hd=true)
  (q:Q x σ):WU G c VR (getA name) (.ref l) σ Q:=fun η s o' R ho=>by
 obtain ⟨rfl,dd⟩:=ho.refE
 ·
  obtain ⟨sl,dx,I,r,z⟩:=R.slots hl
  obtain ⟨v,hv,vr⟩:=r.get hi
  refine get_bind R.K I (Ef hS.ga).1 (hS.fd _) (Ef hS.ga).2 (BL (slot_get (s:={ s with toks:=s.toks+1 }) R.K I hS.sl (v:=v) (by rw [← CV,hv]; rfl) ?_))
  exact handed_on (vr.handed hx) (.toks R q vr)
theorem JF {prog:Program} {w:World} {A:Around} {K:Frag} {C x p:Addr} {s:Shared} {ox:Obj} {od:Option Obj} {i:Nat} {v:Value} {R:Result->Shared->Prop} (X:K.In s.heap) (I:InstAt s.heap x ox C od)
  (hp:slotIn K p C=some i) (hi:i<1000) (h:R (.ok (.ret .none)) { s with heap:=s.heap.update x fun o=>{ o with slots:=(o.slots++Array.replicate (i+1 - o.slots.size) none).setIfInBounds i (some v) } }) :
  codeAny (model prog w) A (.call (.builtin "member_descriptor.__set__") ⟨[.ref p,.ref x,v],[]⟩) R s:=by
 obtain ⟨n,tn,owner,behind,tb,d,sl,cd,ho,hc,hm,hb,rfl⟩:=slot_of X hp
 obtain ⟨hh,g,dr,t,os⟩:=s
 have L0:=I.type (M:=model prog w)
 have L1:=Ca (M:=model prog w) X hm
 have L2:Looks (model prog w) hh (Builtin.Slots.slotNamesOf (.ref C)) cd.slotNames:=(Eg X hc).andThen .now
 have hx:=I.at_
 dsimp only at ho hx L0 L1
 have f0:=Gl (M:=model prog w) ho 0 (v:=.str n tn) rfl
 have f1:=Gl (M:=model prog w) ho 1 (v:=owner) rfl
 have f3:=Gl (M:=model prog w) ho 3 (v:=.builtin "proto.slot#set") rfl
 have f4:=Gl (M:=model prog w) ho 4 (v:=.int behind tb) rfl
 refine BV GT.plain KF.entry_mset (GT.check _ _ _ _ _ _ _ _ ⟨_,ho,rfl⟩ (KF.args_mset _ _ _) ?_)
 have f5:Looks (model prog w) hh (Gc (.ref p)) [.ref p]:=((Looks.ld (part:=none) ho).andThen .now).andThen (By (by kernel_rfl))
 repeat lk
 refine ⟨CT _ (by decide +kernel),B0 KF.entry_slotset ?_⟩
 repeat lk
 rw [if_neg hb]
 refine Ad (Aa ?_)
 unfold setSlotAt
 dsimp only
 rw [if_neg (by rw [CB]; lia)]
 exact FU hx (Ad h)
theorem WSA.slot {l:Lb} {C p:Addr} {xs:List (Option AV)} {i:Nat} {name:Str} {v:AV} {Q:St->Prop} (hl:σ.H l=some (.slots C xs)) (hS:Oo G.K C p name i)
  (q:Q { σ with H:=up σ.H l (.slots C ((xs++Az (i+1 - xs.length) Av).set i (some v))) }):WSA G c (.ref l) name v σ Q:=fun η s o' v' R ho hv=>by
 obtain ⟨rfl,dd⟩:=ho.refE
 ·
  obtain ⟨sl,dx,I,r,z⟩:=R.slots hl
  have hlen:=r.length
  refine set_plain R.K I hS.sa (osa_descr GT (s:={ s with toks:=s.toks+1 }) R.K I hS.po hS.tk hS.ty (JF (s:={ s with toks:=s.toks+1 }) R.K I hS.sl hS.sm ?_))
  have e2:=BJ (fun o:Obj=>{ o with slots:=(o.slots++Array.replicate (i+1 - o.slots.size) Av).setIfInBounds i (some v') }) I.at_ rfl
  obtain ⟨R',st⟩:=R.setL (tk:=s.toks+1) (ao:=.slots C ((xs++Az (i+1 - xs.length) Av).set i (some v))) hl (by intro q; contradiction) (A0 ..) e2 ⟨_,dx,rfl,by
   simp only [FB,Dq,Array.toList_replicate]
   have:sl.size=xs.length:=by simp only [hlen]; simp
   rw [this]
   exact (r.append (OVRs.nones _)).set (.some hv),z⟩
  exact ⟨(),_,η,q,trivial,R',st _⟩
end
end
section
noncomputable def fcs (fd:FuncData) (f:Addr) (ns:List (Str×Bool)) (A:Around) (fe:List Env) (L:Addr) (k:Nat):Cx :=
 { A:=A.deeper (callEnv fd L f),env:=callEnv fd L f,fe:=callEnv fd L f::fe,L:=L,ns:=ns,k:=k,oc:=[] }
noncomputable def WSat (G:Gb) (c:Cx) (body ss:List Stmt) (σ:St) (Q:PF):Prop:=∀ η s,Rel G c η σ s->EG (mo G) c.A (.func body c.env) (execs ss c.env) (Po G c FlR η s Q) FF s
theorem WSat.of {G:Gb} {c:Cx} {body ss:List Stmt} {σ:St} {Q:PF} (h:WS G c ss σ Q):WSat G c body ss σ Q:=fun η s R=>wpAt_of_wpAny (h η s R)
theorem WSat.cons {G:Gb} {c:Cx} {body ss:List Stmt} {σ:St} {st:Stmt} {Q:PF} (h:W1 G c st σ fun f σ1=>match f with | .next=>WSat G c body ss σ1 Q | f=>Q f σ1):WSat G c body (st::ss) σ Q:=fun η s R =>
 F4 (wpAt_of_wpAny (wb (h η s R) fun f' f σ1 η1 s1 h1 hf R1 st1=>by
  cases hf with
  | next=>exact Fc (h1 η1 s1 R1) (fun _ _ z=>z.back st1) fun _ _ z=>z
  | brk=>exact ⟨_,σ1,η1,h1,.brk,R1,st1⟩
  | cont=>exact ⟨_,σ1,η1,h1,.cont,R1,st1⟩
  | ret hv=>exact ⟨_,σ1,η1,h1,.ret hv,R1,st1⟩))
noncomputable def fnOkS (fd:FuncData) (ns:List (Str×Bool)):Bool :=
 (fd.scope.kind==.function)&&!fd.scope.isCoroutine&&!fd.scope.isGenerator &&
 ns.all (fun x=>!(x.1==("__debug__" : Str))&&!(x.1==("__classdict__" : Str))&&(fd.scope.names.lookup x.1==some NameKind.local)&&!x.2) &&
 decide ((ns.map (·.1)).Nodup)&&fd.scope.names.all (fun x=>!(x.2==Dr))
theorem Nb {α:Type} {x:Str} {v:α} {l:List (Str×α)} (nd:(l.map (·.1)).Nodup) (h:(x,v)∈l):l.lookup x=some v:=by
 induction l with
 | nil=>cases h
 | cons y l ih =>
  rw [AM,BA] at nd
  rw [Bd]
  rcases Ap.mp h with rfl | h
  ·rw [beq_self_eq_true]
  ·rw [beq_eq_false_iff_ne.mpr fun q:x=y.1=>nd.1 (q▸As.mpr ⟨_,h,rfl⟩)]; exact ih nd.2 h
theorem Mj {η:Et} {x:Str} {v:AV} {ab:List (Str×AV)} {bs:List (Str×Value)} (br:IE η ab bs) (nd:(ab.map (·.1)).Nodup) {j:Nat} (e:ab[j]?=some (x,v)):∃ v',bs.reverse.lookup x=some v'∧VR η v v':=by
 have nb:(bs.map (·.1)).Nodup:=by rw [br.names]; exact nd
 have key:∀ {ab:List (Str×AV)} {bs:List (Str×Value)},IE η ab bs->∀ {j:Nat},ab[j]?=some (x,v)->∃ v',(x,v')∈bs∧VR η v v':=by
  intro ab bs br
  induction br with
  | nil=>intro j e; simp at e
  | cons hv r ih =>
   intro j e
   cases j with
   | zero=>cases e; exact ⟨_,.head _,hv⟩
   | succ j=>obtain ⟨v',a,b⟩:=ih (by simpa using e); exact ⟨v',.tail _ a,b⟩
 obtain ⟨v',a,b⟩:=key br e
 exact ⟨v',Nb (by rw [List.map_reverse]; exact List.pairwise_reverse.mpr (nb.imp fun h=>h.symm)) (List.mem_reverse.mpr a),b⟩
theorem Jc {x:Str} {bs:List (Str×Value)} (h:x∉bs.map (·.1)):bs.reverse.lookup x=none:=by
 cases e:bs.reverse.lookup x with
 | none=>rfl
 | some v=>exact absurd (As.mpr ⟨_,List.mem_reverse.mp (mem_of_lookup e),rfl⟩) h
theorem WC.defS {G:Gb} {k:Nat} {fd:FuncData} {f:Addr} {oc:Value} {od:Option Addr} {osl:Array (Option Value)} {body:List Stmt} {ns:List (Str×Bool)} {args:List AV} {H:Hp} {Q:AV->Hp->Prop} {ab:List (Str×AV)}
  (hf:G.K.lookup f=some ⟨oc,od,.func fd,osl⟩) (hoc:oc≠.none) (hcd:Ex4 fun cd oc' vs t=>An5 (fd.code=.ref cd) (G.K.lookup cd=some oc') (oc'.cls≠.none) (oc'.data=.fields vs) (vs[1]?=some (.str fd.qualname t))) (hb:fd.body=.stmts body)
  (hgl:fd.globals=mainGlobals) (hbu:fd.builtins=builtinsNs) (hok:fnOkS fd ns=true) (hbind:WBind G fd args ab) (hab:ab.map (·.1)=(ns.take ab.length).map (·.1))
  (h:∀ A fe L,WSat G (fcs fd f ns A fe L k) body body ⟨loc0 ab ns,H⟩ fun fl σ'=>Q (retv fl) σ'.H):WC G (k+2) (.ref f) args H Q:=by
 intro c hk hhd η s σ args' R hH hargs
 unfold fnOkS at hok
 simp only [AF,Bz,beq_iff_eq,decide_eq_true_eq] at hok
 obtain ⟨⟨⟨⟨⟨k1,k2⟩,k3⟩,k4⟩,k5⟩,k6⟩:=hok
 have kk:∀ x b,(x,b)∈ns->(x==("__debug__" : Str))=false∧(x==("__classdict__" : Str))=false∧fd.scope.names.lookup x=some NameKind.local∧b=false:=fun x b hm=>by
  have:=AX.mp k4 _ hm
  simp only [AF,Bz,beq_iff_eq] at this
  exact ⟨this.1.1.1,this.1.1.2,this.1.2,this.2⟩
 subst hH
 have d1:=R.ok.depth
 have d2:=R.ok.units
 refine (Fd (by show c.A.depth<recursionLimit; unfold recursionLimit; lia) (Gb.KIn R hf hoc) rfl k2 k3 hb ?_ (hbind c η σ s args' _ _ _ R hargs fun binds η1 h' tk R1 st1 br=>?_))
 ·obtain ⟨cd,oc',vs,t,e1,e2,e3,e4,e5⟩:=hcd
  exact ⟨cd,oc',vs,t,e1,Gb.KIn R e2 e3,e4,e5⟩
 have hnames:∀ x∈binds,∃ b,(x.1,b)∈ns:=fun x hx=>by
  have:x.1∈binds.map (·.1):=EV hx
  rw [br.names,hab] at this
  obtain ⟨y,hy,e⟩:=As.mp this
  exact ⟨y.2,by rw [← e]; exact Cf hy⟩
 generalize hs1:({ s with heap:=h',toks:=tk }:Shared)=s1 at R1 st1 ⊢
 refine wpAny_newFunctionEnv (fun x hx=>?_) (fun x hx=>?_) (fun h2 hns2 hsb2=>?_) k1
 ·have:=AX.mp k6 x hx
  simpa using this
 ·obtain ⟨b,hb⟩:=hnames x hx
  exact (kk _ _ hb).2.2.1
 have hk2:∀ b o,s1.heap.get? b=some o->h2.get? b=some o:=fun b o e=>hsb2.extBut b o (AE (Ba e)) (AD _ e)
 have lim2:h2.NoLimit:=(R1.gok.lim.at fun o e=>R1.bk _ _ e fun q=>q.1 rfl).keeps hk2
 generalize htk2:s1.toks+binds.length=tk2
 refine ⟨lim2,ks_codeAny_funcAt ?_⟩
 have ow:∀ b,(fcs fd f ns c.A c.fe s1.heap.objs.size k).own b->s1.heap.objs.size≤b:=fun b ow=>by
  rcases ow with rfl | ⟨x,hx⟩
  ·exact Ak _
  ·contradiction
 have abnd:(ab.map (·.1)).Nodup:=by rw [hab]; exact (Ci ..▸k5.sublist (D8 ..))
 refine Fc (h c.A c.fe _ η1 _ (R1.bs.enter R1.fes rfl k1 rfl ow hk2 ⟨k1,rfl,hgl,hbu,Gx R.ok.frames,?_,?_,fun _=>R.ok.handled hhd,fun x b hm=>?_,k5,.nil,fun x b hb=>(nomatch hb),fun x a e=>(nomatch e)⟩ ⟨LC hab,fun x b hb=>(nomatch hb),_,hns2,fun i x b hi=>?_⟩)) (fun fl' s3 z=>?_) fun _ _ z=>z.elim
 ·show c.A.depth+1+k≤900; lia
 ·show c.A.units+3+50*k≤9000; lia
 ·obtain ⟨a1,a2,a3,rfl⟩:=kk x b hm
  exact ⟨a1,a2,a3⟩
 ·obtain ⟨_,_,_,rfl⟩:=kk x b (Au hi)
  show OVR _ _ _
  rcases KW hab k5 hi with ⟨v,hv,hl⟩ | ⟨hm,hl⟩
  ·obtain ⟨v',r1,r2⟩:=Mj br abnd hv
   rw [hl,r1]; exact .some r2
  ·rw [hl,Jc (br.names▸hm)]; exact .none
 obtain ⟨fl,σ3,η3,q3,hfl,R3,st3⟩:=z
 obtain ⟨x,y⟩:=R1.back R3 rfl ow ((Stp.ext hk2).trans st3)
 have hq:Po G c VR η s (fun v σ'=>σ'.loc=σ.loc∧Q v σ'.H) (flv fl') s3:=⟨retv fl,{ σ with H:=σ3.H },η3,⟨rfl,q3⟩,hfl.val,x,st1.trans y⟩
 cases fl'<;>exact hq
end
section
open Builtin Builtin.ObjectAttr
theorem KL (self:Value):refuseLoop self "__setattr__" [.type "list",.type "object"]=pure ():=by kernel_rfl
structure IF (K:Frag) (C:Addr):Prop where
 ga:findIn K (.ref C) "__getattribute__" = some (some (.builtin "list.__getattribute__"))
 gn:findIn K (.ref C) "__getattr__" = some none
 hd:hasDictIn K C=true
 sa:findIn K (.ref C) "__setattr__" = some (some (.builtin "object.__setattr__"))
 mro:∃ cd,clsIn K C=some cd∧cd.mro=[.ref C,.type "list",.type "object"]
theorem QV {prog:Program} {w:World} {A:Around} {K:Frag} {C x:Addr} {s:Shared} {R:Result->Shared->Prop} {ox:Obj} {od:Option Obj} {name:Str} {tk:Tok} {v:Value} (X:K.In s.heap) (I:InstAt s.heap x ox C od) (hA:IF K C) (hn:NoCls K C name)
  (h:wpAny (model prog w) A.in1 (storeInOwnDict (.ref x) (.ref C) (.str name tk) name v false)
   (fun fin s'=>match fin with | .done f=>R (.ok f) s' | .again c'=>c'.quiet=true∧codeAny (model prog w) A c' R s') (fun e s'=>R (.error e) s') s) :
  codeAny (model prog w) A (.call (.builtin "object.__setattr__") ⟨[.ref x,.str name tk,v],[]⟩) R s:=by
 have SF:=PySem.F.store_object
 obtain ⟨cd,hc,ho⟩:=hA.mro
 have sub:Looks (model prog w) s.heap (isInstance (.ref x) (.type "object")) true:=I.type.andThen (Ca X (by unfold mroIn; rw [hc,CE,ho]; rfl))
 refine BV SF.slot.plain SF.entry (@FG (model prog w) _ _ s "object.__setattr__" "object" "__setattr__" (.ref x) [.str name tk,v] [] _ SF.kind SF.split sub (SF.args (.ref x) (.str name tk) v) ?_)
 have hm:Looks (model prog w) s.heap (mroOf (.ref C)) cd.mro:=(Eg X hc).andThen .now
 rw [osa_eq,refuse_eq]
 refine Aa (Aa (I.type.here (Aa (hm.here ?_))))
 rw [ho,refuseLoop_ref,KL]
 exact Ad (Aa (I.type.here (Aa ((BG X hn).here (Aa (Ad h))))))
theorem IV {prog:Program} {w:World} {A:Around} {E:PV} {K:Frag} {C x dx:Addr} {s:Shared} {ox:Obj} {en:Array DictEntry} {n:Nat} {name:Str} {v:Value} {Q:Unit->Shared->Prop} (X:K.In s.heap)
  (I:InstAt s.heap x ox C (some { cls:=.type "dict",data:=.dict en n })) (hd:ox.dict=some dx) (hA:IF K C) (hn:NoCls K C name) (hr:en.any (·.refKey)=false)
  {es':Array DictEntry} {n':Nat} (e':C6 name (AZ w.params name) (.str name (s.toks+1)) v { cls:=.type "dict",data:=.dict en n }={ cls:=.type "dict",data:=.dict es' n' }) (hz:es'.size≤1000)
  (h:(s.heap.update dx (C6 name (AZ w.params name) (.str name (s.toks+1)) v)).get? dx=some { cls:=.type "dict",data:=.dict es' n' } →
   Q () { s with heap:=s.heap.update dx (C6 name (AZ w.params name) (.str name (s.toks+1)) v),toks:=s.toks+2 }) :
  wpAny (model prog w) A (setAttr (.ref x) name v) Q E s:=by
 refine set_plain X I hA.sa (QV (s:={ s with toks:=s.toks+1 }) X I hA hn ?_)
 obtain ⟨cd,hc,hd'⟩:=any_some hA.hd
 obtain ⟨hx,hcl,hno,hdd⟩:=I
 obtain ⟨oc,odi,oda,osl⟩:=ox
 dsimp only at hcl hd hdd
 subst hcl hd
 dsimp only at hdd
 have D':=BJ (C6 name (AZ w.params name) (.str name (s.toks+1)) v) hdd (by rw [e']; rfl)
 rw [e'] at D'
 refine Aa (Ad (Aa (Aa (Dv hx (Aa (Eg (h:=s.heap) X hc _ _ _ _ (fun _ _ e=>e) ?_))))))
 rw [hd']
 refine Ad (a:=some dx) (Aa (Ad (Aa ?_)))
 refine Aa (Aa (FW (Ad (Aa (Eu (Aa (Dv hdd ?_)))))))
 dsimp only
 rw [aRefKeyMayBeTheName_at,hr,FT]
 refine FU hdd ?_
 refine Aa (wpAny_lookBehind D' (pastItsLine_dict (by rw [CB]; exact Ab (by assumption) (by decide))) ?_)
 exact Ad (h D')
theorem Jg {prog:Program} {w:World} {A:Around} {E:PV} {K:Frag} {C x:Addr} {s:Shared} {ox:Obj} {od:Option Obj} {name:Str} {v:Value} {Q:PV} (X:K.In s.heap)
  (I:InstAt s.heap x ox C od) (hA:IF K C) (hf:findObj K C od name=some (.value v)) (hh:handedIn v=true) (h:Q v { s with toks:=s.toks+1 }):wpAny (model prog w) A (getAttr (.ref x) name true) Q E s:=by
 obtain ⟨hp,g,d,t,os⟩:=s
 have L0:=I.type (M:=model prog w)
 have L1:=BG (M:=model prog w) X hA.ga
 have L2:=BG (M:=model prog w) X hA.gn
 have L3:=looks_find (M:=model prog w) X I hf
 obtain ⟨cd,hc,ho⟩:=hA.mro
 have sub:Looks (model prog w) hp (isInstance (.ref x) (.type "list")) true:=L0.andThen (Ca X (by unfold mroIn; rw [hc,CE,ho]; rfl))
 refine Aa (Eu (Ax (Aa (L0.at (Aa (L1.at ?_))))))
 show wpAny _ _ (getAttrByItsOwn _ _ _ _ _ _) _ _ _
 refine Aa (L2.at (Aa (DX (Ax ?_))))
 show wpAny _ _ (bindSpecial (.builtin "list.__getattribute__") (.ref x) >>=_) _ _ _
 refine Aa (Bi (C8.bind _) ?_)
 refine AC (Q:=fun v' s'=>v'=v∧s'=⟨hp,g,d,t+1,os⟩) (E:=fun _ _=>False) (BL (BV C8.plain Gy ?_)) (fun v' s' hv=>?_) fun _ _ z=>z.elim
 ·refine @FG (model prog w) _ _ _ "list.__getattribute__" "list" "__getattribute__" (.ref x) [.str name t] [] _ (by decide +kernel) (by decide +kernel) sub (ES _ _) ?_
  refine Aa (Ad ?_)
  repeat lk
  exact ⟨rfl,rfl⟩
 ·obtain ⟨rfl,rfl⟩:=hv
  show wpAny _ _ (handedOut _) _ _ _
  rw [handedOut_of hh]; exact Ad h
theorem JT {prog:Program} {w:World} {A:Around} {E:PV} {K:Frag} {C x:Addr} {s:Shared} {ox:Obj} {od:Option Obj} {name:Str} {f:Value} {pl:Sem Bool} {Q:Value×List Value->Shared->Prop} (X:K.In s.heap)
  (I:InstAt s.heap x ox C od) (hA:IF K C) (hf:findIn K (.ref C) name=some (some f)) (ht:typeIn K f=some (.type "function")∨typeIn K f=some (.type "method_descriptor")) (hs:shadowIn od name=some false) (h:Q (f,[.ref x]) s) :
  wpAny (model prog w) A (getMethod (.ref x) name pl) Q E s:=by
 refine Aa (Aa (I.type.here ((BG X hA.ga).here ?_)))
 dsimp only
 rw [PySem.canon_list_getattribute,if_neg (by decide)]
 refine Aa (Aa (I.type.here ((BG X hA.gn).here ?_)))
 rw [Option.isSome_none,if_neg (by decide)]
 refine Aa (Aa (I.type.here ((BG X hf).here ?_)))
 obtain ⟨hx,hcl,hno,hdd⟩:=I
 have fin:wpAny (model prog w) A (do
   if let some d:=(← loadPart x (some headPart)).dict then
    if (← nsGet d name).isSome then return ← (do return (← getAttr (.ref x) name,[]))
   rule "call.method-form"
   return (f,[.ref x]):Sem (Value×List Value)) Q E s:=by
  refine Aa (Dv hx ?_)
  cases hod:ox.dict with
  | none=>exact Aa (EB (Ad h))
  | some dx =>
   rw [hod] at hdd
   cases od with
   | none=>exact hdd.elim
   | some o =>
    have hdd:s.heap.get? dx=some o:=hdd
    unfold shadowIn at hs
    dsimp only at hs
    obtain ⟨r,hr,hrn⟩:=Ao.mp hs
    refine Aa (Aa (Dv hdd ?_))
    rw [nsLook_of hr]
    refine Ad ?_
    rw [hrn,if_neg (by decide)]
    exact Aa (EB (Ad h))
 rcases ht with ht | ht
 ·exact Aa ((looks_typeIn X ht).here fin)
 ·exact Aa ((looks_typeIn X ht).here fin)
section
variable {G:Gb} {c:Cx} {σ:St}
theorem Rel.acc {η:Et} {s:Shared} (R:Rel G c η σ s) {l d:Lb} {C:Addr} {xs:List AV} {es:List (Str×AV)} (hl:σ.H l=some (.acc C xs d)) (hd:σ.H d=some (.attrs es)) :
  Ex4 fun vs m en n=>An5 (InstAt s.heap (η.ρ l) { cls:=.ref C,dict:=some (η.ρ d),data:=.seq vs m } C (some { cls:=.type "dict",data:=.dict en n })) (VRs η xs vs.toList) (s.heap.get? (η.ρ d)=some { cls:=.type "dict",data:=.dict en n }) (SEs G.w η es en.toList) ((es.map (·.1)).Nodup):=by
 obtain ⟨o,e,vs,m,rfl,r,dd⟩:=R.heap l _ hl
 obtain ⟨od,ed,en,n,rfl,q,nd⟩:=R.heap d _ hd
 exact ⟨vs,m,en,n,⟨e,rfl,rfl,ed⟩,r,ed,q,nd⟩
theorem WU.acc {l d:Lb} {C:Addr} {xs:List AV} {es:List (Str×AV)} {i:Nat} {name:Str} {x:AV} {Q:PA} (hl:σ.H l=some (.acc C xs d)) (hd:σ.H d=some (.attrs es)) (hi:es[i]?=some (name,x)) (hC:IF G.K C) (hn:NoCls G.K C name) (hx:x.hd=true)
  (q:Q x σ):WU G c VR (getA name) (.ref l) σ Q:=fun η s o' R ho=>by
 obtain ⟨rfl,dd⟩:=ho.refE
 ·
  obtain ⟨vs,m,en,n,I,_,_,r,nd⟩:=R.acc hl hd
  obtain ⟨v,hv,vr⟩:=Ie (n:=n) r nd hi
  exact Jg R.K I hC (findObj_own hC.hd hn rfl hv) (vr.handed hx) (.toks R q vr)
theorem WM.acc {l d:Lb} {C:Addr} {f:Value} {xs:List AV} {es:List (Str×AV)} {name:Str} (hl:σ.H l=some (.acc C xs d)) (hd:σ.H d=some (.attrs es)) (hC:IF G.K C) (hf:findIn G.K (.ref C) name=some (some f)) (ht:typeIn G.K f=some (.type "function")∨typeIn G.K f=some (.type "method_descriptor"))
  (hn:name∉es.map (·.1)):WM G c (.ref l) name σ (.rig f) [.ref l]:=fun η s ov' pl R hv Q E k=>by
 obtain ⟨rfl,dd⟩:=hv.refE
 ·
  obtain ⟨vs,m,en,n,I,_,_,r,nd⟩:=R.acc hl hd
  exact JT R.K I hC hf ht (by unfold shadowIn; dsimp only; rw [HJ r hn]; rfl) (k _ _ s.toks (.rig _) (.cons (.ref dd) .nil))
theorem WSA.accUpd {l d:Lb} {C:Addr} {xs:List AV} {es:List (Str×AV)} {i:Nat} {name:Str} {x v:AV} {Q:St->Prop} (hl:σ.H l=some (.acc C xs d)) (hd:σ.H d=some (.attrs es)) (hi:es[i]?=some (name,x)) (hC:IF G.K C) (hn:NoCls G.K C name) (hz:es.length≤100)
  (q:Q { σ with H:=up σ.H d (.attrs (es.set i (name,v))) }):WSA G c (.ref l) name v σ Q:=fun η s o' v' R ho hv=>by
 obtain ⟨rfl,dd⟩:=ho.refE
 ·
  obtain ⟨vs,m,en,n,I,_,ed,r,nd⟩:=R.acc hl hd
  obtain ⟨_,_,_,fi⟩:=r.find nd hi
  have fi':en.findIdx? (·.key.isStr name)=some i:=by obtain ⟨en⟩:=en; rw [DD]; exact fi
  have pe:C6 name (AZ G.w.params name) (.str name (s.toks+1)) v' { cls:=.type "dict",data:=.dict en n }={ cls:=.type "dict",data:=.dict (en.modify i fun e=>{ e with val:=v' }) n }:=by
   rw [EU]; simp only [Ec,fi']
  refine IV R.K I rfl hC hn (by rw [← Ez]; exact r.noRef) pe (by have:=r.length; simp at this ⊢; lia) fun e2=>?_
  obtain ⟨R',st⟩:=R.setL (tk:=s.toks+2) (ao:=.attrs (es.set i (name,v))) hd (by intro q; contradiction) (A0 ..) e2 ⟨_,_,rfl,by rw [GF]; exact r.set hi hv,by
   have:(es.set i (name,v)).map (·.1)=es.map (·.1):=by
    rw [List.map_set]; exact Lv (by rw [Ai,hi]; rfl)
   rw [this]; exact nd⟩
  exact ⟨(),_,η,q,trivial,R',st _⟩
theorem WSA.accNew {l d:Lb} {C:Addr} {xs:List AV} {es:List (Str×AV)} {name:Str} {v:AV} {Q:St->Prop} (hl:σ.H l=some (.acc C xs d)) (hd:σ.H d=some (.attrs es)) (hi:name∉es.map (·.1)) (hC:IF G.K C) (hn:NoCls G.K C name) (hz:es.length≤100)
  (q:Q { σ with H:=up σ.H d (.attrs (es++[(name,v)])) }):WSA G c (.ref l) name v σ Q:=fun η s o' v' R ho hv=>by
 obtain ⟨rfl,dd⟩:=ho.refE
 ·
  obtain ⟨vs,m,en,n,I,_,ed,r,nd⟩:=R.acc hl hd
  obtain ⟨_,fi⟩:=r.miss hi
  have fi':en.findIdx? (·.key.isStr name)=Av:=by obtain ⟨en⟩:=en; rw [DD]; exact fi
  have pe:C6 name (AZ G.w.params name) (.str name (s.toks+1)) v' { cls:=.type "dict",data:=.dict en n }={ cls:=.type "dict",data:=.dict (en.push ⟨AZ G.w.params name,.str name (s.toks+1),v'⟩) (n+1) }:=by
   rw [EU]; simp only [Ec,fi']
  refine IV R.K I rfl hC hn (by rw [← Ez]; exact r.noRef) pe (by have:=r.length; simp at this ⊢; lia) fun e2=>?_
  obtain ⟨R',st⟩:=R.setL (tk:=s.toks+2) (ao:=.attrs (es++[(name,v)])) hd (by intro q; contradiction) (A0 ..) e2 ⟨_,_,rfl,by rw [D7]; exact r.push hv,by
   rw [Ar,Fj,BH]; exact ⟨nd,by simp,by rintro a ha b hb rfl; rw [Al] at hb; have hb:a=name:=hb; exact hi (hb▸ha)⟩⟩
  exact ⟨(),_,η,q,trivial,R',st _⟩
end
end
section
open Builtin Builtin.ObjectAttr
theorem Ia:Slot "method_descriptor" "__get__" "method_descriptor.__get__" :=.of (owner := "method_descriptor") (n := "__get__") (by rw [Gk,Fe]; kernel_rfl) (by decide +kernel) (by decide +kernel) (by decide +kernel)
 (by first | exact .inl (by decide +kernel) | exact .inr (by decide +kernel)) (by rw [E0]; kernel_rfl)
theorem Hk:Slot "wrapper_descriptor" "__get__" "wrapper_descriptor.__get__" :=.of (owner := "wrapper_descriptor") (n := "__get__") (by rw [Gk,Fe]; kernel_rfl) (by decide +kernel) (by decide +kernel) (by decide +kernel)
 (by first | exact .inl (by decide +kernel) | exact .inr (by decide +kernel)) (by rw [E0]; kernel_rfl)
theorem Ku:entryFor table "method_descriptor.__get__" = some Builtin.«method_descriptor.__get__»:=Dx (by kernel_rfl)
theorem HS:entryFor table "wrapper_descriptor.__get__" = some Builtin.«wrapper_descriptor.__get__»:=Dx (by kernel_rfl)
theorem Lg (a b c:Value):argsOk "method_descriptor.__get__" ⟨[a,b,c],[]⟩:=by unfold argsOk; kernel_rfl
theorem Ik (a b c:Value):argsOk "wrapper_descriptor.__get__" ⟨[a,b,c],[]⟩:=by unfold argsOk; kernel_rfl
theorem Lm:typeOf (.builtin "list.__len__")=pure (.type "wrapper_descriptor"):=by show builtinType _=_; rw [Ei]; kernel_rfl
theorem Kf:typeOf (.builtin "list.__init__")=pure (.type "wrapper_descriptor"):=by show builtinType _=_; rw [Ei]; kernel_rfl
theorem Ll:typeOf (.builtin "list.pop")=pure (.type "method_descriptor"):=by show builtinType _=_; rw [Ei]; kernel_rfl
noncomputable abbrev boundO (T id:String) (x:Addr):Obj:={ cls:=.type T,data:=.fields #[.builtin id,.ref x] }
section
variable {prog:Program} {w:World} {A:Around} {E:PV} {h:Heap} {g:Array GenState} {d:Drawn} {t:Nat} {os:OsState} {x C:Addr} {R:Result->Shared->Prop}
theorem RF (hi:Looks (model prog w) h (isInstance (.ref x) (.type "list")) true) (q:R (.ok (.ret (.ref h.objs.size))) ⟨h.push (boundO "method-wrapper" "list.__len__" x),g,d,t,os⟩) :
  codeAny (model prog w) A (.call (.builtin "wrapper_descriptor.__get__") ⟨[.builtin "list.__len__",.ref x,.ref C],[]⟩) R ⟨h,g,d,t,os⟩:=by
 refine (BV Hk.plain HS (Hk.check _ _ _ _ _ _ _ _ Lm (Ik _ _ _) ?_))
 have hi':Looks (model prog w) h (isInstance (.ref x) (.type (".".intercalate ("list.__len__".cutAt '.').dropLast))) true:=by
  rw [show ".".intercalate ("list.__len__".cutAt '.').dropLast = "list" by decide +kernel]; exact hi
 delta Builtin.«wrapper_descriptor.__get__»
 repeat lk
 exact q
theorem Pk (hi:Looks (model prog w) h (isInstance (.ref x) (.type "list")) true) (q:R (.ok (.ret (.ref h.objs.size))) ⟨h.push (boundO "method-wrapper" "list.__init__" x),g,d,t,os⟩) :
  codeAny (model prog w) A (.call (.builtin "wrapper_descriptor.__get__") ⟨[.builtin "list.__init__",.ref x,.ref C],[]⟩) R ⟨h,g,d,t,os⟩:=by
 refine (BV Hk.plain HS (Hk.check _ _ _ _ _ _ _ _ Kf (Ik _ _ _) ?_))
 have hi':Looks (model prog w) h (isInstance (.ref x) (.type (".".intercalate ("list.__init__".cutAt '.').dropLast))) true:=by
  rw [show ".".intercalate ("list.__init__".cutAt '.').dropLast = "list" by decide +kernel]; exact hi
 delta Builtin.«wrapper_descriptor.__get__»
 repeat lk
 exact q
theorem RE (hi:Looks (model prog w) h (isInstance (.ref x) (.type "list")) true) (q:R (.ok (.ret (.ref h.objs.size))) ⟨h.push (boundO "builtin_function_or_method" "list.pop" x),g,d,t,os⟩) :
  codeAny (model prog w) A (.call (.builtin "method_descriptor.__get__") ⟨[.builtin "list.pop",.ref x,.ref C],[]⟩) R ⟨h,g,d,t,os⟩:=by
 refine (BV Ia.plain Ku (Ia.check _ _ _ _ _ _ _ _ Ll (Lg _ _ _) ?_))
 have hi':Looks (model prog w) h (isInstance (.ref x) (.type (".".intercalate ("list.pop".cutAt '.').dropLast))) true:=by
  rw [show ".".intercalate ("list.pop".cutAt '.').dropLast = "list" by decide +kernel]; exact hi
 delta Builtin.«method_descriptor.__get__»
 repeat lk
 exact q
theorem Oz {so D:Addr} {l₀ l:List Value} {K:Frag} {name:Str} {tk:Tok} {id T gid:String} {Q:Fin->Shared->Prop}
  (hso:h.get? so=some { cls:=.type "super",dict:=none,data:=.fields #[.ref D,.ref x,.ref C],slots:=#[] }) (hno:Looks (model prog w) h (opaqueClassAbove (.ref C)) none)
  (hC:Looks (model prog w) h (mroOf (.ref C)) l₀) (hl:(l₀.dropWhile (· !=.ref D)).drop 1=l) (X:K.In h)
  (hf:alongIn K name l=some (some (.builtin id))) (hT:typeOf (.builtin id)=pure (.type T)) (hg:typeLookup (.type T) "__get__" = pure (some (.builtin gid))) (hxC:x≠C) (hn:(name==("__class__" : Str))=false)
  {v:Value} {s2:Shared} (hq:∀ R,R (.ok (.ret v)) s2->codeAny (model prog w) A (.call (.builtin gid) ⟨[.builtin id,.ref x,.ref C],[]⟩) R ⟨h,g,d,t,os⟩) (q:Q (.done (.ret v)) s2) :
  wpAny (model prog w) A (Builtin.«super.__getattribute__» ⟨[.ref so,.str name tk],[]⟩) Q E ⟨h,g,d,t,os⟩:=by
 have hne:(Value.ref x==Value.ref C)=false:=by simp [hxC]
 have hdt:({ cls:=.type "super",dict:=none,data:=.fields #[.ref D,.ref x,.ref C],slots:=#[] }:Obj).data=.fields #[.ref D,.ref x,.ref C]:=rfl
 have f0:(#[.ref D,.ref x,.ref C]:Array Value)[0]?=some (.ref D):=rfl
 have f1:(#[.ref D,.ref x,.ref C]:Array Value)[1]?=some (.ref x):=rfl
 have f2:(#[.ref D,.ref x,.ref C]:Array Value)[2]?=some (.ref C):=rfl
 have LT:Looks (model prog w) h (typeOf (.builtin id)) (.type T):=By hT
 have LG:Looks (model prog w) h (typeLookup (.type T) "__get__") (some (.builtin gid)):=By hg
 repeat (first
  | (with_reducible refine BF hso hdt f0 ?_) | (with_reducible refine BF hso hdt f1 ?_) | (with_reducible refine BF hso hdt f2 ?_)
  | (with_reducible refine ks_wpAny_notOpaque hno ?_)
  | (with_reducible refine Looks.at hC ?_; rw [hl])
  | (refine ks_forIn_along X (fun _ _=>rfl) rfl ?_ hf)
  | (with_reducible refine Looks.at LT ?_)
  | (with_reducible refine Looks.at LG ?_)
  | (simp only [hn,hne,Bool.or_false,BN,if_false])
  | wp_step
  | dsimp only)
 exact hq _ (Aa (Ad (Ad (Ad q))))
theorem KH {so D:Addr} {l₀ l:List Value} {K:Frag} {name:Str} {id T gid:String} {pl:Sem Bool} {Q:Value×List Value->Shared->Prop}
  (hso:h.get? so=some { cls:=.type "super",dict:=none,data:=.fields #[.ref D,.ref x,.ref C],slots:=#[] }) (hno:Looks (model prog w) h (opaqueClassAbove (.ref C)) none)
  (hC:Looks (model prog w) h (mroOf (.ref C)) l₀) (hl:(l₀.dropWhile (· !=.ref D)).drop 1=l) (X:K.In h)
  (hf:alongIn K name l=some (some (.builtin id))) (hT:typeOf (.builtin id)=pure (.type T)) (hg:typeLookup (.type T) "__get__" = pure (some (.builtin gid))) (hxC:x≠C) (hn:(name==("__class__" : Str))=false)
  {v:Addr} {s2:Shared} (hq:∀ A R,R (.ok (.ret (.ref v))) s2->codeAny (model prog w) A (.call (.builtin gid) ⟨[.builtin id,.ref x,.ref C],[]⟩) R ⟨h,g,d,t+1,os⟩) (q:Q (.ref v,[]) s2) :
  wpAny (model prog w) A (getMethod (.ref so) name pl) Q E ⟨h,g,d,t,os⟩:=by
 have hlk:=DZ.lookup
 have hcan:=PySem.F.ks_canon_super_ga
 have hTs:∀ t',(⟨h,g,d,t',os⟩:Shared).TypeIs (.ref so) "super" :=fun _=>⟨_,hso,rfl⟩
 refine Aa (Dg (hTs _) hlk ?_)
 show wpAny _ _ (if (Manifest.canonical "super.__getattribute__" != "object.__getattribute__")=true then _ else _) _ _ _
 rw [if_pos hcan]
 refine Aa (Aa (Eu (Ax (Aa (Fb (hTs _) (Aa (Bi hlk ?_)))))))
 show wpAny _ _ (getAttrByItsOwn (.ref so) (.str name t) (.type "super") (.builtin "super.__getattribute__") true false) _ _ _
 refine Aa (Bi (show (if onTheHeap (.type "super") then typeLookup (.type "super") "__getattr__" else pure none)=pure none from rfl) ?_)
 refine Aa (DX (Ax ?_))
 show wpAny _ _ (bindSpecial (.builtin "super.__getattribute__") (.ref so) >>=_) _ _ _
 refine Aa (Bi (DZ.bind _) ?_)
 refine AC (Q:=fun v' s'=>v'=.ref v∧s'=s2) (E:=fun _ _=>False)
  (CU DZ (hTs _) PySem.F.ks_entry_super_ga (Oz hso hno hC hl X hf hT hg hxC hn (hq _) ⟨_,rfl,rfl,rfl⟩) (PySem.F.ks_gaArgs_super _ _)) (fun v' s' hv=>?_) fun _ _ z=>z.elim
 obtain ⟨rfl,rfl⟩:=hv
 exact Ad (Ad q)
end
end
section
open Builtin Builtin.ObjectAttr Builtin.List
section
variable {prog:Program} {w:World} {A:Around} {E:PV} {h:Heap} {g:Array GenState} {d:Drawn} {t:Nat} {os:OsState} {x C b dx:Addr} {R:Result->Shared->Prop} {K:Frag} {items:Array Value} {n:Nat} {sl:Array (Option Value)}
theorem J7 {T id:String} {pos:List Value} (hT:(T == "method-wrapper" || T == "builtin_function_or_method")=true) (hb:h.get? b=some (boundO T id x)) (hc:Looks (model prog w) h (checkBoundCall id ⟨.ref x::pos,[]⟩) ())
  (hq:(Code.builtin id ⟨.ref x::pos,[]⟩).quiet=true) (q:codeAny (model prog w) A (.builtin id ⟨.ref x::pos,[]⟩) R ⟨h,g,d,t,os⟩):codeAny (model prog w) A (.call (.ref b) ⟨pos,[]⟩) R ⟨h,g,d,t,os⟩:=by
 refine Gm ?_
 show wpAny _ _ (callAny (.ref b) _) _ _ _
 refine Aa (wpAny_load hb ?_)
 dsimp only
 have e:((Value.type T==Value.type "method" || Value.type T==Value.type "builtin_function_or_method" || Value.type T==Value.type "method-wrapper")=true):=by
  rcases Bm.mp hT with q | q
  ·rw [beq_iff_eq.mp q]; decide
  ·rw [beq_iff_eq.mp q]; decide
 have e2:(Value.type T !=Value.type "method")=true:=by
  rcases Bm.mp hT with q | q
  ·rw [beq_iff_eq.mp q]; decide
  ·rw [beq_iff_eq.mp q]; decide
 rw [if_pos e]
 show wpAny _ _ (if (Value.type T !=Value.type "method")=true then _ else _) _ _ _
 rw [if_pos e2]
 refine Aa (hc.at ?_)
 exact Ad ⟨hq,q⟩
noncomputable abbrev accO (C dx:Addr) (items:Array Value) (n:Nat):Obj:={ cls:=.ref C,dict:=some dx,data:=.seq items n }
theorem Js:entryFor table "list.__len__" = some Builtin.«list.__len__»:=Dx (by kernel_rfl)
theorem Jk:entryFor table "list.__init__" = some Builtin.«list.__init__»:=Dx (by kernel_rfl)
theorem Sl (hx:h.get? x=some (accO C dx items n)) (q:R (.ok (.ret (.int items.size t))) ⟨h,g,d,t+1,os⟩):codeAny (model prog w) A (.builtin "list.__len__" ⟨[.ref x],[]⟩) R ⟨h,g,d,t,os⟩:=by
 refine B0 Js ?_
 delta Builtin.«list.__len__»
 repeat lk
 exact q
theorem P6 (hx:h.get? x=some (accO C dx #[] n)) (q:R (.ok (.ret .none)) ⟨h.update x (DA fun _=>#[]),g,d,t,os⟩):codeAny (model prog w) A (.builtin "list.__init__" ⟨[.ref x],[]⟩) R ⟨h,g,d,t,os⟩:=by
 refine B0 Jk ?_
 delta Builtin.«list.__init__»
 repeat (first | with_reducible refine EZ hx rfl ?_ (by rw [CB]; simp) (by rw [CB]; simp) | with_reducible refine wpAny_letGo ?_ | lk)
 exact q
theorem Sk {y:Value} (hx:h.get? x=some (accO C dx items n)) (hy:items[items.size - 1]?=some y) (hz:items.size≤2 ^ 20) (q:R (.ok (.ret y)) ⟨h.update x (DA fun xs=>xs.eraseIdxIfInBounds (items.size - 1)),g,d,t,os⟩) :
  codeAny (model prog w) A (.builtin "list.pop" ⟨[.ref x],[]⟩) R ⟨h,g,d,t,os⟩:=by
 refine B0 PySem.F.entry_list_pop ?_
 have hpos:0<items.size:=by
  rcases Nat.eq_zero_or_pos items.size with h0 | h0
  ·simp [h0] at hy
  ·exact h0
 have hne:¬items.isEmpty=true:=by
  intro he; have:items.size=0:=by simpa using he
  lia
 have hk:seqIndex? (-1) items.size=some (items.size - 1):=by
  rw [I6 (by decide) (by lia)]; exact congrArg some (Jb _)
 have hz':(items.eraseIdxIfInBounds (items.size - 1)).size≤sizeLine+1:=by have:=MeetsSeq.size_erased items (items.size - 1); rw [CB]; lia
 repeat (first | rw [if_neg hne] | lk)
 simp only [hk,hy,CE,E7]
 repeat (first | with_reducible refine EZ hx rfl ?_ (by rw [CB]; exact Ab (by assumption) (by decide)) hz' | lk)
 exact q
theorem Mu {y:Value} (hx:h.get? x=some (accO C dx items n)) (hz:items.size≤2 ^ 20) (q:R (.ok (.ret .none)) ⟨h.update x (DA fun xs=>xs.push y),g,d,t,os⟩) :
  codeAny (model prog w) A (.builtin "list.append" ⟨[.ref x,y],[]⟩) R ⟨h,g,d,t,os⟩:=by
 refine B0 PySem.F.entry_list_append ?_
 delta Builtin.«list.append»
 repeat (first | with_reducible refine EZ hx rfl ?_ (by rw [CB]; exact Ab (by assumption) (by decide)) (by rw [CB,Array.size_push]; lia) | lk)
 exact q
end
end
section
section
variable {G:Gb} {c:Cx} {σ:St}
inductive K7 (G:Gb) (c:Cx) (i:Nat) (D:Addr):Prop where
 | mk (f:Addr) (fd:FuncData) (oc:Value) (od:Option Addr) (osl:Array (Option Value)) (ar:Arg) (cda:Addr) (vs:Array Value) (file:Str) (tf:Tok) (oc':Value) (od':Option Addr) (osl':Array (Option Value)) (cc:Addr) (cl:Value) (cld:Option Addr) (csl:Array (Option Value)) (cdD:ClassData) (oD:Value) (dD:Option Addr) (sD:Array (Option Value))
  (h1:c.env.func=some f) (h2:G.K.lookup f=some ⟨oc,od,.func fd,osl⟩) (h3:(fd.params.posonlyargs++fd.params.args).head?=some ar) (h4:c.env.code=.ref cda)
  (h5:G.K.lookup cda=some ⟨oc',od',.fields vs,osl'⟩) (h6:vs[2]?=some (.str file tf)) (h7:((G.prog.main.file:Str)==file)=true) (h8:c.env.cells.lookup ("__class__" : Str)=some cc) (h9:G.K.lookup cc=some ⟨cl,cld,.cell (some (.ref D)),csl⟩) (h10:G.K.lookup D=some ⟨oD,dD,.cls cdD,sD⟩)
  (h11:c.ns[i]?=some (ar.arg,false)) (top:(G.prog.main.scope.names.lookup ("super" : Str)).isSome=false) (ks:c.env.kindOf "super" = some .globalImplicit) (kc:c.env.kindOf "__class__" = some .free)
  (sup:nsIn G.K mainGlobals "super" = some none) (opq:nsIn G.K cStatics "thirdparty.any" = some none):K7 G c i D
theorem K7.opq {i:Nat} {D:Addr} (h:K7 G c i D):nsIn G.K cStatics "thirdparty.any" = some none:=h.casesOn fun _ _ _ _ _ _ _ _ _ _ _ _ _ _ _ _ _ _ _ _ _ _ _ _ _ _ _ _ _ _ _ _ _ _ _ _ o=>o
theorem NO:bootBuiltins "super" = some (.type "super"):=by kernel_rfl
theorem Kl:("super" : Str) ≠ "__name__" :=by decide +kernel
theorem M7 {η:Et} {s:Shared} {body:List Stmt} {i:Nat} {D:Addr} {l d:Lb} {C:Addr} {xs:List AV} {p0 p1:Pos} {attr:Str} {whole:Sem Value} {Q:PV} {E:PV} {A:Around} (R:Rel G c η σ s) (hS:K7 G c i D) (hv:lg σ.loc i=some (.ref l)) (hl:σ.H l=some (.acc C xs d))
  (hsub:mroIn G.K C (.ref D)=some true) (hat:(attr==("__class__" : Str))=false)
  (q:∀ h',h'.get? s.heap.objs.size=some (ks_superObj D (η.ρ l) C)->(∀ b o,s.heap.get? b=some o->h'.get? b=some o)->Q (.ref s.heap.objs.size) { s with heap:=h' }) :
  EG (mo G) A (.func body c.env) (attributeBase (.Call (.Name "super" p0) [] [] p1) attr c.env whole) Q E s:=by
 obtain ⟨f,fd,oc,od,osl,ar,cda,vs,file,tf,oc',od',osl',cc,cl,cld,csl,cdD,oD,dD,sD,h1,h2,h3,h4,h5,h6,h7,h8,h9,h10,h11,top,ks,kc,sup,opq⟩:=hS
 have X:=R.K
 have hD1:=X _ _ h10
 obtain ⟨o,e,vsx,m,rfl,r,dd⟩:=R.heap l _ hl
 refine ks_wpAt_super_base ks kc hat h1 (X _ _ h2) rfl h3 h4 (X _ _ h5) rfl h6 h7 top ?_
 refine ks_loadName_global R.ok.kind ks (loadGlobal_builtin (by rw [R.ok.globals]; exact G.nsAt R.bk R.gok.g) (mg_none_of R.gok.X R.gok.g sup) (by rw [R.ok.builtins]; exact G.nsAt R.bk R.gok.b) ((R.gok.bb _ Kl).trans NO) ⟨rfl,?_⟩)
 refine wpAny_loadName_free R.ok.kind kc h8 ⟨_,X _ _ h9,rfl⟩ ?_
 refine R.load h11 hv fun v' hv'=>?_
 obtain ⟨rfl,dl⟩:=hv'.refE
 obtain ⟨hh,g,dr,t,os⟩:=s
 refine ks_wpAny_isType_cls hD1 rfl ⟨rfl,?_⟩
 exact ks_wpAny_call_super hD1 rfl e rfl (fun c q=>nomatch q) (Ca X hsub) fun h' e k=>q h' e k
noncomputable def WEat (G:Gb) (c:Cx) (body:List Stmt) (e:Expr) (σ:St) (Q:PA):Prop:=∀ η s,Rel G c η σ s->EG (mo G) c.A (.func body c.env) (eval e c.env) (Po G c VR η s Q) FF s
theorem WSat.ret {body rest:List Stmt} {e:Expr} {pos:Pos} {Q:PF} (h:WEat G c body e σ fun v σ1=>Q (.ret v) σ1):WSat G c body (.Return (some e) pos::rest) σ Q:=fun η s R =>
 F4 (ks_wpAt_Return_some (Fc (h η s R) (fun v' s1 ⟨v,σ1,η1,q,hv,R1,st1⟩=>⟨_,σ1,η1,q,.ret hv,R1,st1⟩) fun _ _ z=>z))
theorem WSat.expr {body rest:List Stmt} {e:Expr} {pos:Pos} {Q:PF} (h:WEat G c body e σ fun v σ1=>WSat G c body rest σ1 Q) (hs:swapsWith e Av pos.line c.env=pure false):WSat G c body (.Expr e pos::rest) σ Q:=fun η s R =>
 F4 (ks_wpAt_Expr_any (Fc (h η s R) (fun v' s1 ⟨v,σ1,η1,q,hv,R1,st1⟩=>Fc (q η1 s1 R1) (fun _ _ z=>z.back st1) fun _ _ z=>z) fun _ _ z=>z) (by unfold interactive; rw [R.ok.kind]; rfl) hs)
structure Ud (G:Gb) (C D:Addr) (name:Str) (id T B gid:String):Prop where
 cls:∃ cd,clsIn G.K C=some cd∧alongIn G.K name ((cd.mro.dropWhile (· !=.ref D)).drop 1)=some (some (.builtin id))
 ty:typeOf (.builtin id)=pure (.type T)
 get:typeLookup (.type T) "__get__" = pure (some (.builtin gid))
 sub:mroIn G.K C (.ref D)=some true
 li:mroIn G.K C (.type "list")=some true
 ne:(name==("__class__" : Str))=false
 bo:(B == "method-wrapper" || B == "builtin_function_or_method")=true
 bnd:∀ (A:Around) (h:Heap) (g:Array GenState) (d:Drawn) (t:Nat) (os:OsState) (x:Addr) (R:Result->Shared->Prop),Looks (mo G) h (isInstance (.ref x) (.type "list")) true->R (.ok (.ret (.ref h.objs.size))) ⟨h.push (boundO B id x),g,d,t,os⟩ →
  codeAny (mo G) A (.call (.builtin gid) ⟨[.builtin id,.ref x,.ref C],[]⟩) R ⟨h,g,d,t,os⟩
 chk:∀ (h:Heap) (x:Addr) (vs:Array Value) (n:Nat) (dx:Addr),G.K.In h->h.get? x=some (accO C dx vs n)->Looks (mo G) h (checkBoundCall id ⟨[.ref x],[]⟩) ()
 quiet:∀ as,(Code.builtin id as).quiet=true
theorem WEat.super {body:List Stmt} {i:Nat} {C D:Addr} {l d:Lb} {xs:List AV} {name:Str} {id T B gid:String} {p0 p1 apos pos:Pos} {Q:PA} (hS:K7 G c i D) (hM:Ud G C D name id T B gid) (hv:lg σ.loc i=some (.ref l)) (hl:σ.H l=some (.acc C xs d))
  (pl:Sem Bool) (he:eval (.Call (.Attribute (.Call (.Name "super" p0) [] [] p1) name apos) [] [] pos) c.env=(do
   let ov ← attributeBase (.Call (.Name "super" p0) [] [] p1) name c.env (eval (.Call (.Name "super" p0) [] [] p1) c.env)
   standAt apos.atName
   let (f,first) ← holding [ov] (getMethod ov name pl)
   callWith pos f first (backTo pos (starEach [] c.env)) []))
  (h:∀ η s,Rel G c η σ s->codeAny (mo G) c.A (.builtin id ⟨[.ref (η.ρ l)],[]⟩) (retP (Po G c VR η s Q)) s) :
  WEat G c body (.Call (.Attribute (.Call (.Name "super" p0) [] [] p1) name apos) [] [] pos) σ Q:=fun η s R=>by
 refine ks_wpAt_MethodCall (M7 R hS hv hl hM.sub hM.ne fun h1 e1 k1=>?_) he
 obtain ⟨cd,hcd,hal⟩:=hM.cls
 have R1:Rel G c η σ { s with heap:=h1,toks:=s.toks }:=R.ext k1
 have st1:Stp G c.own η η s { s with heap:=h1,toks:=s.toks }:=.ext k1
 obtain ⟨o,e,vsx,m,rfl,r,dd⟩:=R1.heap l _ hl
 obtain ⟨hh,g,dr,t,os⟩:=s
 obtain ⟨odx,ed⟩:=R1.labThere dd
 have I:InstAt h1 (η.ρ l) (accO C (η.ρ d) vsx m) C (some odx):=⟨e,rfl,rfl,ed⟩
 have X1:G.K.In h1:=R1.K
 have sub:Looks (mo G) h1 (isInstance (.ref (η.ρ l)) (.type "list")) true:=I.type.andThen (Ca X1 hM.li)
 have k2:∀ b o,h1.get? b=some o->(h1.push (boundO B id (η.ρ l))).get? b=some o:=Ho
 refine KH (l₀:=cd.mro) e1 (looks_opaque X1 hS.opq) (fun A Q E s k q=>Aa ((Eg X1 hcd) A _ E s k (Ad q))) rfl X1 hal hM.ty hM.get (ks_ne X1 I hcd) hM.ne
  (v:=h1.objs.size) (s2:=⟨h1.push (boundO B id (η.ρ l)),g,dr,t+1,os⟩) (fun A R' q=>hM.bnd A h1 g dr (t+1) os _ R' sub q) ?_
 have R2:Rel G c η σ ⟨h1.push (boundO B id (η.ρ l)),g,dr,t+1,os⟩:=R1.ext k2
 have st2:Stp G c.own η η ⟨h1,g,dr,t,os⟩ ⟨h1.push (boundO B id (η.ρ l)),g,dr,t+1,os⟩:=.ext k2
 have hb:(h1.push (boundO B id (η.ρ l))).get? h1.objs.size=some (boundO B id (η.ρ l)):=Ah _ rfl
 have kp:∃ k,(k=BQ∨k=Bv∨k=Bc)∧Looks (mo G) (h1.push (boundO B id (η.ρ l))) (keeperOf (.ref h1.objs.size)) k:=by
  refine ⟨.machine,.inr (.inl rfl),fun A Q E s k q=>?_⟩
  unfold keeperOf
  refine Aa (wpAny_load (k _ _ hb) ?_)
  dsimp only
  have e2:(Value.type B !=Value.type "method")=true:=by
   rcases Bm.mp hM.bo with q | q
   ·rw [beq_iff_eq.mp q]; decide
   ·rw [beq_iff_eq.mp q]; decide
  have e3:(Value.type B==Value.type "builtin_function_or_method" || Value.type B==Value.type "method-wrapper")=true:=by
   rcases Bm.mp hM.bo with q | q
   ·rw [beq_iff_eq.mp q]; decide
   ·rw [beq_iff_eq.mp q]; decide
  rw [if_pos e2,if_pos e3]
  exact Ad q
 refine Dh (P:=fun h=>∃ k,(k=BQ∨k=Bv∨k=Bc)∧Looks (mo G) h (keeperOf (.ref h1.objs.size)) k) rfl (fun _ x=>x) (Hz (pos:=pos) (es:=[]) (env:=c.env) rfl (Cv ⟨kp,?_⟩))
 refine AC (BL (Cu (J7 hM.bo hb (hM.chk _ _ vsx m (η.ρ d) R2.K (k2 _ _ e)) (hM.quiet _) (h η _ R2)) fun r s' z=>?_)) (fun v s' (z:Po G c VR η _ Q v s')=>z.back (st1.trans st2)) fun _ _ z=>z
 rcases r with e | f
 ·exact z
 ·cases f<;>exact z
end
end
section
theorem Sa (x:Addr):checkBoundCall "list.__len__" ⟨[.ref x],[]⟩=pure ():=by kernel_rfl
theorem Py (x:Addr):checkBoundCall "list.__init__" ⟨[.ref x],[]⟩=pure ():=by kernel_rfl
theorem Pe:builtinKind "list.pop" = some .method:=by decide +kernel
theorem QK:∃ sig,DK "list.pop" = some sig∧∀ (v:Value),ER "list.pop" { sig with full:=toString (A8 "_Accumulator").toString++toString "." ++toString (Bind.lastOf "list.pop") } ⟨[v],[]⟩=pure ():=⟨(DK "list.pop").get (by decide +kernel),(Option.some_get _).symm,fun v=>by kernel_rfl⟩
theorem RZ {M:Model} {K:Frag} {h:Heap} {C x dx:Addr} {vs:Array Value} {n:Nat} (X:K.In h) (hx:h.get? x=some (accO C dx vs n)) (hm:mroIn K C (.type "module")=some false) (ht:typeIn K (.ref C)=some (.type "type")) {cd:ClassData} (hc:clsIn K C=some cd) (hq:cd.qualname=A8 "_Accumulator"):Looks M h (checkBoundCall "list.pop" ⟨[.ref x],[]⟩) ():=by
 obtain ⟨sig,hs,ha⟩:=QK
 intro A Q E s k q
 unfold checkBoundCall
 rw [hs]
 rw [Pe]
 dsimp only
 have LT:Looks M h (typeOf (.ref x)) (.ref C):=(Looks.ld hx).andThen .now
 have L1:Looks M h (isInstance (.ref x) (.type "module")) false:=LT.andThen (Ca X hm)
 have L2:Looks M h (isType (.ref x)) false:=(Looks.ld (part:=some headPart) hx).andThen .now
 have L3:=Eg (M:=M) X hc
 have L4:=looks_typeIn (M:=M) X ht
 rw [if_neg (by decide)]
 refine Aa (L1 A _ E s k ?_)
 rw [if_neg (by decide +kernel)]
 refine Aa (L2 A _ E s k ?_)
 rw [if_neg (by decide)]
 refine Aa (LT A _ E s k ?_)
 refine Aa (L3 A _ E s k ?_)
 refine Aa (L4 A _ E s k ?_)
 rw [if_pos (by decide)]
 rw [hq,ha]
 exact Aa (Ad (Ad q))
end
section
section
variable {G:Gb} {c:Cx} {σ:St}
theorem Kb {h h':Heap} {x C dx:Addr} {vs:Array Value} {n:Nat} (f:Array Value->Array Value) (e:h.get? x=some (accO C dx vs n)):∃ n',(h.update x (DA f)).get? x=some (accO C dx (f vs) n'):=⟨_,BJ _ e rfl⟩
theorem Sg {l d:Lb} {C:Addr} {xs:List AV} {Q:PA} (hl:σ.H l=some (.acc C xs d)) (q:Q (.int xs.length) σ):∀ η s,Rel G c η σ s->codeAny (mo G) c.A (.builtin "list.__len__" ⟨[.ref (η.ρ l)],[]⟩) (retP (Po G c VR η s Q)) s:=fun η s R=>by
 obtain ⟨o,e,vs,m,rfl,r,dd⟩:=R.heap l _ hl
 have hz:=r.size
 obtain ⟨hh,g,dr,t,os⟩:=s
 refine Sl e ?_
 show Po G c VR η _ Q (.int vs.size t) _
 rw [← hz]
 exact .toks R q (.int ..)
theorem P1 {l d:Lb} {C:Addr} {Q:PA} (hl:σ.H l=some (.acc C [] d)) (q:Q .none σ):∀ η s,Rel G c η σ s->codeAny (mo G) c.A (.builtin "list.__init__" ⟨[.ref (η.ρ l)],[]⟩) (retP (Po G c VR η s Q)) s:=fun η s R=>by
 obtain ⟨o,e,vs,m,rfl,r,dd⟩:=R.heap l _ hl
 have hv:vs=#[]:=by have:=r.size; exact Array.eq_empty_of_size_eq_zero this.symm
 subst hv
 obtain ⟨hh,g,dr,t,os⟩:=s
 refine P6 e ?_
 obtain ⟨n',e'⟩:=Kb (fun _=>#[]) (h':=hh) e
 obtain ⟨R',st⟩:=R.setL (tk:=t) (ao:=.acc C [] d) hl (by intro q; contradiction) (A0 ..) e' ⟨_,n',rfl,.nil,dd⟩
 have hup:up σ.H l (.acc C [] d)=σ.H:=by funext y; unfold up; split<;>simp_all
 rw [hup] at R'
 exact ⟨_,σ,η,q,.rig _,R',st _⟩
theorem Sf {l d:Lb} {C:Addr} {xs:List AV} {x:AV} {Q:PA} (hl:σ.H l=some (.acc C xs d)) (hx:xs[xs.length - 1]?=some x) (hz:xs.length≤2 ^ 20) (q:Q x { σ with H:=up σ.H l (.acc C xs.dropLast d) }) :
  ∀ η s,Rel G c η σ s->codeAny (mo G) c.A (.builtin "list.pop" ⟨[.ref (η.ρ l)],[]⟩) (retP (Po G c VR η s Q)) s:=fun η s R=>by
 obtain ⟨o,e,vs,m,rfl,r,dd⟩:=R.heap l _ hl
 have z:=r.size
 obtain ⟨x',hx',hr⟩:=HF r hx
 obtain ⟨hh,g,dr,t,os⟩:=s
 refine Sk e (by rw [← z]; exact hx') (by lia) ?_
 obtain ⟨n',e'⟩:=Kb (fun xs=>xs.eraseIdxIfInBounds (vs.size - 1)) (h':=hh) e
 obtain ⟨R',st⟩:=R.setL (tk:=t) (ao:=.acc C xs.dropLast d) hl (by intro q; contradiction) (A0 ..) e' ⟨_,n',rfl,by
  rw [HR,← z,← F7]; exact r.eraseIdx,dd⟩
 exact ⟨_,_,η,q,hr,R',st _⟩
end
end
section
open Builtin
theorem I9 {M:Model} {A:Around} {E:PV} {s:Shared} {i owner n:String} {self:Value} {rest:List Value} {kw:List (Str×Value)} {Q:Unit->Shared->Prop}
  (hk:builtinKind i=some .method) (hs:splitId i=some (owner,n)) (hi:Looks M s.heap (isInstance self (.type owner)) true) (ha:argsOk i ⟨self::rest,kw⟩) (q:Q () s) :
  wpAny M A (checkBuiltinCall i ⟨self::rest,kw⟩) Q E s:=by
 rw [checkBuiltinCall,hk,hs]
 refine Aa (hi.here ?_)
 rw [if_neg (by decide)]
 cases hsig:DK i with
 | none=>exact Ad q
 | some sig =>
  simp only [argsOk,hsig] at ha
  have h2:ER i sig ⟨self::rest,kw⟩=pure ():=ha
  show wpAny M A (ER i sig ⟨self::rest,kw⟩) Q E s
  rw [h2]; exact Ad q
section
variable {G:Gb} {c:Cx} {σ:St}
theorem Rel.accI {η:Et} {s:Shared} (R:Rel G c η σ s) {l d:Lb} {C:Addr} {xs:List AV} (hl:σ.H l=some (.acc C xs d)):Ex3 fun vs m od=>An3 (InstAt s.heap (η.ρ l) (accO C (η.ρ d) vs m) C (some od)) (VRs η xs vs.toList) (η.D d):=by
 obtain ⟨o,e,vs,m,rfl,r,dd⟩:=R.heap l _ hl
 obtain ⟨od,ed⟩:=R.labThere dd
 exact ⟨vs,m,od,⟨e,rfl,rfl,ed⟩,r,dd⟩
theorem WV.appendA {l d:Lb} {C:Addr} {xs:List AV} {x:AV} {Q:PA} (hl:σ.H l=some (.acc C xs d)) (hli:mroIn G.K C (.type "list")=some true) (hz:xs.length≤2 ^ 20) (q:Q .none { σ with H:=up σ.H l (.acc C (xs++[x]) d) }):WV G c (.rig (.builtin "list.append")) [.ref l,x] σ Q:=fun η s f' vs' R hf hvs=>by
 obtain rfl:=hf.rigE
 obtain ⟨_,_,rfl,hv,hx⟩:=hvs.E2
 ·
   obtain ⟨rfl,dl⟩:=hv.refE
   ·
    obtain ⟨vs,m,od,I,r,dd⟩:=R.accI hl
    have z:=r.size
    refine BL (Dw (DY Em.plain _) (I9 (n := "append") (by decide +kernel) (by decide +kernel) (I.type.andThen (Ca R.K hli)) (Fg _ _) ?_))
    obtain ⟨hh,g,dr,t,os⟩:=s
    refine Mu I.at_ (by lia) ?_
    obtain ⟨n',e'⟩:=Kb (fun xs=>xs.push _) (h':=hh) I.at_
    obtain ⟨R',st⟩:=R.setL (tk:=t) (ao:=.acc C (xs++[x]) d) hl (by intro q; contradiction) (A0 ..) e' ⟨_,n',rfl,by rw [D7]; exact r.append (.cons hx .nil),dd⟩
    exact ⟨_,_,η,q,.rig _,R',st _⟩
end
end
section
open Builtin
set_option maxHeartbeats 1000000
structure MkA (M:Model) (h:Heap) (C:Addr):Prop where
 obj:Ex4 fun oc od cd sl=>An3 (h.get? C=some ⟨oc,od,.cls cd,sl⟩) (cd.hasDel=false) (cd.mro.isEmpty=false)
 made:Looks M h (Bind.madeBy (.ref C)) (some "list.__new__")
 base:Looks M h (Bind.staticBase (.ref C)) (.ref C)
 self:Looks M h (isSubtype (.ref C) (.ref C)) true
 top:Looks M h (isSubtype (.ref C) (.type "list")) true
 call:Looks M h (specialOf (.ref C) "__call__") (some (.builtin "type.__call__"))
 typ:Looks M h (isInstance (.ref C) (.type "type")) true
noncomputable def mkAIn (K:Frag) (C:Addr):Bool:=match K.lookup C with
 | some ⟨_,_,.cls cd,sl⟩=>!cd.hasDel&&(sl.toList[4]?).join==some (.builtin "list.__new__")&&!cd.mro.isEmpty&&cd.mro.contains (.ref C)&&cd.mro.contains (.type "list") &&
   specialIn K (.ref C) "__call__" ==some (some (.builtin "type.__call__"))&&instIn K (.ref C) (.type "type")==some true
 | _=>false
set_option tactic.hygienic true in
theorem Tz {K:Frag} {M:Model} {h:Heap} (X:K.In h) {C:Addr} (e:mkAIn K C=true):MkA M h C:=by
 unfold mkAIn at e
 split at e
 ·rename_i oc od cd sl ho
  simp only [AF,Bz,beq_iff_eq] at e
  obtain ⟨⟨⟨⟨⟨⟨e2,e3⟩,e4⟩,e5⟩,e6⟩,e7⟩,e8⟩:=e
  have hc:clsIn K C=some cd:=by unfold clsIn; rw [ho]
  have hm:Looks M h (mroOf (.ref C)) cd.mro:=(Eg X hc).andThen .now
  obtain ⟨c,l,hl⟩:Ex2 fun c l=>cd.mro=c::l:=by cases q:cd.mro with | nil=>rw [q] at e4; cases e4 | cons c l=>exact ⟨c,l,rfl⟩
  have made:Looks M h (Bind.madeBy (.ref C)) (some "list.__new__"):=by
   intro A Q E s k q
   refine Aa (hm A _ E s k ?_)
   rw [hl,EJ]
   refine Aa (Aa (Aa (Aa (Dv (k _ _ (X _ _ ho)) (Ad ?_)))))
   rw [← CV,e3]
   exact Ad (Ad (Ad q))
  refine ⟨⟨oc,od,cd,sl,X _ _ ho,e2,e4⟩,made,?_,Ca X ?_,Ca X ?_,looks_specialIn X e7,looks_instIn X e8⟩
  ·intro A Q E s k q
   refine Aa (hm A _ E s k ?_)
   rw [hl,EJ]
   exact Aa (Aa (Aa (made A _ E s k (Ad (Ad (Ad q))))))
  ·unfold mroIn; rw [hc,CE,if_neg (by rw [e4]; decide),e5]
  ·unfold mroIn; rw [hc,CE,if_neg (by rw [e4]; decide),e6]
 ·exact ff e
theorem Ri:builtinKind "list.__new__" = some .builtinFn:=by decide +kernel
theorem OT:splitId "list.__new__" = some ("list", "__new__"):=by decide +kernel
theorem Rj (a b:Value):argsOk "list.__new__" ⟨[a,b],[]⟩:=by unfold argsOk; kernel_rfl
section
variable {prog:Program} {w:World} {A:Around} {K:Frag} {C:Addr} {R:Result->Shared->Prop} {h:Heap} {g:Array GenState} {d:Drawn} {t:Nat} {os:OsState}
set_option tactic.hygienic true in
theorem newA {a:Value} (Y:MkA (model prog w) h C) (hq:R (.ok (.ret (.ref (h.objs.size+1)))) ⟨(h.push emptyDict).push (accO C h.objs.size #[] 0),g,d,t,os⟩) :
  codeAny (model prog w) A (.call (.builtin "list.__new__") ⟨[.ref C,a],[]⟩) R ⟨h,g,d,t,os⟩:=by
 obtain ⟨⟨oc,od,cd,sl,hC,e2,e4⟩,made,base,self,top,call,typ⟩:=Y
 refine Dw (DY FO _) ?_
 have ty:Looks (model prog w) h (isType (.ref C)) true:=(Looks.ld (part:=some headPart) hC).andThen .now
 have ha:(match DK "list.__new__" with | some sig=>ER "list.__new__" sig ⟨[.ref C,a],[]⟩ | _=>pure ())=pure ():=by
  have:=Rj (.ref C) a
  unfold argsOk at this
  split<;>rename_i q
  ·rw [q] at this; exact this
  ·rfl
 simp only [checkBuiltinCall,Ri,OT,ha]
 rw [if_pos (by decide)]
 refine Aa (ty.at ?_)
 rw [if_neg (by decide)]
 refine Aa (top.at ?_)
 rw [if_neg (by decide)]
 refine Aa (base.at (Aa (made.at ?_)))
 dsimp only [bne_self_eq_false,BN,if_false]
 refine Ad ?_
 refine codeAny_builtin_stack PySem.F.entry_list_new rfl fun p st=>?_
 rw [EL FO _]
 have hown:=owner_list_new
 simp only [hown]
 refine Aa (ty.at ?_)
 rw [if_neg (by decide)]
 refine Aa (top.at ?_)
 rw [if_neg (by decide)]
 repeat lk
 refine nd_load (AD _ (AD _ hC)) ?_
 refine Ad ?_
 refine Ad ?_
 simp only [e2]
 simp only [BN,if_false]
 refine Ad (Ad ?_)
 show R _ _
 rw [Co]
 exact hq
theorem Mi {a init:Value} (Y:MkA (model prog w) h C) (hi:Looks (model prog w) h (typeLookup (.ref C) "__init__") (some init))
  (hb:∀ self,Looks (model prog w) h (bindSpecial init self) (init,[self]))
  (hq:codeAny (model prog w) (A.under (.builtin "type.__call__" ⟨[.ref C,a],[]⟩)) (.call init ⟨[.ref (h.objs.size+1),a],[]⟩) (InitBack (h.objs.size+1) R) ⟨(h.push emptyDict).push (accO C h.objs.size #[] 0),g,d,t,os⟩) :
  codeAny (model prog w) A (.call (.ref C) ⟨[a],[]⟩) R ⟨h,g,d,t,os⟩:=by
 have Y':=Y
 obtain ⟨⟨oc,od,cd,sl,hC,e2,e4⟩,made,base,self,top,call,typ⟩:=Y
 refine Gm ?_
 refine nd_load hC ?_
 show wpAny _ _ (callAny.viaDunder (.ref C) _) _ _ _
 refine Aa (call.at ?_)
 dsimp only
 simp only [tc_bind]
 refine Aa (Ad (Aa (Ad ?_)))
 refine Ad (a:=Fin.again (.call (.builtin "type.__call__") ⟨[.ref C,a],[]⟩)) (And.intro rfl ?_)
 refine codeAny_call_builtin_at (CT _ (by decide +kernel)) entry_typeCall (FG tc_kind tc_split typ (tc_args _ _ _) ?_)
 have hm:Looks (model prog w) h (mroOf (.ref C)) cd.mro:=((Looks.ld (part:=none) hC).andThen .now).andThen .now
 repeat (first | simp only [e4,BN,if_false] | with_reducible refine BL ?_ | lk)
 refine newA Y' ?_
 have k:∀ b o,h.get? b=some o->((h.push emptyDict).push (accO C h.objs.size #[] 0)).get? b=some o:=fun b o e=>AD _ (AD _ e)
 have hx:((h.push emptyDict).push (accO C h.objs.size #[] 0)).get? (h.objs.size+1)=some (accO C h.objs.size #[] 0):=by
  have:=Ah (h.push emptyDict) (o:=accO C h.objs.size #[] 0) rfl
  rw [Co] at this; exact this
 have t1:Looks (model prog w) ((h.push emptyDict).push (accO C h.objs.size #[] 0)) (typeOf (.ref (h.objs.size+1))) (.ref C):=(Looks.ld hx).andThen .now
 have s1:=self.keeps k
 have i1:=hi.keeps k
 have b1:=(hb (.ref (h.objs.size+1))).keeps k
 repeat (first | with_reducible refine BL ?_ | lk)
 refine Cu hq fun r s' z=>?_
 rcases r with e | (v | _ | _ | _)<;>first | exact z | exact z.elim | skip
 obtain ⟨rfl,z⟩:=z
 exact Ad (Ad z)
end
section
variable {G:Gb} {c:Cx} {σ:St}
theorem WV.makeA {C fI:Addr} {l d:Lb} {v:AV} {k:Nat} {Q:PA} (hm:mkAIn G.K C=true) (hi:findIn G.K (.ref C) "__init__" = some (some (.ref fI))) (hf:typeIn G.K (.ref fI)=some (.type "function")) (hl:σ.H l=none) (hd:σ.H d=none) (ne:l≠d)
  (hk:k+1≤c.k) (hh:c.hd=false) (h:WC G k (.ref fI) [.ref l,v] (up (up σ.H d (.attrs [])) l (.acc C [] d)) fun v H'=>v=.none∧Q (.ref l) { σ with H:=H' }):WV G c (.rig (.ref C)) [v] σ Q:=fun η s f' vs' R hf' hvs=>by
 obtain rfl:=hf'.rigE
 obtain ⟨v',rfl,hv⟩:=hvs.E1
 obtain ⟨hp,g,dr,t,os⟩:=s
 obtain ⟨R1,st1⟩:=R.addL (h':=hp.push emptyDict) (tk:=t) (a:=hp.objs.size) (o:=emptyDict) (l:=d) (ao:=.attrs []) Ho H9 (Ah _ rfl) R.sizeLe hd ⟨#[],0,rfl,.nil,.nil⟩
 have dd:(η.addL d hp.objs.size).D d:=.inl rfl
 have ρd:(η.addL d hp.objs.size).ρ d=hp.objs.size:=if_pos rfl
 have hl1:up σ.H d (.attrs []) l=none:=(Ha _ _ ne).trans hl
 obtain ⟨R2,st2⟩:=R1.addL (h':=(hp.push emptyDict).push (accO C hp.objs.size #[] 0)) (tk:=t) (a:=hp.objs.size+1) (o:=accO C hp.objs.size #[] 0) (l:=l) (ao:=.acc C [] d) Ho (Ht (by show (hp.push _).objs.size≤_; rw [Co]; exact Ak _))
  (by have:=Ah (hp.push emptyDict) (o:=accO C hp.objs.size #[] 0) rfl; rw [Co] at this; exact this) (by have:=R.sizeLe; show _≤hp.objs.size+1; have this:G.h₀.objs.size≤hp.objs.size:=this; exact AK (by assumption)) hl1 (by
   refine ⟨#[],0,?_,.nil,.inr dd⟩
   have:((η.addL d hp.objs.size).addL l (hp.objs.size+1)).ρ d=hp.objs.size:=by
    show (if d=l then _ else _)=_
    rw [if_neg (Dc ne)]; exact ρd
   rw [this])
 obtain ⟨u1,u2,u3,u4⟩:=J9 c.A C [v']
 have ok:=R.ok.at (A:=c.A.under (.builtin "type.__call__" ⟨[.ref C,v'],[]⟩)) (k:=c.k - 1) u1 u2 (NC hk u3) (M4 hk u4)
 refine BL (Mi (Tz R.K hm) (BG R.K hi) (fun self=>bind_fn R.K self hf) ?_)
 have ρl:((η.addL d hp.objs.size).addL l (hp.objs.size+1)).ρ l=hp.objs.size+1:=if_pos rfl
 have vl:VR ((η.addL d hp.objs.size).addL l (hp.objs.size+1)) (.ref l) (.ref (hp.objs.size+1)):=by
  have:=VR.ref (η:=(η.addL d hp.objs.size).addL l (hp.objs.size+1)) (l:=l) (.inl rfl)
  rw [ρl] at this; exact this
 have st:=(st1 c.own).trans (st2 c.own)
 refine Cu (h (c.at (c.A.under (.builtin "type.__call__" ⟨[.ref C,v'],[]⟩)) (c.k - 1)) (B6 hk) hh _ _ _ [.ref (hp.objs.size+1),v'] (R2.re ok) rfl (.cons vl (.cons (hv.mono st.le) .nil))) fun r s' z=>?_
 rcases r with e | f
 ·exact z
 ·cases f with
  | ret v =>
   obtain ⟨v,σ3,η3,⟨e3,rfl,q3⟩,x,R3,st3⟩:=Po.un z R.ok
   obtain rfl:=x.rigE
   refine ⟨rfl,.ref l,σ3,η3,?_,vl.mono st3.le,R3,st.trans st3⟩
   have:σ3={ σ with H:=σ3.H }:=by
    have e3:σ3.loc=σ.loc:=e3
    rw [← e3]
   rw [this]; exact q3
  | _=>exact z
end
end
section
open Builtin Builtin.List
section
variable {prog:Program} {w:World} {A:Around} {E:PV} {h:Heap} {g:Array GenState} {d:Drawn} {t:Nat} {os:OsState} {x C dx:Addr} {K:Frag} {items:Array Value} {n:Nat} {s:Shared} {ox:Obj} {od:Option Obj}
theorem I5 {id:String} {name:Str} {args:List Value} {Q:Option Value->Shared->Prop} (X:K.In s.heap) (I:InstAt s.heap x ox C od) (hf:findIn K (.ref C) name=some (some (.builtin id))) (slot:Slot "list" name id)
  (h:wpAny (model prog w) A (call (.builtin id) (.ref x::args)) (fun v s'=>Q (some v) s') E s):wpAny (model prog w) A (callSpecial? (.ref x) name args) Q E s:=by
 refine Aa (Aa (I.type _ _ _ _ (fun _ _ e=>e) (BG X hf _ _ _ _ (fun _ _ e=>e) (Ax ?_))))
 rw [slot.bind]
 exact Aa (Ad (Aa (AC h (fun v s' z=>Ad z) fun _ _ z=>z)))
theorem Ol {k:Value} {name:Str} {Q:PV} {cd:ClassData} (X:K.In s.heap) (I:InstAt s.heap x ox C od) (hc:clsIn K C=some cd) (hm:cd.mro=[.ref C,.type "list",.type "object"]) (q:Q k s) :
  wpAny (model prog w) A (sequenceKey (.ref x) k name) Q E s:=by
 obtain ⟨h,g,d,t,os⟩:=s
 have L0:=I.type (M:=model prog w)
 have Ls:∀ n,n ≠ "list" → n ≠ "object" → Looks (model prog w) h (isSubtype (.ref C) (.type n)) false:=fun n h1 h2=>Ca X (by unfold mroIn; rw [hc,CE,hm]; simp [h1,h2])
 refine Aa (L0.at ?_)
 dsimp only
 have la:Looks (model prog w) h (seqItemTypes.anyM fun n=>isSubtype (.ref C) (.type n)) false:=by
  unfold seqItemTypes
  repeat (first | refine Looks.andThen (Ls _ (by decide) (by decide)) ?_ | dsimp only)
  exact .now
 refine Aa (la.at ?_)
 simp only [Bool.not_false,if_true]
 exact Ad q
end
end
section
open Builtin Builtin.List
noncomputable def pickL (xs:List AV) (lo hi st:Option Int):List AV:=(sliceRange (sliceBounds lo hi st xs.length).1 (sliceBounds lo hi st xs.length).2.1 (sliceBounds lo hi st xs.length).2.2).filterMap (xs[·]?)
theorem VRs.places {η:Et} {xs:List AV} {vs:List Value} (h:VRs η xs vs) (js:List Nat):VRs η (js.filterMap (xs[·]?)) (js.filterMap (vs[·]?)):=by
 induction js with
 | nil=>exact .nil
 | cons j js ih =>
  rw [Ct,Ct]
  cases e:xs[j]? with
  | some x =>
   obtain ⟨v,a,b⟩:=h.get e
   rw [a]; exact .cons b ih
  | none =>
   rw [Bg.mpr (h.length▸Bg.mp e)]; exact ih
theorem VRs.pick {η:Et} {xs:List AV} {vs:Array Value} (h:VRs η xs vs.toList) (lo hi st:Option Int):VRs η (pickL xs lo hi st) (slicePick vs lo hi st).toList:=by
 have:=h.places (sliceRange (sliceBounds lo hi st xs.length).1 (sliceBounds lo hi st xs.length).2.1 (sliceBounds lo hi st xs.length).2.2)
 unfold pickL slicePick
 rw [h.size] at this ⊢
 simpa using this
theorem HH (xs:List AV) (a b:Nat) (hb:b≤xs.length) (hab:a≤b) {lo hi:Option Int} (e:sliceBounds lo hi none xs.length=((a:Int),(b:Int),1)):pickL xs lo hi none=(xs.drop a).take (b - a):=by
 unfold pickL
 rw [e]
 rw [sliceRange_one]
 have:=pick_run xs.toArray a (b - a)
 simpa using this
theorem Iw (xs:List AV) (a:Nat):pickL xs (some (a:Int)) none none=xs.drop a:=by
 by_cases h:a≤xs.length
 ·rw [HH xs a xs.length (Ak _) h]
  ·rw [AR (by simp)]
  ·simp only [sliceBounds,BO]
   simp only [show (1:Int)>0 by decide,if_true]
   congr 1
   exact Ky h
 ·rw [HH xs xs.length xs.length (Ak _) (Ak _),E5,List.drop_of_length_le (Ay (DS.mp h))]
  ·simp
  ·simp only [sliceBounds,BO]
   simp only [show (1:Int)>0 by decide,if_true]
   congr 1
   exact (LR ..).trans (by rw [Ce (Ay (DS.mp h))])
theorem OF (xs:List AV) (b:Nat):pickL xs none (some (b:Int)) none=xs.take b:=by
 by_cases h:b≤xs.length
 ·rw [HH xs 0 b h (A4 _)]
  ·simp
  ·simp only [sliceBounds,BO]
   simp only [show (1:Int)>0 by decide,if_true]
   congr 2
   exact Ky h
 ·rw [HH xs 0 xs.length (Ak _) (A4 _),AR (l:=xs) (i:=b) (Ay (DS.mp h))]
  ·simp
  ·simp only [sliceBounds,BO]
   simp only [show (1:Int)>0 by decide,if_true]
   congr 2
   exact (LR ..).trans (by rw [Ce (Ay (DS.mp h))])
theorem ML (xs:List AV) (a b:Nat) (hb:b≤xs.length) (hab:a≤b):pickL xs (some (a:Int)) (some (b:Int)) none=(xs.drop a).take (b - a):=by
 rw [HH xs a b hb hab]
 simp only [sliceBounds,BO]
 simp only [show (1:Int)>0 by decide,if_true]
 congr 1
 ·exact Ky (Ab hab hb)
 ·congr 1; exact Ky hb
theorem JK (xs:List AV):pickL xs none (some (-1)) none=xs.dropLast:=by
 cases h:xs with
 | nil=>rfl
 | cons y ys =>
  rw [← h]
  have hl:0<xs.length:=by rw [h]; simp
  rw [HH xs 0 (xs.length - 1) (by exact Bp ..) (A4 _),List.dropLast_eq_take]
  ·simp
  ·simp only [sliceBounds,BO]
   simp only [show (1:Int)>0 by decide,if_true]
   congr 2
   exact TK hl
theorem Ig {α:Type} (xs:List α):((A5 xs.length).map fun i=>xs.length - 1 - i).filterMap (xs[·]?)=xs.reverse:=by
 apply Fw
 intro i
 have:((A5 xs.length).map fun i=>xs.length - 1 - i).filterMap (xs[·]?)=((A5 xs.length).attach.map fun i=>xs[xs.length - 1 - i.1]'(Kh (BB.mp i.2))):=by
  simp only [AP]
  rw [← List.filterMap_eq_map]
  conv=>lhs; simp only [← List.attach_map_subtype_val (A5 xs.length)]
  simp only [AP]
  congr 1
  funext i
  have:=BB.mp i.2
  simp only [Function.comp_apply]
  rw [Ac (Kh this)]
 rw [this]
 by_cases h:i<xs.length
 ·simp only [EI h]
  simp [h]
 ·rw [BI (by simp; exact Bh.mp (by assumption)),BI (by simp; exact Bh.mp (by assumption))]
theorem MK (xs:List AV):pickL xs none none (some (-1))=xs.reverse:=by
 unfold pickL
 have e:sliceBounds none none (some (-1)) xs.length=((xs.length:Int) - 1,-1,-1):=rfl
 rw [e]
 dsimp only
 have e2:sliceRange ((xs.length:Int) - 1) (-1) (-1)=(A5 xs.length).map fun i=>xs.length - 1 - i:=by
  unfold sliceRange
  rw [if_neg (by decide)]
  by_cases h:(xs.length:Int) - 1>-1
  ·simp only [h,if_true]
   have:((xs.length:Int) - 1 - -1 - -1 - 1) / (- -1)=xs.length:=by simp only [show (- -1:Int)=1 from rfl,EO]; lia
   simp only [this,Aw]
   apply Cq
   exact fun k _=>Mg ..
  ·have:xs.length=0:=by lia
   simp [this]
 rw [e2]
 exact Ig xs
section
variable {G:Gb} {c:Cx} {σ:St}
noncomputable def WP (G:Gb) (c:Cx) (e:Option Expr) (σ:St) (Q:Option Int->St->Prop):Prop:=∀ η s,Rel G c η σ s->wpAny (mo G) c.A (evalPart e c.env) (Po G c (fun _ k v=>IsPart v k) η s Q) FF s
theorem WP.none {Q:Option Int->St->Prop} (q:Q none σ):WP G c none σ Q:=fun η s R=>by
 rw [evalPart_none]; exact Ad (.here R q .none)
theorem WP.some {e:Expr} {Q:Option Int->St->Prop} (h:WE G c e σ fun v σ1=>∃ i,v=.int i∧Q (some i) σ1):WP G c (some e) σ Q:=fun η s R=>by
 refine AC (h η s R) (fun v' s1 ⟨v,σ1,η1,⟨i,e,q⟩,hv,R1,st1⟩=>?_) fun _ _ z=>z
 subst e
 obtain ⟨_,rfl⟩:=hv.intE
 exact ⟨_,σ1,η1,q,.int ..,R1,st1⟩
theorem WE.slice {lo up st:Option Expr} {p:Pos} {Q:PA} (h:WP G c lo σ fun a σ1=>WP G c up σ1 fun b σ2=>WP G c st σ2 fun k σ3=>Q (.slc a b k) σ3):WE G c (.Slice lo up st p) σ Q:=fun η s R =>
 wpAny_Slice (wb (h η s R) fun a' a σ1 η1 s1 h1 ha R1 st1=>wb (h1 η1 s1 R1) fun b' b σ2 η2 s2 h2 hb R2 st2=>wb (h2 η2 s2 R2) fun k' k σ3 η3 s3 h3 hk R3 st3 =>
  (R3.newZ (tk:=s3.toks) Ho H9 (Ah _ rfl) (.slc ha hb hk (if_pos rfl)) h3).back (st1.trans (st2.trans st3)))
theorem WB.sliceL {v:AV} {xs:List AV} {lo hi st:Option Int} {Q:PA} (hl:isL σ v xs) (h0:st≠some 0) (hz:xs.length≤2 ^ 20) (q:NewL (pickL xs lo hi st) σ Q):WB G c VR getItem v (.slc lo hi st) σ Q:=fun η s a' b' R ha hb=>by
 obtain ⟨ad,vs,n,rfl,e,r⟩:=R.list hl ha
 obtain ⟨_,_,_,_,rfl,pl,pu,pst,z⟩:=hb.slcE
 ·
  have hlen:=r.size
  refine wpAny_getItem_list_slice ⟨_,e,rfl,n,rfl⟩ ⟨_,R.frz _ _ z,rfl,rfl⟩ pl pu pst h0 ?_ (by unfold sizeLine; lia)
  exact R.newL (tk:=s.toks) Ho H9 R.sizeLe (Ah _ rfl) (r.pick ..) q
theorem WE.subS {o i:Expr} {pos:Pos} {Q:PA} (h:WE G c o σ fun v σ1=>WE G c i σ1 fun k σ2=>WB G c VR getItem v k σ2 Q∧NoPyAt G v σ2)
  (hs:∀ a b,∃ l,subscripted i false a b=operate l (getItem a b)):WE G c (.Subscript o i pos) σ Q:=fun η s R=>by
 show wpAny (mo G) c.A (do
  let o' ← eval o c.env
  let i' ← holding [o'] (eval i c.env)
  standAt pos
  let r ← subscripted i (← getitemInPython o') o' i'
  letTemporaryGo o o' r
  pure r) _ _ s
 refine Aa (wb (h η s R) fun v' v σ1 η1 s1 h1 hv R1 st1=>Aa (Ax (wb (h1 η1 s1 R1) fun k' k σ2 η2 s2 h2 hk R2 st2=>Aa (Bu ?_))))
 obtain ⟨h2,np⟩:=h2
 refine Aa (np c η2 s2 v' R2 (hv.mono st2.le) _ _ _ ?_)
 obtain ⟨l,hs⟩:=hs v' k'
 rw [hs]
 refine Aa (G4 (wb (h2 η2 s2 v' k' R2 (hv.mono st2.le) hk) fun r' r σ3 η3 s3 h3 hr R3 st3=>Aa (wpAny_letTemporaryGo (Ad ?_))))
 exact ⟨r,σ3,η3,h3,hr,R3,(st1.trans st2).trans st3⟩
end
section
variable {prog:Program} {w:World} {A:Around} {E:PV} {h:Heap} {g:Array GenState} {d:Drawn} {t:Nat} {os:OsState} {x C dx:Addr} {items:Array Value} {n:Nat} {R:Result->Shared->Prop}
theorem P5 {k:Int} {tt:Tok} {y:Value} (hx:h.get? x=some (accO C dx items n)) (h0:0≤k) (hf:k<2 ^ 63) (hy:items[k.toNat]?=some y) (q:R (.ok (.ret y)) ⟨h,g,d,t,os⟩) :
  codeAny (model prog w) A (.builtin "list.__getitem__" ⟨[.ref x,.int k tt],[]⟩) R ⟨h,g,d,t,os⟩:=by
 refine B0 entry_list_getitem ?_
 show wpAny _ _ (CJ (.int k tt) >>=_) _ _ _
 refine Aa (GX (fitsIndex_of h0 hf) ?_)
 clear hf
 obtain ⟨j,rfl⟩:=Gw h0
 have hx':items[j]?=some y:=hy
 refine Aa (Aa (wpAny_seqItemAt hx rfl (Ad ?_)))
 rw [hx']
 exact Ad q
theorem Kg {i:Value} {s:Shared} {Q:Option Int->Shared->Prop} {sl:Addr} (hTs:s.TypeIs (.ref sl) "slice") (q:Q none s):wpAny (model prog w) A (listSubscript? (.ref sl)) Q E s:=by
 refine Aa (Dg hTs slice_no_index ?_)
 dsimp only [Option.isNone_none,if_true]
 exact Ad q
theorem IT {s:Shared} {sl:Addr} {vl vu vs:Value} {lo hi st:Option Int} {Q:Value×Value×Value->Shared->Prop} (hs:s.heap.IsSliceOf sl vl vu vs) (pl:IsPart vl lo) (pu:IsPart vu hi) (ps:IsPart vs st) (h0:st≠some 0)
  (q:Q (rawPart lo,rawPart hi,rawPart st) s):wpAny (model prog w) A (listSliceParts (.ref sl)) Q E s:=by
 obtain ⟨os,hos,hcs,hds⟩:=id hs
 rw [listSliceParts_eq]
 have hstep:¬((rawPart st==rawInt 0)=true):=by
  cases st with
  | none=>exact BM
  | some c =>
   intro hh
   have:c=0:=by simpa [rawPart,rawInt] using hh
   exact h0 (by rw [this])
 refine Aa (BF hos hds (x:=vs) rfl (Aa (G5 ps ?_)))
 rw [if_neg hstep]
 refine Aa (BF hos hds (x:=vl) rfl (Aa (G5 pl ?_)))
 exact Aa (BF hos hds (x:=vu) rfl (Aa (G5 pu (Ad q))))
theorem Og {sl:Addr} {vl vu vs:Value} {lo hi st:Option Int} (hx:h.get? x=some (accO C dx items n)) (hs:h.IsSliceOf sl vl vu vs) (pl:IsPart vl lo) (pu:IsPart vu hi) (ps:IsPart vs st) (h0:st≠some 0) (hz:items.size≤2 ^ 20)
  (q:R (.ok (.ret (.ref h.objs.size))) ⟨h.push (lstO (slicePick items lo hi st) 0),g,d,t,os⟩) :
  codeAny (model prog w) A (.builtin "list.__getitem__" ⟨[.ref x,.ref sl],[]⟩) R ⟨h,g,d,t,os⟩:=by
 obtain ⟨ob,hos,hcs,hds⟩:=id hs
 have hTs:(⟨h,g,d,t,os⟩:Shared).TypeIs (.ref sl) "slice" :=⟨ob,hos,hcs⟩
 refine B0 entry_list_getitem ?_
 show wpAny _ _ (CJ (.ref sl) >>=_) _ _ _
 refine Aa (Kg (i:=.none) hTs ?_)
 refine Aa (Fb hTs ?_)
 rw [if_neg (by decide)]
 refine Aa (IT (s:=⟨h,g,d,t,os⟩) hs pl pu ps h0 ?_)
 refine Aa (m:=Builtin.List.listItems (.ref x)) ?_
 refine Aa (DP hx rfl (Ad ?_))
 refine Aa (Bi (sliceIndices_raw lo hi st items.size h0) ?_)
 exact Aa (BZ (Ad q) (Ab (slicePick_size_le items lo hi st) (by unfold sizeLine; exact Ab (by assumption) (by decide))))
theorem K6 {sl b:Addr} {vl vu:Value} {lo hi:Option Int} {new:Array Value} {m:Nat} {a1 b1:Int} (hx:h.get? x=some (accO C dx items n)) (hs:h.IsSliceOf sl vl vu .none) (pl:IsPart vl lo) (pu:IsPart vu hi) (hb:h.get? b=some (lstO new m)) (hz:items.size+new.size≤2 ^ 20)
  (hbd:sliceBounds lo hi none items.size=(a1,b1,1))
  (q:R (.ok (.ret .none)) ⟨h.update x (DA fun xs=>xs.extract 0 a1.toNat++new++xs.extract (max a1 b1).toNat xs.size),g,d,t,os⟩) :
  codeAny (model prog w) A (.builtin "list.__setitem__" ⟨[.ref x,.ref sl,.ref b],[]⟩) R ⟨h,g,d,t,os⟩:=by
 obtain ⟨ob,hos,hcs,hds⟩:=id hs
 have hTs:(⟨h,g,d,t,os⟩:Shared).TypeIs (.ref sl) "slice" :=⟨ob,hos,hcs⟩
 have hTb:(⟨h,g,d,t,os⟩:Shared).TypeIs (.ref b) "list" :=⟨_,hb,rfl⟩
 have ne:(x==b)=false:=by
  rw [beq_eq_false_iff_ne]
  rintro rfl
  simp only [hx] at hb; cases hb
 refine B0 entry_list_setitem ?_
 show wpAny _ _ (CJ (.ref sl) >>=_) _ _ _
 refine Aa (Kg (i:=.none) hTs ?_)
 refine Aa (Fb hTs ?_)
 rw [if_neg (by decide)]
 refine Aa (IT (s:=⟨h,g,d,t,os⟩) hs pl pu .none (by simp) ?_)
 dsimp only
 have hsr:listSameRef (.ref x) (.ref b)=false:=ne
 rw [hsr]
 rw [if_neg (by decide)]
 have hli:∀ {Q:Array Value->Shared->Prop} {A':Around} {E':PV} {y:Addr} {o:Obj} {its:Array Value} {nn:Nat},h.get? y=some o->o.data=.seq its nn->Q its ⟨h,g,d,t,os⟩->wpAny (model prog w) A' (listItems (.ref y)) Q E' ⟨h,g,d,t,os⟩:=fun e e' q=>by
  exact Aa (DP e e' (Ad q))
 have hla:∀ {Q:Array Value->Shared->Prop} {A':Around} {E':PV} {m:String},Q new ⟨h,g,d,t,os⟩->wpAny (model prog w) A' (listAllItems (.ref b) m) Q E' ⟨h,g,d,t,os⟩:=fun q=>by
  refine Aa (Fb hTb ?_)
  rw [if_pos (by decide)]
  exact hli hb rfl q
 refine Aa (hla ?_)
 refine Aa (hli hx rfl ?_)
 refine Aa (Bi (sliceIndices_raw lo hi none items.size (by simp)) ?_)
 rw [hbd]
 dsimp only
 rw [if_pos (by decide)]
 refine Aa (EB ?_)
 have htl:listTooLong (items.size+new.size)=false:=by unfold listTooLong; rw [CB]; simp; exact Ab (by assumption) (by decide)
 rw [htl]
 rw [if_neg (by decide)]
 refine Aa (EZ hx rfl ?_ (by simp only [CB]; lia) (by simp only [CB]; simp; exact Ab (Bk (Cd ..) (AS (Bp ..) _)) (by lia)))
 refine Aa (wpAny_letGo ?_)
 exact Ad q
end
theorem Nr:builtinKind "list.__getitem__" = some .method:=by decide +kernel
theorem Rx:builtinKind "list.__setitem__" = some .slot:=by decide +kernel
theorem Lq:splitId "list.__getitem__" = some ("list", "__getitem__"):=by decide +kernel
theorem O1:splitId "list.__setitem__" = some ("list", "__setitem__"):=by decide +kernel
theorem LY {prog:Program} {w:World} {A:Around} {s:Shared} {id owner n:String} {x:Addr} {args:List Value} {Q:PV} (hk:builtinKind id=some .method) (hs:splitId id=some (owner,n)) (hp:plainId id=true) (hi:Looks (model prog w) s.heap (isInstance (.ref x) (.type owner)) true)
  (ha:argsOk id ⟨.ref x::args,[]⟩) (h:codeAny (model prog w) A (.builtin id ⟨.ref x::args,[]⟩) (retP Q) s):wpAny (model prog w) A (call (.builtin id) (.ref x::args)) Q FF s :=
 BL (Cu (Dw (DY hp _) (I9 hk hs hi ha h)) fun r s' z=>by rcases r with e | (v | _ | _ | _)<;>exact z)
theorem LX {prog:Program} {w:World} {A:Around} {s:Shared} {id owner n:String} {x:Addr} {args:List Value} {Q:PV} (hk:builtinKind id=some .slot) (hs:splitId id=some (owner,n)) (hp:plainId id=true) (hi:Looks (model prog w) s.heap (isInstance (.ref x) (.type owner)) true)
  (ha:argsOk id ⟨.ref x::args,[]⟩) (h:codeAny (model prog w) A (.builtin id ⟨.ref x::args,[]⟩) (retP Q) s):wpAny (model prog w) A (call (.builtin id) (.ref x::args)) Q FF s :=
 BL (Cu (Dw (DY hp _) (FG hk hs hi ha h)) fun r s' z=>by rcases r with e | (v | _ | _ | _)<;>exact z)
section
variable {G:Gb} {c:Cx} {σ:St}
structure KA (K:Frag) (C:Addr):Prop where
 gi:findIn K (.ref C) "__getitem__" = some (some (.builtin "list.__getitem__"))
 si:findIn K (.ref C) "__setitem__" = some (some (.builtin "list.__setitem__"))
 li:mroIn K C (.type "list")=some true
 mro:∃ cd,clsIn K C=some cd∧cd.mro=[.ref C,.type "list",.type "object"]
theorem NoPyAt.acc {l d:Lb} {C:Addr} {xs:List AV} (hl:σ.H l=some (.acc C xs d)) (hS:KA G.K C):NoPyAt G (.ref l) σ:=fun c η s v' R hv A Q E h=>by
 obtain ⟨rfl,dd⟩:=hv.refE
 ·
  obtain ⟨vs,m,od,I,r,dd⟩:=R.accI hl
  rw [getitemInPython_of_ne (by intro q; contradiction)]
  refine Aa (Aa (I.type _ _ _ _ (fun _ _ e=>e) (BG R.K hS.gi _ _ _ _ (fun _ _ e=>e) ?_)))
  exact Ad h
theorem WB.itemA {l d:Lb} {C:Addr} {x:AV} {xs:List AV} {k:Int} {Q:PA} (hl:σ.H l=some (.acc C xs d)) (hS:KA G.K C) (h0:0≤k) (hz:xs.length<2 ^ 60) (hx:xs[k.toNat]?=some x) (q:Q x σ):WB G c VR getItem (.ref l) (.int k) σ Q:=fun η s a' b' R ha hb=>by
 obtain ⟨_,rfl⟩:=hb.intE
 obtain ⟨rfl,dl⟩:=ha.refE
 ·
  obtain ⟨vs,m,od,I,r,dd⟩:=R.accI hl
  obtain ⟨cd,hc,hm⟩:=hS.mro
  obtain ⟨x',hx',hr⟩:=HF r hx
  have:=JQ hx
  refine Ax (Aa (Ol R.K I hc hm (Aa (I5 R.K I hS.gi Dn ?_))))
  refine LY Nr Lq Dn.plain (I.type.andThen (Ca R.K hS.li)) (args_list_getitem _ _) ?_
  obtain ⟨hh,g,dr,t,os⟩:=s
  refine P5 (R:=_) I.at_ h0 (by lia) hx' ?_
  exact Ad (.here R q hr)
theorem WB.sliceA {l d:Lb} {C:Addr} {xs:List AV} {lo hi st:Option Int} {Q:PA} (hl:σ.H l=some (.acc C xs d)) (hS:KA G.K C) (h0:st≠some 0) (hz:xs.length≤2 ^ 20) (q:NewL (pickL xs lo hi st) σ Q):WB G c VR getItem (.ref l) (.slc lo hi st) σ Q:=fun η s a' b' R ha hb=>by
 obtain ⟨rfl,dl⟩:=ha.refE
 ·
  obtain ⟨_,_,_,_,rfl,pl,pu,pst,z⟩:=hb.slcE
  ·
   obtain ⟨vs,m,od,I,r,dd⟩:=R.accI hl
   obtain ⟨cd,hc,hm⟩:=hS.mro
   have hlen:=r.size
   refine Ax (Aa (Ol R.K I hc hm (Aa (I5 R.K I hS.gi Dn ?_))))
   refine LY Nr Lq Dn.plain (I.type.andThen (Ca R.K hS.li)) (args_list_getitem _ _) ?_
   obtain ⟨hh,g,dr,t,os⟩:=s
   refine Og I.at_ ⟨_,R.frz _ _ z,rfl,rfl⟩ pl pu pst h0 (by lia) ?_
   refine Ad ?_
   exact R.newL (tk:=t) Ho H9 R.sizeLe (Ah _ rfl) (r.pick ..) q
theorem VRs.extract {η:Et} {xs:List AV} {vs:Array Value} (h:VRs η xs vs.toList) (a b:Nat):VRs η ((xs.drop a).take (b - a)) (vs.extract a b).toList:=by
 have:=(h.drop (n:=a)).take (n:=b - a)
 rw [Array.toList_extract]
 simpa [List.extract] using this
theorem WSet.accSl {l d:Lb} {C:Addr} {xs ys:List AV} {v:AV} {lo hi:Option Int} {a b:Nat} {Q:St->Prop} (hl:σ.H l=some (.acc C xs d)) (hS:KA G.K C) (hv:isL σ v ys) (hz:xs.length+ys.length≤2 ^ 20) (hab:a≤b) (hb:b≤xs.length)
  (hbd:sliceBounds lo hi none xs.length=((a:Int),(b:Int),1)) (q:Q { σ with H:=up σ.H l (.acc C (xs.take a++ys++xs.drop b) d) }):WSet G c (.ref l) (.slc lo hi none) v σ Q:=fun η s o' k' v' R ho hk hvv=>by
 obtain ⟨rfl,dl⟩:=ho.refE
 ·
  obtain ⟨_,_,_,_,rfl,pl,pu,pst,z⟩:=hk.slcE
  ·
   cases pst
   obtain ⟨vs,m,od,I,r,dd⟩:=R.accI hl
   obtain ⟨cd,hc,hm⟩:=hS.mro
   obtain ⟨ad,ws,n,rfl,e,r2⟩:=R.list hv hvv
   have hlen:=r.size
   have hlen2:=r2.size
   refine Ax (Aa (Ol R.K I hc hm (Aa (I5 R.K I hS.si EC ?_))))
   refine LX Rx O1 EC.plain (I.type.andThen (Ca R.K hS.li)) (args_list_setitem _ _ _) ?_
   obtain ⟨hh,g,dr,t,os⟩:=s
   refine K6 I.at_ ⟨_,R.frz _ _ z,rfl,rfl⟩ pl pu e (by lia) (hlen▸hbd) ?_
   refine Ad ?_
   have hmx:(max (a:Int) (b:Int)).toNat=b:=T1 hab
   rw [hmx,Aw]
   obtain ⟨n',e'⟩:=Kb (fun xs=>xs.extract 0 a++ws++xs.extract b xs.size) (h':=hh) I.at_
   obtain ⟨R',st⟩:=R.setL (tk:=t) (ao:=.acc C (xs.take a++ys++xs.drop b) d) hl (by intro q; contradiction) (A0 ..) e' ⟨_,n',rfl,by
    simp only [Dq,Dq]
    refine L2.append (L2.append ?_ r2) ?_
    ·have:=r.extract 0 a; exact this
    ·have:=r.extract b vs.size
     rw [AR (by simp; lia)] at this; exact this,dd⟩
   exact ⟨(),_,η,q,trivial,R',st _⟩
end
end
section
open Builtin Builtin.Str
noncomputable def S (l:List Nat):Str:=⟨l.toArray⟩
theorem S_eq (x:Str):x=S x.cps.toList:=by cases x; simp [S]
@[simp] theorem Iu (l:List Nat):(S l).length=l.length:=by simp [S,Str.length]
theorem UL {a b:List Nat}:S a=S b↔a=b:=⟨fun h=>by have:=congrArg (fun x=>x.cps.toList) h; simpa [S] using this,fun h=>by rw [h]⟩
theorem PD (a b:List Nat):S a++S b=S (a++b):=by
 show (⟨_⟩:Str)=_
 simp [S]
section
variable {G:Gb} {c:Cx} {σ:St} {a b:List Nat}
theorem WB.addS {Q:PA} (hz:a.length+b.length≤2 ^ 20) (q:Q (.str (S (a++b))) σ):WB G c VR (binaryOp .Add) (.str (S a)) (.str (S b)) σ Q:=fun η s a' b' R ha hb=>by
 obtain ⟨_,rfl⟩:=ha.strE; obtain ⟨_,rfl⟩:=hb.strE
 refine add_str (fun t' tk=>?_) (by unfold sizeLine; simp; exact Ab (by assumption) (by decide))
 rw [PD]; exact .toks R q (.str ..)
theorem WB.iaddS {Q:PA} (hz:a.length+b.length≤2 ^ 20) (q:Q (.str (S (a++b))) σ):WB G c VR (inplaceOp .Add) (.str (S a)) (.str (S b)) σ Q:=fun η s a' b' R ha hb=>by
 obtain ⟨_,rfl⟩:=ha.strE; obtain ⟨_,rfl⟩:=hb.strE
 refine iadd_str (fun t' tk=>?_) (by unfold sizeLine; simp; exact Ab (by assumption) (by decide))
 rw [PD]; exact .toks R q (.str ..)
theorem WB.eqS {Q:PA} (q:Q (.bool (a==b)) σ):WB G c VR (compareOp .Eq) (.str (S a)) (.str (S b)) σ Q:=fun η s a' b' R ha hb=>by
 obtain ⟨_,rfl⟩:=ha.strE; obtain ⟨_,rfl⟩:=hb.strE
 refine P.eq_str ?_
 simp only [S]
 exact .here R q (.rig _)
theorem WB.neS {Q:PA} (q:Q (.bool (a !=b)) σ):WB G c VR (compareOp .NotEq) (.str (S a)) (.str (S b)) σ Q:=fun η s a' b' R ha hb=>by
 obtain ⟨_,rfl⟩:=ha.strE; obtain ⟨_,rfl⟩:=hb.strE
 refine P.ne_str ?_
 simp only [S]
 exact .here R q (.rig _)
theorem WB.inS {Q:PA} (q:Q (.bool !(occurrences (S b) (S a) 0 b.length 1).isEmpty) σ):WB G c VR (compareOp .In) (.str (S a)) (.str (S b)) σ Q:=fun η s a' b' R ha hb=>by
 obtain ⟨_,rfl⟩:=ha.strE; obtain ⟨_,rfl⟩:=hb.strE
 refine P.in_str ?_
 rw [Iu]
 exact .here R q (.rig _)
theorem WV.lenS {Q:PA} (hz:a.length≤2 ^ 30) (q:Q (.int a.length) σ):WV G c (.rig (.builtin "len")) [.str (S a)] σ Q:=fun η s f' vs' R hf hvs=>by
 obtain rfl:=hf.rigE
 obtain ⟨_,rfl,hv⟩:=hvs.E1
 obtain ⟨_,rfl⟩:=hv.strE; exact P.len_str (by rw [Iu]; lia) (by rw [Iu]; exact .toks R q (.int ..))
theorem WU.tStr {Q:PB} (hz:a.length≤2 ^ 30) (q:Q (!a.isEmpty) σ):WU G c BR truthy (.str (S a)) σ Q:=fun η s a' R ha=>by
 obtain ⟨_,rfl⟩:=ha.strE
 refine P.truthy_str (by rw [Iu]; lia) ?_
 have e:(((S a).length:Int) !=0)=!a.isEmpty:=by rw [Iu]; cases a<;>simp; lia
 rw [e]; exact .toks R q rfl
theorem WV.isspace {Q:PA} (q:Q (.bool (C5 (S a))) σ):WV G c (.rig (.builtin "str.isspace")) [.str (S a)] σ Q:=fun η s f' vs' R hf hvs=>by
 obtain rfl:=hf.rigE
 obtain ⟨_,rfl,hv⟩:=hvs.E1
 obtain ⟨_,rfl⟩:=hv.strE; exact SC.isspace (.here R q (.rig _))
theorem WV.index {Q:PA} {i:Nat} {rest:List Nat} (hi:occurrences (S a) (S b) 0 a.length 1=i::rest) (q:Q (.int i) σ):WV G c (.rig (.builtin "str.index")) [.str (S a),.str (S b)] σ Q:=fun η s f' vs' R hf hvs=>by
 obtain rfl:=hf.rigE
 obtain ⟨_,_,rfl,hv,hx⟩:=hvs.E2
 obtain ⟨_,rfl⟩:=hv.strE; obtain ⟨_,rfl⟩:=hx.strE; exact SC.index (by rw [Iu]; exact hi) (.toks R q (.int ..))
theorem WM.isspace:WM G c (.str (S a)) "isspace" σ (.rig (.builtin "str.isspace")) [.str (S a)]:=fun η s ov' pl R hv Q E k=>by
 obtain ⟨t,rfl⟩:=hv.strE
 exact GM.isspace (k _ _ s.toks (.rig _) (.cons (.str ..) .nil))
theorem WM.index:WM G c (.str (S a)) "index" σ (.rig (.builtin "str.index")) [.str (S a)]:=fun η s ov' pl R hv Q E k=>by
 obtain ⟨t,rfl⟩:=hv.strE
 exact GM.index (k _ _ s.toks (.rig _) (.cons (.str ..) .nil))
theorem WM.join:WM G c (.str (S a)) "join" σ (.rig (.builtin "str.join")) [.str (S a)]:=fun η s ov' pl R hv Q E k=>by
 obtain ⟨t,rfl⟩:=hv.strE
 exact GM.join (k _ _ s.toks (.rig _) (.cons (.str ..) .nil))
theorem mulS (x n:Nat) (h:1≤n):Txt.mul (S [x]) (n:Int)=S (Az n x):=by
 unfold Txt.mul
 rw [if_neg (by lia)]
 have key:∀ (k:Nat) (acc:Array Nat),(Az k #[x]).foldl (· ++·) acc=acc++(Az k x).toArray:=by
  intro k
  induction k with
  | zero=>intro acc; simp
  | succ k ih=>intro acc; rw [Ds,Cr,ih,Ds]; apply Array.ext'; simp
 by_cases h1:n=1
 ·subst h1; rw [if_pos (by rfl)]; rfl
 ·rw [if_neg (by simp; lia)]
  show (⟨_⟩:Str)=_
  rw [Aw]
  have:=key n #[]
  simp only [S]
  rw [this]; simp
theorem WB.mulS {x:Nat} {n:Nat} {Q:PA} (h:1≤n) (hz:n≤2 ^ 20) (q:Q (.str (S (Az n x))) σ):WB G c VR (binaryOp .Mult) (.str (S [x])) (.int n) σ Q:=fun η s a' b' R ha hb=>by
 obtain ⟨_,rfl⟩:=ha.strE; obtain ⟨_,rfl⟩:=hb.intE
 refine SB.mul ⟨by simp; lia,fun h1 h2=>?_,fun h1 h2=>?_⟩ fun t' k=>?_
 ·rw [Iu]
  have:(1:Int)≤(2 ^ 63 - 1:Int) / n:=Int.le_ediv_of_mul_le (by exact BE.mp (by assumption)) (by lia)
  have e:(([x].length:Nat):Int)=1:=rfl
  rw [e]; lia
 ·rw [Iu]; unfold tooLong sizeLine; simp; exact Ab (by assumption) (by decide)
 ·rw [Mine.mulS x n h]; exact .toks R q (.str ..)
theorem WB.itemS {k:Int} {x:Nat} {Q:PA} (h0:0≤k) (hz:a.length≤2 ^ 20) (hx:a[k.toNat]?=some x) (q:Q (.str (S [x])) σ):WB G c VR getItem (.str (S a)) (.int k) σ Q:=fun η s a' b' R ha hb=>by
 obtain ⟨_,rfl⟩:=ha.strE; obtain ⟨_,rfl⟩:=hb.intE
 have hl:=(Am.mp hx).1
 refine getItem_str (c:=x) (by simp; lia) ?_ (.toks R q (.str ..))
 rw [Iu,HN h0 ((F1 h0).mp hl)]
 simpa [S] using hx
theorem WB.itemSneg {x:Nat} {Q:PA} (hz:a.length≤2 ^ 20) (hx:a.getLast?=some x) (q:Q (.str (S [x])) σ):WB G c VR getItem (.str (S a)) (.int (-1)) σ Q:=fun η s a' b' R ha hb=>by
 obtain ⟨_,rfl⟩:=ha.strE; obtain ⟨_,rfl⟩:=hb.intE
 have hl:0<a.length:=by cases a<;>simp_all
 refine getItem_str (c:=x) (by rfl) ?_ (.toks R q (.str ..))
 rw [Iu,I6 (by decide) (show -((a.length:Nat):Int)≤-1 from FZ (Be.mpr hl))]
 rw [Dm] at hx
 have:((-1:Int)+a.length).toNat=a.length - 1:=Jb _
 rw [this]
 simpa [S] using hx
set_option tactic.hygienic true in
theorem WB.strTo {n:Nat} {Q:PA} (hz:a.length≤2 ^ 20) (q:Q (.str (S (a.take n))) σ):WB G c VR getItem (.str (S a)) (.slc none (some (n:Int)) none) σ Q:=fun η s a' b' R ha hb=>by
 (first | obtain ⟨_,rfl⟩:=ha.intE | obtain ⟨_,rfl⟩:=ha.strE | obtain ⟨rfl,_⟩:=ha.refE | obtain rfl:=ha.rigE)
 rename_i t
 obtain ⟨_,_,_,_,rfl,pl,pu,pst,z⟩:=hb.slcE
 ·
  cases pl
  cases pst
  cases pu with
  | int _ t2 =>
   refine wpAny_getItem_str_slice (l:=none) (u:=some ((n:Int),t2)) (st:=none) ⟨_,R.frz _ _ z,rfl,rfl⟩ rfl ?_
   have e:slicePicked (S a) none (some ((n:Int),t2)) none=A5 (min n a.length):=by
    unfold slicePicked strSliceIndices
    simp only [Option.map_none,E7,BO,Iu,show (1:Int)>0 by decide,if_true]
    have e2:max 0 (min (if (n:Int)<0 then (n:Int)+(a.length:Int) else (n:Int)) (a.length:Int))=((min n a.length:Nat):Int):=LR n a.length
    rw [e2]
    have:=sliceRange_one 0 (min n a.length)
    simpa using this
   unfold sliceMade
   rw [e]
   simp only [Option.map_none,BO,AN,Iu,beq_self_eq_true,Bool.true_and,beq_iff_eq]
   by_cases h:min n a.length=a.length
   ·rw [if_pos h]
    have:a.take n=a:=AR (Ab (A1 h.symm) (Nat.min_le_left ..))
    rw [this] at q
    exact .here R q (.str ..)
   ·rw [if_neg h]
    have:(⟨((A5 (min n a.length)).filterMap ((S a).cps[·]?)).toArray⟩:Str)=S (a.take n):=by
     have:=pick_run a.toArray 0 (min n a.length)
     simp only [S] at this ⊢
     have e3:(A5 (min n a.length)).map (0+·)=A5 (min n a.length):=by simp
     rw [e3] at this
     rw [this]
     congr 2
     simp [List.take_eq_take_iff]
    rw [this]
    refine ⟨?_,.toks R q (.str ..)⟩
    unfold sizeLine; simp; exact Ab (Cd ..) (Ab hz (by decide))
theorem NoPyAt.str {x:Str}:NoPyAt G (.str x) σ:=NoPyItem.str.at
theorem Itb.str:Itb G (.str (S a)) (a.map fun x=>AV.str (S [x])) fun _=>True:=fun c η σ s v' R kp hv A Q E k=>by
 obtain ⟨t,rfl⟩:=hv.strE
 obtain ⟨f1,f2⟩:=HK R
 have getx:∀ (i:Nat) (x:AV),(a.map fun x=>AV.str (S [x]))[i]?=some x->∃ c,(S a).cps[i]?=some c∧x=.str ⟨#[c]⟩:=fun i x hx=>by
  rw [Ai] at hx
  obtain ⟨c,h1,h2⟩:=Ao.mp hx
  exact ⟨c,by simpa [S] using h1,h2.symm⟩
 have getn:∀ (i:Nat),(a.map fun x=>AV.str (S [x]))[i]?=none->(S a).cps[i]?=none:=fun i hx=>by
  rw [Ai,Ex] at hx
  simpa [S] using hx
 cases ha:(S a).cps.all (· < 128) with
 | false =>
  refine wpAny_pyIter_wide ha (k s.heap.objs.size _ s.toks (fun i h=>h.IsStrIter s.heap.objs.size "str_iterator" (S a) t i) f1 f2 Ho ?_ ⟨_,Ah _ rfl,rfl,rfl⟩)
  exact {
   at_:=fun i h h' ⟨o,e,hc,hd⟩ k=>⟨o,k o _ e hd,hc,hd⟩
   there:=fun i h ⟨o,e,_⟩=>⟨o,e⟩
   nx:=fun c i η' σ s x R kp le it hx A Q E k=>by
    obtain ⟨c,h1,rfl⟩:=getx i x hx
    exact wpAny_pyNext_wide_item it h1 fun h' it' hs=>k _ h' _ (.str ..) it' hs
   fin:=fun c i η' σ s R kp le it hx A Q E hh k=>wpAny_pyNext_wide_end hh it (getn i hx) fun h' he=>k h' s.toks he
   self:=fun i s A Q E it h=>wpAny_pyIter_striter_wide it h
   go:=fun target v i s A Q E ⟨o,e,hc,_⟩ h=>Hv e hc (by decide) h }
 | true =>
  refine wpAny_pyIter_ascii ha (k s.heap.objs.size _ s.toks (fun i h=>h.IsStrIter s.heap.objs.size "str_ascii_iterator" (S a) t i) f1 f2 Ho ?_ ⟨_,Ah _ rfl,rfl,rfl⟩)
  exact {
   at_:=fun i h h' ⟨o,e,hc,hd⟩ k=>⟨o,k o _ e hd,hc,hd⟩
   there:=fun i h ⟨o,e,_⟩=>⟨o,e⟩
   nx:=fun c i η' σ s x R kp le it hx A Q E k=>by
    obtain ⟨c,h1,rfl⟩:=getx i x hx
    exact wpAny_pyNext_ascii_item it h1 fun h' it' hs=>k _ h' _ (.str ..) it' hs
   fin:=fun c i η' σ s R kp le it hx A Q E hh k=>wpAny_pyNext_ascii_end hh it (getn i hx) fun h' he=>k h' s.toks he
   self:=fun i s A Q E it h=>wpAny_pyIter_striter_ascii it h
   go:=fun target v i s A Q E ⟨o,e,hc,_⟩ h=>Hv e hc (by decide) h }
noncomputable abbrev sts (xs:List (List Nat)):List AV:=xs.map fun x=>AV.str (S x)
theorem M8 {η:Et} {xs:List (List Nat)}:∀ {vs:List Value},VRs η (sts xs) vs->StrsAre vs (xs.map S):=by
 induction xs with
 | nil=>exact fun h=>h.nilE▸.nil
 | cons x xs ih =>
  intro vs h
  obtain ⟨v,r,rfl,a,b⟩:=h.consE
  obtain ⟨t,rfl⟩:=a.strE
  exact .cons _ _ (ih b)
theorem Nu:∀ (xs:List (List Nat)),GI (S []) (xs.map S)=S xs.flatten
 | []=>rfl
 | [x]=>by show S x=_; simp
 | x::y::r=>by
  show S x++S []++GI (S []) ((y::r).map S)=_
  rw [Nu (y::r),PD,PD]; simp
theorem LK (xs:List (List Nat)):Txt.join (S []) (xs.map S)=S xs.flatten:=(StrLaws.glued_eq_join _ _).trans (Nu xs)
theorem WV.joinL {v:AV} {xs:List (List Nat)} {Q:PA} (hl:isL σ v (sts xs)) (hz:(xs.map AH).sum≤2 ^ 20) (q:Q (.str (S xs.flatten)) σ):WV G c (.rig (.builtin "str.join")) [.str (S []),v] σ Q:=fun η s f' vs' R hf hvs=>by
 obtain rfl:=hf.rigE
 obtain ⟨_,_,rfl,hv,hx⟩:=hvs.E2
 ·
   obtain ⟨_,rfl⟩:=hv.strE
   obtain ⟨ad,vs,n,rfl,e,r⟩:=R.list hl hx
   refine join_list ⟨_,e,rfl,n,rfl⟩ (M8 r) ?_ fun t' k=>?_
   ·have:((xs.map S).map (·.length))=xs.map AH:=by simp [EY]
    rw [this]; simp; exact Ab (by assumption) (by decide)
   ·rw [LK]; exact .toks R q (.str ..)
theorem WV.joinT {xs:List (List Nat)} {Q:PA} (hz:(xs.map AH).sum≤2 ^ 20) (q:Q (.str (S xs.flatten)) σ):WV G c (.rig (.builtin "str.join")) [.str (S []),.tup (sts xs)] σ Q:=fun η s f' vs' R hf hvs=>by
 obtain rfl:=hf.rigE
 obtain ⟨_,_,rfl,hv,hx⟩:=hvs.E2
 ·
   obtain ⟨_,rfl⟩:=hv.strE
   obtain ⟨_,_,_,rfl,z,r⟩:=hx.tupE
   ·
    refine join_tuple ⟨_,R.frz _ _ z,rfl,_,rfl⟩ (M8 r) ?_ fun t' k=>?_
    ·have:((xs.map S).map (·.length))=xs.map AH:=by simp [EY]
     rw [this]; simp; exact Ab (by assumption) (by decide)
    ·rw [LK]; exact .toks R q (.str ..)
end
end
section
open Builtin Builtin.Str
section
variable {prog:Program} {w:World} {A:Around} {E:PV} {s:Shared}
theorem MW {it l:Addr} {i:Nat} {items:Array Value} {ol:Obj} {nl:Nat} {x:Value} {Q:Option Value->Shared->Prop} (hit:s.heap.IsListIter it l i) (hol:s.heap.get? l=some ol) (hdl:ol.data=.seq items nl) (hx:items[i]?=some x)
  (hQ:∀ h',h'.IsListIter it l (i+1)->DH it s.heap h'->Q (some x) { s with heap:=h' }):wpAny (model prog w) A (pyNext (.ref it)) Q E s:=by
 obtain ⟨o,ho,hc,hd⟩:=id hit
 refine Aa (DX (EM (name:=A8 "__next__") hit.typeIs Da (CU Da hit.typeIs Eh ?_ (args_listiter_next _))))
 show wpAny _ _ (field (.ref it) 0 >>=_) _ _ s
 refine Aa (BF ho hd (x:=.ref l) rfl ?_)
 show wpAny _ _ (if (Value.ref l==Bt)=true then _ else _) _ _ s
 rw [if_neg (show ¬((Value.ref l==Bt)=true) from BM)]
 show wpAny _ _ (field (.ref it) 1 >>=_) _ _ s
 refine Aa (BF ho hd (x:=.int i 0) rfl ?_)
 show wpAny _ _ (seqItems? (.ref l) >>=_) _ _ s
 refine Aa (DP hol hdl ?_)
 simp only [Aw,hx]
 refine Aa (Fs ho hd (Ak _) (Ad ⟨x,rfl,Ad (hQ _ ?_ (A0 ..))⟩))
 exact ⟨_,BJ _ ho (G7 (Obj.data_mapFields hd _)),(Obj.cls_mapFields ..).trans hc,by rw [Obj.data_mapFields hd]; simp [rawInt]⟩
end
theorem ON {prog:Program} {w:World} {A:Around} {E:PV} {s:Shared} {it l:Addr} {i:Nat} {items:Array Value} {ol:Obj} {nl:Nat} {Q:Option Value->Shared->Prop} (hh:A.handled=none) (hit:s.heap.IsListIter it l i) (hol:s.heap.get? l=some ol) (hdl:ol.data=.seq items nl) (hx:items[i]?=none)
  (hQ:∀ h',DT it s.heap h'->Q none { s with heap:=h' }):wpAny (model prog w) A (pyNext (.ref it)) Q E s:=by
 obtain ⟨o,ho,hc,hd⟩:=id hit
 refine Aa (DX (EM (name:=A8 "__next__") hit.typeIs Da (CU Da hit.typeIs Eh ?_ (args_listiter_next _))))
 show wpAny _ _ (field (.ref it) 0 >>=_) _ _ s
 refine Aa (BF ho hd (x:=.ref l) rfl ?_)
 show wpAny _ _ (if (Value.ref l==Bt)=true then _ else _) _ _ s
 rw [if_neg (show ¬((Value.ref l==Bt)=true) from BM)]
 show wpAny _ _ (field (.ref it) 1 >>=_) _ _ s
 refine Aa (BF ho hd (x:=.int i 0) rfl ?_)
 show wpAny _ _ (seqItems? (.ref l) >>=_) _ _ s
 refine Aa (DP hol hdl ?_)
 simp only [Aw,hx]
 refine Aa (EB (Aa (Fs ho hd (CW _) ?_)))
 show wpAny _ _ (newExc (.type "StopIteration") [] >>=_) _ _ _
 refine Aa ?_
 simp only [newExc,newTuple]
 refine Aa (BZ ?_ (by size_fits))
 refine Aa (m:=firstArgMember _ _) (Bi (a:=Bt) (by first | rfl | (simp only [firstArgMember]; rfl)) ?_)
 refine BZ ?_ (by size_fits)
 rw [raiseNew]
 refine Aa (wpAny_handled ?_)
 rw [show A.in1.handled=none from hh]
 refine Aa (Ad (wpAny_throw ?_))
 refine Aa (EP (T := "StopIteration") (b:=true) ⟨_,Ah _ rfl,rfl⟩ isSubtype_stop ?_)
 exact Ad (hQ _ (((A0 ..).extBut.push _).push _))
theorem PC {prog:Program} {w:World} {A:Around} (hh:A.handled=none) (I ax:Addr) (hne:ax≠I) (oA:Obj) (items:Array Value) (nA:Nat) (hA:oA.data=.seq items nA) (Ts:Nat->Addr) (vals:Nat->Array Value)
  (hit:∀ j,j<items.size->items[j]?=some (.ref (Ts j))) (hTI:∀ j,j<items.size->Ts j≠I) :
  WalksU prog w A I (I::ax::(A5 items.size).map Ts) [I] items.size (fun j v=>j<items.size∧v=vals j)
   (fun j h=>h.IsListIter I ax j∧h.get? ax=some oA∧∀ k,k<items.size->h.IsTuple (Ts k) (vals k))
   (fun j T h=>(j<items.size∧T=Ts j)∧h.IsListIter I ax (j+1)∧h.get? ax=some oA∧∀ k,k<items.size->h.IsTuple (Ts k) (vals k)) where
 sub:=fun b hb=>by simp at hb; simp [hb]
 frame:=fun _ _ _ st hk=>⟨st.1.at fun o e=>hk I (by simp) o e,hk ax (by simp) _ st.2.1,
  fun k hk'=>(st.2.2 k hk').at fun o e=>hk (Ts k) (GC _ (GC _ (As.mpr ⟨k,BB.mpr hk',rfl⟩))) o e⟩
 item:=fun i s Q E hi st hQ=>by
  refine MW st.1 st.2.1 hA (x:=.ref (Ts i)) (hit i hi) fun h' hit' hs'=>?_
  have tup:∀ k,k<items.size->h'.IsTuple (Ts k) (vals k):=fun k hk'=>(st.2.2 k hk').extBut hs'.extBut (hTI k hk')
  exact hQ (Ts i) (vals i) h' s.toks ⟨hi,rfl⟩ (tup i hi) ⟨⟨hi,rfl⟩,hit',hs'.extBut ax _ hne st.2.1,tup⟩ fun b o hb e=>hs'.extBut b o (fun h=>hb (by simp [h])) e
 go:=fun _ _ _ _ _ s Q _ hm hQ=>wpAny_letOwnedTupleGo_listiter hm.2.1 (hQ s.heap hm.2 fun _ _ _ e=>e)
 apart:=fun j T _ hm hmem=>by
  rcases Ap.mp hmem with e | e
  ·exact hTI j hm.1.1 (hm.1.2▸e)
  ·cases e
 done:=fun s Q E st hQ=>ON hh st.1 st.2.1 hA (by simp) fun h' he'=>hQ h' s.toks fun b o hb e=>he' b o (fun h=>hb (by simp [h])) e
 self:=fun _ _ _ _ st hQ=>wpAny_pyIter_listiter st.1 hQ
section
variable {G:Gb} {c:Cx} {η:Et} {σ:St} {s s':Shared}
theorem Rel.grow (R:Rel G c η σ s) (hk:∀ b o,¬G.tb b->s.heap.get? b=some o->s'.heap.get? b=some o) (hx:∀ b o,s.heap.get? b=some o->∃ o',s'.heap.get? b=some o') (hold:OldK G.h₀ s'.heap) (htb:Tabs G.h₀ s'.heap) (hg:AllBare s'.gens) (hos:s'.os=s.os) :
  Rel G c η σ s'∧∀ own,Stp G own η η s s':=by
 have tlt:∀ b,G.tb b->b<G.h₀.objs.size:=fun b ⟨_,_,_,t⟩=>Ba t.2
 have big:∀ b,G.h₀.objs.size≤b->¬G.tb b:=fun b h t=>absurd (tlt b t) (Bh.mpr h)
 refine ⟨⟨R.gok,R.ok,fun l o e=>let ⟨o',z,r⟩:=R.heap l o e; ⟨o',hk _ _ (big _ (R.low l (R.D_of e))) z,r⟩,R.dom,R.inj,R.sep,R.low,fun a o e=>hk _ _ (fun t=>?_) (R.frz a o e),hold,
  fun b o e n=>hk _ _ n (R.bk b o e n),hg,hos.trans R.os,R.zt,htb,R.fr.step (.refl η) fun b ow o e=>⟨o,hk _ _ (big _ (R.ownl b ow).1) e,rfl⟩,R.ownl,?_,R.fu,fun e he b hb=>let ⟨o,es,ep,z,d⟩:=R.fd e he b hb; ⟨o,es,ep,hk _ _ (big _ (R.fu e he b hb).1) z,d⟩⟩,
  fun own=>⟨.refl η,hx,fun _ a b=>(b a).elim,fun _ _ e=>.inl e,fun b o hb e _ _=>⟨o,hk _ _ (big _ hb) e,.refl o⟩⟩⟩
 ·obtain ⟨_,_,_,t⟩:=t
  rw [R.zt a _ t.2] at e; exact ns e
 ·have fu:=R.fu
  have ff:=R.ff
  revert fu ff
  generalize c.fe=fe
  intro fu ff
  induction fe with
  | nil=>trivial
  | cons e r ih =>
   obtain ⟨h1,⟨L,o,hf,hn,ho,hd'⟩,hr⟩:=ff
   exact ⟨h1,⟨L,o,hf,hn,hk _ _ (big _ (fu e (.head _) L hf).1) ho,hd'⟩,ih (fun e he=>fu e (.tail _ he)) hr⟩
end
end
section
open Builtin Builtin.Str
noncomputable abbrev prs (xs:List (List Nat×List Nat)):List AV:=xs.map fun p=>AV.tup [.str (S p.1),.str (S p.2)]
theorem QS {η:Et} {xs:List (List Nat×List Nat)} {vs:List Value} (h:VRs η (prs xs) vs):∃ Ts:Nat->Addr,∃ vals:Nat->Array Value,(∀ j,∃ va vb,vals j=#[va,vb])∧(∀ j,j<xs.length->vs[j]?=some (.ref (Ts j))∧(∃ n,η.Z (Ts j)=some (tupO (vals j) n))∧Ex3 fun p t u=>xs[j]?=some p∧vals j=#[.str (S p.1) t,.str (S p.2) u]):=by
  have H:∀ j,∃ T va,(∃ v w,va=#[v,w])∧(j<xs.length->vs[j]?=some (.ref T)∧(∃ n,η.Z T=some (tupO va n))∧Ex3 fun p t u=>xs[j]?=some p∧va=#[.str (S p.1) t,.str (S p.2) u]):=fun j=>by
   by_cases hj:j<xs.length
   ·obtain ⟨y,e,a⟩:=L2.get h (i:=j) (x:=.tup [.str (S xs[j].1),.str (S xs[j].2)]) (by rw [Ai,Ac hj]; rfl)
    obtain ⟨T,va,n,rfl,z,r⟩:=a.tupE
    obtain ⟨v,w,q,c1,c2⟩:=r.E2
    obtain ⟨t,rfl⟩:=c1.strE
    obtain ⟨u,rfl⟩:=c2.strE
    have q:va=#[_,_]:=Array.toList_inj.mp q
    exact ⟨T,va,⟨_,_,q⟩,fun _=>⟨e,⟨n,z⟩,_,t,u,Ac hj,q⟩⟩
   ·exact ⟨0,#[.none,.none],⟨_,_,rfl⟩,fun k=>absurd k hj⟩
  obtain ⟨Ts,H⟩:=F8 H
  obtain ⟨vals,H⟩:=F8 H
  exact ⟨Ts,vals,fun j=>(H j).1,fun j=>(H j).2⟩
theorem KO (n:Nat):∀ i,i≤n->passing (fun _=>true) n i=(A5 (n - i)).map (i+·):=by
 intro i hi
 unfold passing
 rw [EX.mpr (by simp)]
 apply Fw
 intro j
 rw [Dz,Ai]
 by_cases h:i+j<n
 ·rw [BW h,BW (Dj (by rw [BU]; exact h))]; rfl
 ·rw [BI (by simp; exact Bh.mp (by assumption)),BI (by simp; rw [BU]; exact Bh.mp h)]; rfl
theorem PI {h₀ h h':Heap} {wr:List Addr} (K:OldK h₀ h) (T:Tabs h₀ h) (hw:∀ b∈wr,h₀.objs.size≤b) (hk:∀ b o,b∉wr->h.get? b=some o->h'.get? b=some o):OldK h₀ h'∧Tabs h₀ h':=by
 have nw:∀ b o,h₀.get? b=some o->b∉wr:=fun b o e hm=>absurd (Ba e) (Bh.mpr (hw b hm))
 refine ⟨⟨fun b o e=>?_,fun b o e=>let ⟨o',z⟩:=K.there b o e; ⟨o',hk b o' (nw b o e) z⟩⟩,fun c P ps e b=>?_⟩
 ·rcases K.old b o e with x | ⟨t,hc,vs,more,hv,x⟩ | ⟨rfl,hc,⟨o',es,n,ho',r⟩,z⟩
  ·exact .inl (hk _ _ (nw b o e) x)
  ·exact .inr (.inl ⟨t,hc,vs,more,hv,hk _ _ (nw b o e) x⟩)
  ·have q:=hk _ _ (nw _ o e) ho'
   exact .inr (.inr ⟨rfl,hc,⟨o',es,n,q,r⟩,fun key=>by rw [ET (q.trans ho'.symm) key]; exact z key⟩)
 ·obtain ⟨k,ps',y,z⟩:=T c P ps e b
  exact ⟨fun _ e=>hk _ _ (nw _ _ e) (k _ e),ps',y,hk _ _ (nw _ _ b.2) z⟩
theorem Tabs.at {h₀ h:Heap} (x:Tabs h₀ h) {c P:Addr} {ps:Array Value} (a:h₀.IsCode c P ps) (b:h₀.TableAt c P ps):∃ ps',An3 (TriplesOk ps'.toList) (h.IsCode c P ps') (h.TableAt c P ps') :=
 let ⟨k,ps',t,e⟩:=x c P ps a b
 have y:CodeHd h c P:=ex9e (CodeHd.of a b) fun o vs file tf flags tg inF text tt y=>ex9 o vs file tf flags tg inF text tt ⟨k _ y.1,y.2⟩
 ⟨ps',t,y.code e t,y.tab e⟩
structure Mv (G:Gb) (c:Cx) (η:Et) (σ:St) (s:Shared) (n:Nat) (F:Nat->Value->Prop) (a:Addr) (s5:Shared):Prop where
 ex:Ex4 fun fp wr gn St=>An7 (WalksS G.prog G.w c.A.in4 a fp wr (GenOnlyQ gn) n F St) (St 0 s5) ((∀ i s,St i s->s.TypeIs (.ref a) "generator")) (a∈fp) ((∀ b∈fp,b<s5.heap.objs.size)) ((∀ b∈wr,s.heap.objs.size≤b)) ((∀ b o,b∉wr->¬G.tb b->s.heap.get? b=some o->s5.heap.get? b=some o))
 R:Rel G c η σ s5
 ex2:∀ b o,s.heap.get? b=some o->∃ o',s5.heap.get? b=some o'
structure Sq (G:Gb) (cd P:Addr) (ps:Array Value):Prop where
 code:G.h₀.IsCode cd P ps
 tab:G.h₀.TableAt cd P ps
 ns:P≠cStatics
 bm:Ex2 fun bm ob=>BMod G.h₀ mainGlobals G.mg bm ob
section
variable {G:Gb} {c:Cx} {η:Et} {σ:St} {s:Shared}
theorem Ry:builtinKind "list.__iter__" = some .slot:=by decide +kernel
theorem O2:splitId "list.__iter__" = some ("list", "__iter__"):=by decide +kernel
theorem Sm {l d:Lb} {C:Addr} {xs:List AV} {Q:PV} {A:Around} (R:Rel G c η σ s) (hl:σ.H l=some (.acc C xs d)) (hit:findIn G.K (.ref C) "__iter__" = some (some (.builtin "list.__iter__"))) (hli:mroIn G.K C (.type "list")=some true)
  (q:Q (.ref s.heap.objs.size) { s with heap:=s.heap.push { cls:=.type "list_iterator",data:=.fields #[.ref (η.ρ l),.int 0 0] } }):wpAny (mo G) A (pyIter (.ref (η.ρ l))) Q FF s:=by
 obtain ⟨vs,m,od,I,r,dd⟩:=R.accI hl
 have L:Looks (mo G) s.heap (specialOf (.ref (η.ρ l)) "__iter__") (some (.builtin "list.__iter__")):=I.type.andThen (BG R.K hit)
 refine Aa (L.here ?_)
 show wpAny _ A (callSpecialIfBoundUnlessNone? (.ref (η.ρ l)) "__iter__" _ >>=_) Q FF s
 refine Aa ?_
 rw [callSpecialIfBoundUnlessNone?,bindSpecialIfBound?]
 refine Ax (Aa (Aa (L.here ?_)))
 dsimp only [G6.bind]
 refine Aa (FW (wpAny_ite ?_))
 have hc:∀ {Q:PV},Q (.ref s.heap.objs.size) { s with heap:=s.heap.push { cls:=.type "list_iterator",data:=.fields #[.ref (η.ρ l),.int 0 0] } }->wpAny (mo G) A (call (.builtin "list.__iter__") [.ref (η.ρ l)]) Q FF s:=fun {Q} q=>by
  refine LX Ry O2 G6.plain (I.type.andThen (Ca R.K hli)) (args_list_iter _) (B0 entry_list_iter ?_)
  show wpAny _ _ (do ret (← newFields "list_iterator" [.ref (η.ρ l),rawInt 0])) _ _ s
  exact Aa (BZ (Ad q))
 have fin:∀ {refuse:Sem Value} {Q:Option Value->Shared->Prop},Q (some (.ref s.heap.objs.size)) { s with heap:=s.heap.push { cls:=.type "list_iterator",data:=.fields #[.ref (η.ρ l),.int 0 0] } }->wpAny (mo G) A (if (Value.builtin "list.__iter__" ==Bt)=true then (refuse >>=fun v=>pure (some v)) else (call (.builtin "list.__iter__") [.ref (η.ρ l)] >>=fun v=>pure (some v))) Q FF s:=fun {rf Q} q=>by
  rw [if_neg (by decide)]
  exact Aa (hc (Ad q))
 have q':wpAny (mo G) A (specialOf (.ref s.heap.objs.size) "__next__" >>=fun x=>match x with
   | none=>(do rule "iter.non-iterator"; raiseError "TypeError" s!"iter() returned non-iterator of type '{← typeNameOf (.ref s.heap.objs.size)}'" : Sem Value)
   | some _=>pure (.ref s.heap.objs.size)) Q FF { s with heap:=s.heap.push { cls:=.type "list_iterator",data:=.fields #[.ref (η.ρ l),.int 0 0] } } :=
  Aa (Dg (T := "list_iterator") ⟨_,Ah _ rfl,rfl⟩ Da.lookup (Ad q))
 split
 ·exact Aa (Ad (Ad (fin q')))
 ·exact wpAny_tryCatch (Aa (Ad (Ad (fin q'))))
theorem Qo {elt:Expr} {x xa xb:Str} {b:Bool} {pa pb pt px pos:Pos} {kt i:Nat} {scope:Scope} {l d:Lb} {C cd P:Addr} {ps:Array Value} {xs:List (List Nat×List Nat)} {F:List Nat×List Nat->Value->Prop} (hh:c.hd=false)
  (hi:c.ns[i]?=some (x,b)) (hv:lg σ.loc i=some (.ref l)) (hl:σ.H l=some (.acc C (prs xs) d)) (hit:findIn G.K (.ref C) "__iter__" = some (some (.builtin "list.__iter__"))) (hli:mroIn G.K C (.type "list")=some true)
  (hcode:c.env.code=.ref cd) (hG:Sq G cd P ps) (hco:scope.isCoroutine=false) (hcell:∀ y∈scope.names,y.2≠.cell) (hfree:∀ y∈scope.names,y.2≠.free) (h0:scope.names.lookup (".0" : Str)=some NameKind.local)
  (hxa:scope.names.lookup xa=some .local) (hxb:scope.names.lookup xb=some .local) (hab:xa≠xb) (hkind:scope.kind=.function) (hs:∀ v,genFold (.Name x px) c.env v=pure v)
  (helt:∀ (A':Around) (E':PV) (t:Shared) (m₂:Str->Option Value) (Cn:Addr) (code:Value) (p:List Nat×List Nat) (ta tb:Tok),p∈xs->A'.handled=none->(∀ β o,G.h₀.get? β=some o->¬G.tb β->t.heap.get? β=some o)->t.heap.Ns Cn m₂->m₂ xa=some (.str (S p.1) ta)->m₂ xb=some (.str (S p.2) tb) →
   wpAny (mo G) A' (eval elt (genEnv scope [] Cn code builtinsNs c.env)) (fun y s₃=>F p y∧Keeps t s₃) E' t)
  (R:Rel G c η σ s) (Q:PV) (q:∀ a s5,Mv G c η σ s xs.length (fun j y=>∃ p,xs[j]?=some p∧F p y) a s5->Q (.ref a) s5) :
  wpAny (mo G) c.A (eval (.GeneratorExp elt [⟨.Tuple [.Name xa pa,.Name xb pb] kt pt,.Name x px,[],0⟩] scope pos) c.env) Q FF s:=by
 have hA:=R.ok.handled hh
 have dp:=R.ok.depth
 refine wpAny_GeneratorExp_walksQTD hA hco (closureFor_none hfree) hcell h0 hxa hxb hab hkind (by unfold recursionLimit; lia) ?_ hs
 refine GH (R.load hi hv fun v' hv'=>?_) (R.ok.names x b (Au hi)).1
 obtain ⟨rfl,dl⟩:=hv'.refE
 refine Sm R hl hit hli ?_
 obtain ⟨vs,m,od,In,r,dd⟩:=R.accI hl
 obtain ⟨Ts,vals,h2,hT⟩:=QS r
 have hlen:=r.size
 rw [Ae] at hlen
 obtain ⟨ps',tr,hcd,htb⟩:=R.tabs.at hG.code hG.tab
 have tP:G.tb P:=⟨hG.ns,cd,ps,hG.tab⟩
 have hlo:G.h₀.objs.size≤s.heap.objs.size:=R.sizeLe
 have lim:∀ {h:Heap},(∀ b o,G.h₀.get? b=some o->¬G.tb b->h.get? b=some o)->h.NoLimit:=fun {h} hk=>R.gok.lim.at fun o e=>hk _ _ e fun q=>q.1 rfl
 have k1:∀ b o,s.heap.get? b=some o->(s.heap.push { cls:=.type "list_iterator",data:=.fields #[.ref (η.ρ l),.int 0 0] }).get? b=some o:=Ho
 have eI:(s.heap.push { cls:=.type "list_iterator",data:=.fields #[.ref (η.ρ l),.int 0 0] }).get? s.heap.objs.size=some { cls:=.type "list_iterator",data:=.fields #[.ref (η.ρ l),.int 0 0] }:=Ah _ rfl
 have R1:Rel G c η σ { s with heap:=s.heap.push { cls:=.type "list_iterator",data:=.fields #[.ref (η.ρ l),.int 0 0] },toks:=s.toks }:=R.ext k1
 have hcd1:=hcd.keeps k1
 have htb1:=htb.keeps k1
 have sz1:(s.heap.push { cls:=.type "list_iterator",data:=.fields #[.ref (η.ρ l),.int 0 0] }).objs.size=s.heap.objs.size+1:=Co ..
 generalize hI:s.heap.objs.size=I at *
 generalize s.heap.push { cls:=.type "list_iterator",data:=.fields #[.ref (η.ρ l),.int 0 0] }=h1 at *
 have bk1:=R1.bk
 dsimp only at bk1
 have main:∀ code h3 tk3,(∀ b o,b≠P->h1.get? b=some o->h3.get? b=some o)->(∃ o,h3.get? P=some o)->OldK G.h₀ h3->Tabs G.h₀ h3->h1.objs.size≤h3.objs.size →
   wpAny (mo G) c.A (builtinsFor c.env.globals c.env.builtins) (fun bi s₄=>∃ I' fp wr n₀ Pt St₀ Mid pz F,Value.ref I=.ref I'∧(∀ A':Around,A'.handled=none->WalksU G.prog G.w A' I' fp wr n₀ Pt St₀ Mid)∧(∀ i vals,Pt i vals->∃ va vb,vals=#[va,vb])∧St₀ 0 s₄.heap∧(∀ b∈fp,b<s₄.heap.objs.size)∧s₄.heap.NoLimit∧cStatics∉wr ∧
     (∀ href:Heap,(∀ b o,s₄.heap.get? b=some o->href.get? b=some o) →
      QuietGenTD G.prog G.w (genEnv scope [] s₄.heap.objs.size code bi c.env) xa xb [] elt (A5 s₄.heap.objs.size) wr Pt pz F href (c.A.depth+1) (c.A.units+8)) ∧
     (∀ a h₅ tk gs,gs.bare=true->s₄.heap.objs.size<a->h₅.objs.size=a+1->(∀ b o,s₄.heap.get? b=some o->h₅.get? b=some o) →
      WalksS G.prog G.w c.A.in4 a (a::s₄.heap.objs.size::A5 s₄.heap.objs.size) (s₄.heap.objs.size::wr) (GenOnlyQ s₄.gens.size) (passing pz n₀ 0).length
       (fun j y=>∃ i,(passing pz n₀ 0)[j]?=some i∧F i y) (GenAt G.prog G.w c.A.in4 a s₄.gens.size s₄.heap.objs.size (A5 s₄.heap.objs.size) wr pz n₀ F) →
      GenAt G.prog G.w c.A.in4 a s₄.gens.size s₄.heap.objs.size (A5 s₄.heap.objs.size) wr pz n₀ F 0 { s₄ with gens:=s₄.gens.push gs,toks:=tk,heap:=h₅ } →
      Q (.ref a) { s₄ with gens:=s₄.gens.push gs,toks:=tk,heap:=h₅ })) FF { s with heap:=h3,toks:=tk3 }:=by
  intro code h3 tk3 hk3 hP3 old3 tabs3 sz3
  have bk3:∀ b o,G.h₀.get? b=some o->¬G.tb b->h3.get? b=some o:=fun b o e n=>hk3 b o (fun q=>n (q▸tP)) (bk1 b o e n)
  obtain ⟨bm,ob,B⟩:=hG.bm
  have notT:∀ {a o},G.h₀.get? a=some o->o.cls≠.none->¬G.tb a:=fun {a o} ho hc q=>by
   obtain ⟨_,cc,ps,hT⟩:=q; have:=hT.2; rw [ho] at this; obtain rfl:=Option.some.inj this; exact hc rfl
  refine wpAny_builtinsFor (m:=G.mg) (by rw [R.ok.globals]; exact G.nsAt bk3 R.gok.g) B.name B.ne (bk3 _ _ B.obj (notT B.obj (by rw [B.cls]; exact fun q=>nomatch q))) B.cls B.dict B.data ?_
  have neP:∀ b,G.h₀.objs.size≤b->b≠P:=fun b hb q=>absurd (Ba hG.tab.2) (Bh.mpr (q▸hb))
  have axlo:=R.low l dl
  have zlo:∀ a o,η.Z a=some o->a≠P:=fun a o e q=>by rw [q,R.zt _ _ hG.tab.2] at e; exact ns e
  have hax:h3.get? (η.ρ l)=some (accO C (η.ρ d) vs m):=hk3 _ _ (neP _ axlo) (k1 _ _ In.at_)
  have hIP:I≠P:=neP _ hlo
  have Tlt:∀ j,j<vs.size->Ts j<I:=fun j hj=>by
   obtain ⟨_,⟨n,z⟩,_⟩:=hT j (by lia)
   rw [← hI]; exact Ba (R.frz _ _ z)
  have axlt:η.ρ l<I:=by rw [← hI]; exact Ba In.at_
  have tup3:∀ j,j<vs.size->h3.IsTuple (Ts j) (vals j):=fun j hj=>by
   obtain ⟨_,⟨n,z⟩,_⟩:=hT j (by lia)
   exact ⟨_,hk3 _ _ (zlo _ _ z) (k1 _ _ (R.frz _ _ z)),rfl,_,rfl⟩
  have lim3:=lim bk3
  have hst:cStatics<G.h₀.objs.size:=let ⟨_,hn,_⟩:=R.gok.lim; hn.lt
  have hp:passing (fun _=>true) vs.size 0=A5 vs.size:=by rw [KO _ 0 (A4 _)]; simp
  refine ex9 I (I::η.ρ l::(A5 vs.size).map Ts) [I] vs.size _ _ _ (fun _=>true) (fun j y=>∃ p,xs[j]?=some p∧F p y) ⟨rfl,fun A' hA'=>PC hA' I (η.ρ l) (AE axlt) (accO C (η.ρ d) vs m) vs m rfl Ts vals (fun j hj=>?_) (fun j hj=>AE (Tlt j hj)),fun j v e=>e.2▸h2 j,
   ⟨⟨_,hk3 _ _ hIP eI,rfl,rfl⟩,hax,tup3⟩,fun b hb=>?_,lim3,fun hm=>?_,fun href hhref=>⟨fun A' E' i va vb s₂ m₂ hA' hd hu hP hn hma hmb hkp=>Ad ⟨rfl,_,_,rfl,fun _ _ e=>e⟩,fun A' E' i va vb s₂ m₂ hA' hd hu hP hpz hn hma hmb hkp=>?_⟩,fun a h₅ tk gs hgb hag hsz₅ hk₅ W hat=>?_⟩
  ·obtain ⟨e,_⟩:=hT j (by lia)
   rw [← CV]; exact e
  ·have:I<h3.objs.size:=by lia
   rcases Ap.mp hb with rfl | hb
   ·exact this
   ·rcases Ap.mp hb with rfl | hb
    ·exact BK axlt this
    ·obtain ⟨j,hj,rfl⟩:=As.mp hb
     exact BK (Tlt j (BB.mp hj)) this
  ·have:cStatics=I:=by simpa using hm
   exact absurd hst (Bh.mpr (this▸hlo))
  ·obtain ⟨hi',hP⟩:=hP
   obtain ⟨_,_,p,t,u,hp1,hp2⟩:=hT i (by lia)
   rw [← hP] at hp2
   have e0:[va,vb]=[.str (S p.1) t,.str (S p.2) u]:=by have:=congrArg Array.toList hp2; exact this
   have e1:va=.str (S p.1) t:=(List.cons.inj e0).1
   have e2:vb=.str (S p.2) u:=(List.cons.inj (List.cons.inj e0).2).1
   subst e1 e2
   refine AC (helt A' E' s₂ m₂ _ code p t u (Au hp1) hA' (fun β o e n=>?_) hn hma hmb) (fun y s3 z=>⟨⟨p,hp1,z.1⟩,z.2⟩) fun _ _ z=>z
   have e3:=bk3 β o e n
   refine hkp β (BB.mpr (Ba e3)) (fun hm=>?_) o (hhref β o e3)
   have:β=I:=by simpa using hm
   exact absurd (Ba e) (Bh.mpr (this▸hlo))
  ·have hW:(passing (fun _=>true) vs.size 0).length=xs.length:=by rw [hp,AN,hlen]
   have hF:(fun (j:Nat) (y:Value)=>∃ i:Nat,(passing (fun _=>true) vs.size 0)[j]?=some i∧∃ p,xs[i]?=some p∧F p y)=fun (j:Nat) (y:Value)=>∃ p,xs[j]?=some p∧F p y:=by
    funext j y
    refine propext ⟨fun ⟨i,a1,a2⟩=>?_,fun ⟨p,a1,a2⟩=>⟨j,?_,p,a1,a2⟩⟩
    ·rw [hp] at a1
     have hj:=(Am.mp a1).1
     rw [BW (by simpa using hj)] at a1
     obtain rfl:=Option.some.inj a1; exact a2
    ·rw [hp,BW]
     have:=(Am.mp a1).1; lia
   rw [hW,hF] at W
   have hk5:∀ b o,¬G.tb b->s.heap.get? b=some o->h₅.get? b=some o:=fun b o n e=>hk₅ b o (hk3 b o (fun q=>n (q▸tP)) (k1 b o e))
   have ex5:∀ b o,s.heap.get? b=some o->∃ o',h₅.get? b=some o':=fun b o e=>by
    by_cases q:b=P
    ·obtain ⟨o',e'⟩:=hP3; exact ⟨o',q▸hk₅ _ _ e'⟩
    ·exact ⟨o,hk₅ _ _ (hk3 b o q (k1 b o e))⟩
   obtain ⟨R5,_⟩:=R.grow (s':={ s with heap:=h₅,toks:=tk,gens:=s.gens.push gs }) hk5 ex5 (old3.step_keeps hk₅) (tabs3.keeps hk₅) (R.gens.push hgb) rfl
   refine q a _ ⟨⟨_,_,_,_,W,hat,fun i s' st=>st.1.typeIs,List.mem_cons_self,fun b hb=>?_,fun b hb=>?_,fun b o _ n e=>hk5 b o n e⟩,R5,ex5⟩
   ·show b<h₅.objs.size
    rw [hsz₅]
    rcases Ap.mp hb with rfl | hb
    ·exact AY _
    ·rcases Ap.mp hb with rfl | hb
     ·exact AQ hag
     ·exact AQ (BK (BB.mp hb) hag)
   ·rw [hI]
    rcases Ap.mp hb with rfl | hb
    ·show I≤h3.objs.size
     lia
    ·have:b=I:=by simpa using hb
     exact A1 this.symm
 refine ⟨lim bk1,?_⟩
 cases hnf:codeAmong pos ps'.toList with
 | some code=>exact wpAny_genexprCode_hit hcode hcd1 hnf (main code h1 s.toks (fun _ _ _ e=>e) ⟨_,htb1.2⟩ R1.old R1.tabs (Ak _))
 | none =>
  refine wpAny_genexprCodeX hcode hcd1 htb1 hnf fun c' h3 tk3 hx3 hge hlt hcode3 hrec3 htab3 _=>main (.ref c') h3 tk3 (fun b o hb e=>hx3 b o hb e) ⟨_,htab3.2⟩ (R1.old.step_table hG.tab htb1 htab3 hx3 hG.ns) ?_ (Ab hge (Ay hlt))
  intro c2 P2 ps2 x1 x2
  obtain ⟨k,ps3,t3,e3⟩:=R1.tabs c2 P2 ps2 x1 x2
  refine ⟨fun o e=>hx3 _ _ (fun q=>?_) (k o e),?_⟩
  ·obtain ⟨⟨o,vs,a,b,_⟩,_⟩:=x2
   rw [q,hG.tab.2] at a; obtain rfl:=Option.some.inj a; contradiction
  by_cases q:P2=P
  ·exact ⟨_,by rw [Dq]; exact TriplesOk_snoc _ _ _ _ tr,q▸htab3.2⟩
  ·exact ⟨ps3,t3,hx3 _ _ q e3⟩
end
end
section
open Builtin Builtin.Str
theorem NX (a b:Value):argsOk "sum" ⟨[a,b],[]⟩:=by unfold argsOk; kernel_rfl
section
variable {prog:Program} {w:World} {A:Around} {E:PV} {s:Shared}
theorem NJ {I:Addr} {fp wr:List Addr} {Gn:Array GenState->Array GenState->Prop} {n:Nat} {P:Nat->Value->Prop} {St:Nat->Shared->Prop} {val:Nat->Int} {t0:Tok} {Q:PV}
  (W:WalksS prog w A.in1 I fp wr Gn n P St) (hst:St 0 s) (hfp:∀ b∈fp,b<s.heap.objs.size) (hval:∀ i v,P i v->∃ t,v=.int (val i) t) (hQ:∀ s' t',Moved wr Gn s s'->Q (.int (preSum val n) t') s') :
  wpAny (model prog w) A (call (.builtin "sum") [.ref I,.int 0 t0]) Q E s:=by
 refine call_function_tree F.kind_sum F.plain_sum F.entry_sum (NX _ _) ?_
 delta Builtin.«sum»
 dsimp only [AW,Dy]
 rw [if_neg (by decide)]
 refine Aa (Bi (show Builtin.Builtins.bindParams "sum" ["start"] 0 ⟨[.int 0 t0],[]⟩=pure [some (.int 0 t0)] from rfl) ?_)
 refine Aa (W.self 0 s _ _ hst ?_)
 dsimp only
 rw [if_pos (by decide)]
 refine Aa (EB (Aa (wpAny_mkInt (Aa (Ad ?_)))))
 dsimp only [EJ,List.forIn_nil]
 refine Aa (Aa (Aa (EP (T := "int") (b:=false) (FE _ _ _) PySem.sub_int_str ?_)))
 simp only [BN,if_false]
 refine Ad (Aa (Aa (EP (T := "int") (b:=false) (FE _ _ _) PySem.sub_int_bytes ?_)))
 simp only [BN,if_false]
 refine Ad (Aa (Aa (EP (T := "int") (b:=false) (FE _ _ _) PySem.sub_int_bytearray ?_)))
 simp only [BN,if_false]
 refine Ad (Ad ?_)
 refine Aa (BZ ?_)
 have hSf:s.heap.objs.size∉fp:=fun hm=>Cm _ (hfp _ hm)
 refine Ad ⟨DY F.plain_sum_loop _,codeAny_sum_loopAnyS W val hval s.heap.objs.size hSf n 0 _ s.toks 0 0 (.inl rfl) rfl (A4 _)
  (W.frame 0 s _ _ hst (by first | exact Ak _ | exact BP _ | omega) fun b _ o e=>AD _ e) (Ah _ rfl) fun s' t' hm=>?_⟩
 exact hQ s' t' (hm.drop_new (by first | exact Ak _ | exact BP _ | omega))
end
section
variable {G:Gb} {c:Cx} {η:Et} {σ:St} {s:Shared}
theorem Mv.over {n:Nat} {F:Nat->Value->Prop} {a:Addr} {s5 s5' s6:Shared} {wr:List Addr} {gn:Nat} (R:Rel G c η σ s) (R5:Rel G c η σ s5) (ex2:∀ b o,s.heap.get? b=some o->∃ o',s5.heap.get? b=some o') (hwr:∀ b∈wr,s.heap.objs.size≤b)
  (hk:∀ b o,b∉wr->¬G.tb b->s.heap.get? b=some o->s5.heap.get? b=some o) (hs5:s5'={ s5 with toks:=s5'.toks }) (hm:Moved wr (GenOnlyQ gn) s5' s6):Rel G c η σ s6∧∀ own,Stp G own η η s s6:=by
 have h5:s5'.heap=s5.heap:=by rw [hs5]
 have g5:s5'.gens=s5.gens:=by rw [hs5]
 have o5:s5'.os=s5.os:=by rw [hs5]
 have hlo:∀ b∈wr,G.h₀.objs.size≤b:=fun b hb=>Ab R.sizeLe (hwr b hb)
 have nw:∀ b o,s.heap.get? b=some o->b∉wr:=fun b o e h=>absurd (Ba e) (Bh.mpr (hwr b h))
 have mh:∀ b o,b∉wr->s5.heap.get? b=some o->s6.heap.get? b=some o:=fun b o hb e=>hm.heap b o hb (by rw [h5]; exact e)
 obtain ⟨o6,t6⟩:=PI R5.old R5.tabs hlo mh
 have b5:AllBare s5'.gens:=by rw [g5]; exact R5.gens
 refine R.grow (fun b o n e=>mh b o (nw b o e) (hk b o (nw b o e) n e)) (fun b o e=>?_) o6 t6 (b5.movedS hm) (hm.os.trans (o5.trans (R5.os.trans R.os.symm)))
 obtain ⟨o',e'⟩:=ex2 b o e
 exact ⟨o',mh b o' (nw b o e) e'⟩
end
theorem WE.sumGen {G:Gb} {c:Cx} {σ:St} {gen:Expr} {x name:Str} {b:Bool} {p0 p1 p2 pos:Pos} {i k:Nat} {l d:Lb} {C:Addr} {ys:List AV} {es:List (Str×AV)} {n:Nat} {val:Nat->Int} {F:Nat->Value->Prop} {Q:PA}
  (hgen:∀ η s,Rel G c η σ s->∀ Q:Value->Shared->Prop,(∀ a s5,Mv G c η σ s n F a s5->Q (.ref a) s5)->wpAny (mo G) c.A (eval gen c.env) Q FF s) (hval:∀ i v,F i v->∃ t,v=.int (val i) t)
  (hi:c.ns[i]?=some (x,b)) (hv:lg σ.loc i=some (.ref l)) (hl:σ.H l=some (.acc C ys d)) (hd:σ.H d=some (.attrs es)) (hk:es[k]?=some (name,.int 0)) (hC:IF G.K C) (hn:NoCls G.K C name)
  (hsum:nsIn G.K mainGlobals "sum" = some Av) (hks:c.env.kindOf "sum" = some .globalImplicit)
  (he:eval (.Call (.Name "sum" p0) [gen,.Attribute (.Name x p1) name p2] [] pos) c.env=(eval (.Name "sum" p0) c.env >>=fun f=>callWith pos f [] (backTo pos (starEach [gen,.Attribute (.Name x p1) name p2] c.env)) []))
  (hse:starEach [gen,.Attribute (.Name x p1) name p2] c.env=(false,eval gen c.env)::starEach [.Attribute (.Name x p1) name p2] c.env) (hp:(backTo pos (starEach [gen,.Attribute (.Name x p1) name p2] c.env)).any (·.1)=false)
  (hat:attributeBase (.Name x p1) name c.env (eval (.Name x p1) c.env)=eval (.Name x p1) c.env)
  (q:Q (.int (preSum val n)) σ):WE G c (.Call (.Name "sum" p0) [gen,.Attribute (.Name x p1) name p2] [] pos) σ Q:=fun η s R=>by
 rw [he]
 refine Aa (R.raw hsum (v:=.builtin "sum") (by kernel_rfl) (by decide +kernel) hks (by decide +kernel) ?_)
 refine Dh (P:=fun h=>∃ k,(k=BQ∨k=Bv∨k=Bc)∧Looks (mo G) h (keeperOf (.builtin "sum")) k) (by rw [hp]; rfl) (fun _ x=>x) (Hz hp (Ck (hgen η s R _ fun a s5 U=>?_) hse))
 obtain ⟨⟨fp,wr,gn,St,W,hst,hT,ha,hfp,hwr,hk5⟩,R5,ex2⟩:=U
 refine Ck (Attribute_any_ (GH (R5.load hi hv fun v' hv'=>?_) (R.ok.names x b (Au hi)).1) (by rw [arm_eval_Attribute,hat])) rfl
 obtain ⟨rfl,dl⟩:=hv'.refE
 obtain ⟨vs,m,en,ne,I,_,_,r,nd⟩:=R5.acc hl hd
 obtain ⟨v,hv,vr⟩:=Ie (n:=ne) r nd hk
 obtain ⟨_,rfl⟩:=vr.intE
 refine Jg R5.K I hC (findObj_own hC.hd hn rfl hv) rfl (Cv ⟨⟨.machine,.inr (.inl rfl),By rfl⟩,?_⟩)
 refine NJ (val:=val) W.in4_1 (W.frame 0 s5 s5.heap _ hst (BP _) fun _ _ _ e=>e) hfp hval fun s6 t6 hm=>?_
 obtain ⟨R6,st⟩:=Mv.over (n:=n) (F:=F) (a:=a) R R5 ex2 hwr hk5 rfl hm
 exact ⟨_,σ,η,q,.int ..,R6,st _⟩
theorem WE.joinGen {G:Gb} {c:Cx} {σ:St} {gen:Expr} {x:Str} {tx:Tok} {p0 apos pos:Pos} {n:Nat} {txt:Nat->List Nat} {F:Nat->Value->Prop} {Q:PA}
  (hgen:∀ η s,Rel G c η σ s->∀ Q:Value->Shared->Prop,(∀ a s5,Mv G c η σ s n F a s5->Q (.ref a) s5)->wpAny (mo G) c.A (eval gen c.env) Q FF s) (hval:∀ i v,F i v->∃ t,v=.str (S (txt i)) t)
  (hx:nsIn G.K mainGlobals x=some (some (.str (S []) tx))) (hks:c.env.kindOf x=some .globalImplicit) (hdb:(x==("__debug__" : Str))=false) (hz:(((A5 n).map txt).map AH).sum≤2 ^ 20) (hnz:n≤2 ^ 20)
  (hb:attributeBase (.Name x p0) "join" c.env (eval (.Name x p0) c.env)=eval (.Name x p0) c.env) (hline:(apos.endLine==pos.line)=true)
  (hse:starEach [gen] c.env=[(false,eval gen c.env)]) (hp:(backTo pos (starEach [gen] c.env)).any (·.1)=false) (hpa:(backTo pos (starEach [gen] c.env)).all (fun x=>!x.1)=true)
  (q:Q (.str (S ((A5 n).map txt).flatten)) σ):WE G c (.Call (.Attribute (.Name x p0) "join" apos) [gen] [] pos) σ Q:=fun η s R=>by
 show wpAny (mo G) c.A (do
  let ov ← attributeBase (.Name x p0) "join" c.env (eval (.Name x p0) c.env)
  standAt apos.atName
  methodCall (.Name x p0) "join" apos pos c.env ov ([gen].length+([]:List Keyword).length) (backTo pos (starEach [gen] c.env)) (backToKw pos (keywordEach [] c.env))) _ _ s
 rw [hb]
 refine Aa (R.rawG hx hks hdb (Aa (Bu ?_)))
 have hfew:methodCallForm ([gen].length+([]:List Keyword).length) (backTo pos (starEach [gen] c.env)) (backToKw pos (keywordEach [] c.env))=true:=by
  unfold methodCallForm
  rw [hpa]; rfl
 unfold methodCall
 rw [hfew]
 refine Aa (Ax ?_)
 unfold calleeOf
 rw [if_pos rfl]
 refine GM.join ?_
 have hpos:methodCallPos true (.Name x p0) c.env apos pos=pure pos:=by unfold methodCallPos; rw [hline]; rfl
 dsimp only
 rw [hpos]
 refine Aa (Ad ?_)
 refine Dh (P:=fun h=>∃ k,(k=BQ∨k=Bv∨k=Bc)∧Looks (mo G) h (keeperOf (.builtin "str.join")) k) (by rw [hp]; rfl) (fun _ x=>x) (Hz hp (Ck (hgen η s R _ fun a s5 U=>?_) hse))
 obtain ⟨⟨fp,wr,gn,St,W,hst,hT,ha,hfp,hwr,hk5⟩,R5,ex2⟩:=U
 refine Cv ⟨⟨.machine,.inr (.inl rfl),By rfl⟩,?_⟩
 refine SC.joinGen W.in4_2 hT hst hfp ha (fun j v h=>let ⟨t,e⟩:=hval j v h; ⟨_,t,e⟩) (fun s6 lt hm hacc=>?_) (by unfold sizeLine; exact Ab (by assumption) (by decide))
 have hl:lt.map (·.1)=((A5 n).map txt).map S:=by
  have hsz:lt.length=n:=by simpa [strValues] using hacc.1
  apply Fw
  intro j
  by_cases hj:j<n
  ·have hj':j<lt.length:=hsz▸hj
   have h1:(strValues lt).toArray[j]?=some (.str lt[j].1 lt[j].2):=by simp [strValues,hj']
   obtain ⟨t,e⟩:=hval j _ (hacc.2 j _ h1)
   have e:Value.str lt[j].1 lt[j].2=.str (S (txt j)) t:=e
   injection e with e1 e2
   simp [hj',hj,e1]
  ·rw [BI (by simp; lia),BI (by simp; exact Bh.mp (by assumption))]
 rw [hl]
 refine ⟨joinOk_of ?_,fun t' k=>?_⟩
 ·have e:(((A5 n).map txt).map S).map (·.length)=((A5 n).map txt).map AH:=by simp [EY]
  rw [e]; simp at hz ⊢; exact Ab (by assumption) (by decide)
 ·rw [LK]
  obtain ⟨R6,st⟩:=Mv.over (n:=n) (F:=F) (a:=a) R R5 ex2 hwr hk5 rfl hm
  have R7:Rel G c η σ { s6 with heap:=s6.heap,toks:=k }:=R6.ext fun _ _ e=>e
  have st7:Stp G c.own η η s6 { s6 with heap:=s6.heap,toks:=k }:=.ext fun _ _ e=>e
  exact ⟨_,σ,η,q,.str ..,R7,(st _).trans st7⟩
end
section
open Builtin Builtin.Str
section
variable {G:Gb} {A:Around} {E:PV} {t:Shared} {env:Env} {m:Str->Option Value}
theorem Uu {x:Str} {v:Value} {pos:Pos} {Q:PV} (hk:env.scope.kind=.function) (hx:env.kindOf x=some .local) (hn:t.heap.Ns env.locals m) (hm:m x=some v) (hd:(x==("__debug__" : Str))=false) (q:Q v t):wpAny (mo G) A (eval (.Name x pos) env) Q E t :=
 GH (wpAny_loadName_local hk hx hn hm q) hd
theorem PY {x:Str} {a:List Nat} {tt:Tok} {p0 p1 pos:Pos} {Q:PV} (gok:G.Ok) (bk:∀ β o,G.h₀.get? β=some o->¬G.tb β->t.heap.get? β=some o) (hg:env.globals=mainGlobals) (hbn:env.builtins=builtinsNs) (hk:env.scope.kind=.function)
  (e:nsIn G.K mainGlobals "len" = some Av) (hl:env.kindOf "len" = some .globalImplicit) (hx:env.kindOf x=some .local) (hn:t.heap.Ns env.locals m) (hm:m x=some (.str (S a) tt)) (hd:(x==("__debug__" : Str))=false) (hz:a.length≤2 ^ 30)
  (he:eval (.Call (.Name "len" p0) [.Name x p1] [] pos) env=(eval (.Name "len" p0) env >>=fun f=>callWith pos f [] (backTo pos (starEach [.Name x p1] env)) [])) (hse:starEach [.Name x p1] env=[(false,eval (.Name x p1) env)]) (hp:(backTo pos (starEach [.Name x p1] env)).any (·.1)=false)
  (q:∀ t' tk,Q (.int a.length t') { t with toks:=tk }):wpAny (mo G) A (eval (.Call (.Name "len" p0) [.Name x p1] [] pos) env) Q E t:=by
 rw [he]
 refine Aa (Uv gok bk hg hbn hk e (v:=.builtin "len") (by kernel_rfl) (by decide +kernel) hl (by decide +kernel) ?_)
 refine Dh (P:=fun h=>∃ k,(k=BQ∨k=Bv∨k=Bc)∧Looks (mo G) h (keeperOf (.builtin "len")) k) (by rw [hp]; rfl) (fun _ x=>x) (Hz hp (Ck (Uu hk hx hn hm hd (Cv ⟨⟨.machine,.inr (.inl rfl),By rfl⟩,?_⟩)) hse))
 refine P.len_str (by rw [Iu]; lia) ?_
 rw [Iu]; exact q _ _
theorem QR {x xa xb:Str} {a b:List Nat} {ta tb tx:Tok} {p0 p1 p2 p3 apos pos:Pos} {kt:Nat} {Q:PV} (gok:G.Ok) (bk:∀ β o,G.h₀.get? β=some o->¬G.tb β->t.heap.get? β=some o) (hg:env.globals=mainGlobals) (hk:env.scope.kind=.function)
  (e:nsIn G.K mainGlobals x=some (some (.str (S []) tx))) (hx:env.kindOf x=some .globalImplicit) (hd:(x==("__debug__" : Str))=false) (hxa:env.kindOf xa=some .local) (hxb:env.kindOf xb=some .local) (hn:t.heap.Ns env.locals m) (hma:m xa=some (.str (S a) ta)) (hmb:m xb=some (.str (S b) tb))
  (hda:(xa==("__debug__" : Str))=false) (hdb:(xb==("__debug__" : Str))=false) (hz:a.length+b.length≤2 ^ 20)
  (hb:attributeBase (.Name x p0) "join" env (eval (.Name x p0) env)=eval (.Name x p0) env) (hline:(apos.endLine==pos.line)=true)
  (hse:starEach [.Tuple [.Name xa p1,.Name xb p2] kt p3] env=[(false,eval (.Tuple [.Name xa p1,.Name xb p2] kt p3) env)]) (hp:(backTo pos (starEach [.Tuple [.Name xa p1,.Name xb p2] kt p3] env)).any (·.1)=false) (hpa:(backTo pos (starEach [.Tuple [.Name xa p1,.Name xb p2] kt p3] env)).all (fun x=>!x.1)=true)
  (q:∀ t' h' tk,(∀ b o,t.heap.get? b=some o->h'.get? b=some o)->Q (.str (S (a++b)) t') { t with heap:=h',toks:=tk }):wpAny (mo G) A (eval (.Call (.Attribute (.Name x p0) "join" apos) [.Tuple [.Name xa p1,.Name xb p2] kt p3] [] pos) env) Q E t:=by
 generalize hT:Expr.Tuple [.Name xa p1,.Name xb p2] kt p3=T at *
 show wpAny (mo G) A (do
  let ov ← attributeBase (.Name x p0) "join" env (eval (.Name x p0) env)
  standAt apos.atName
  methodCall (.Name x p0) "join" apos pos env ov ([T].length+([]:List Keyword).length) (backTo pos (starEach [T] env)) (backToKw pos (keywordEach [] env))) _ _ t
 rw [hb]
 refine Aa (Tc gok bk hg hk e hx hd (Aa (Bu ?_)))
 have hfew:methodCallForm ([T].length+([]:List Keyword).length) (backTo pos (starEach [T] env)) (backToKw pos (keywordEach [] env))=true:=by
  unfold methodCallForm
  rw [hpa]; rfl
 unfold methodCall
 rw [hfew]
 refine Aa (Ax ?_)
 unfold calleeOf
 rw [if_pos rfl]
 refine GM.join ?_
 have hpos:methodCallPos true (.Name x p0) env apos pos=pure pos:=by unfold methodCallPos; rw [hline]; rfl
 dsimp only
 rw [hpos]
 refine Aa (Ad ?_)
 refine Dh (P:=fun h=>∃ k,(k=BQ∨k=Bv∨k=Bc)∧Looks (mo G) h (keeperOf (.builtin "str.join")) k) (by rw [hp]; rfl) (fun _ x=>x) (Hz hp (Ck ?_ hse))
 subst hT
 refine wpAny_Tuple (Ck (Uu hk hxa hn hma hda (Ck (Uu hk hxb hn hmb hdb (Cv ⟨by unfold sizeLine; simp,Cv ⟨⟨.machine,.inr (.inl rfl),By rfl⟩,?_⟩⟩)))))
 refine join_tuple (ys:=[S a,S b]) ⟨_,Ah _ rfl,rfl,_,rfl⟩ (.cons _ _ (.cons _ _ .nil)) (by simp; exact Ab (by assumption) (by decide)) fun t' k=>?_
 have:=LK [a,b]
 simp only [AM,List.map_nil] at this
 rw [this]
 simp only [D9,List.flatten_nil,AL]
 exact q _ _ _ Ho
end
end
section
open Builtin
section
variable {G:Gb} {c:Cx} {σ:St}
theorem WC.callAt {k:Nat} {f:Value} {args:List AV} {H:Hp} {Q:AV->Hp->Prop} (h:WC G k f args H Q) {A:Around} {j:Nat} (hk:k+j≤c.k) (hh:c.hd=false) (hf:A.frames=c.A.frames) (hhd:A.handled=c.A.handled) (hd:A.depth≤c.A.depth+j) (hu:A.units≤c.A.units+50*j)
  {η:Et} {s:Shared} {args':List Value} (R:Rel G c η σ s) (hH:σ.H=H) (ha:VRs η args args'):wpAny (mo G) A (FM f args') (Po G c VR η s fun v σ'=>σ'.loc=σ.loc∧Q v σ'.H) FF s:=by
 have ok:(c.at A (c.k - j)).Ok:=R.ok.at hf hhd (JU (DI hk) hd) (Lk (DI hk) hu)
 have:=WC.call h (c:=c.at A (c.k - j)) (Nat.le_sub_of_add_le hk) hh (R.re ok) hH ha
 exact AC this (fun _ _ z=>Po.un z R.ok) fun _ _ z=>z
theorem Nc {l d:Lb} {C f:Addr} {xs:List AV} {k:Nat} (hl:σ.H l=some (.acc C xs d)) (hs:findIn G.K (.ref C) "__len__" = some (some (.ref f))) (hf:typeIn G.K (.ref f)=some (.type "function")) (hk:k+2≤c.k) (hh:c.hd=false) {Q:Int->St->Prop}
  (h:WC G k (.ref f) [.ref l] σ.H fun v H'=>∃ n:Int,An4 (v=.int n) (0≤n) (n<2 ^ 60) (Q n { σ with H:=H' })) {η:Et} {s:Shared} (R:Rel G c η σ s) :
  wpAny (mo G) c.A.in1 (Builtin.«len» ⟨[.ref (η.ρ l)],[]⟩) (fun fin s'=>Ex2 fun n t=>fin=.done (.ret (.int n t))∧Po G c (fun _ (a b:Int)=>a=b) η s Q n s') FF s:=by
 obtain ⟨vs,m,od,I,r,dd⟩:=R.accI hl
 refine Aa (m:=oneArg "len" _) (Ad ?_)
 have hc:wpAny (mo G) c.A.in1 (call (.ref f) [.ref (η.ρ l)]) (Po G c VR η s fun v σ'=>σ'.loc=σ.loc∧∃ n:Int,An4 (v=.int n) (0≤n) (n<2 ^ 60) (Q n { σ with H:=σ'.H })) FF s :=
  WC.callAt (c:=c) (σ:=σ) h (A:=c.A.in1) (j:=2) hk hh rfl rfl (by show c.A.depth≤_; exact A3 ..) (by show c.A.units+1≤_; lia) R rfl (.cons (.ref (R.D_of hl)) .nil)
 refine Aa (m:=callSpecial? (.ref (η.ρ l)) (A8 "__len__")) (special_fn R.K I hs hf (AC hc (fun r' s' hr=>?_) fun _ _ y=>y))
 obtain ⟨v,σ',η',⟨e1,n,rfl,h0,h1,q⟩,hv,R',st⟩:=hr
 obtain ⟨_,rfl⟩:=hv.intE
 refine Aa (Ax (Ad ?_))
 refine Aa (wpAny_letGo ?_)
 show wpAny _ _ (if n<0 then _ else _) _ _ _
 rw [if_neg (by lia)]
 show wpAny _ _ (if n≥2 ^ 63 then _ else _) _ _ _
 rw [if_neg (by lia)]
 refine Aa (wpAny_mkInt (Ad ⟨n,_,rfl,n,σ',η',?_,rfl,R'.ext (h':=s'.heap) fun _ _ e=>e,st.trans (.ext fun _ _ e=>e)⟩))
 have:σ'={ σ with H:=σ'.H }:=by rw [← e1]
 rw [this]; exact q
theorem WV.lenA {l d:Lb} {C f:Addr} {xs:List AV} {k:Nat} {Q:PA} (hl:σ.H l=some (.acc C xs d)) (hs:findIn G.K (.ref C) "__len__" = some (some (.ref f))) (hf:typeIn G.K (.ref f)=some (.type "function")) (hk:k+2≤c.k) (hh:c.hd=false)
  (h:WC G k (.ref f) [.ref l] σ.H fun v H'=>∃ n:Int,An4 (v=.int n) (0≤n) (n<2 ^ 60) (Q (.int n) { σ with H:=H' })):WV G c (.rig (.builtin "len")) [.ref l] σ Q:=fun η s f' vs' R hf' hvs=>by
 obtain rfl:=hf'.rigE
 obtain ⟨_,rfl,hv⟩:=hvs.E1
 ·
  obtain ⟨rfl,dl⟩:=hv.refE
  ·
   refine Eb kind_len plain_len entry_len (args_len1 _) (AC (Nc hl hs hf hk hh h R) (fun fin s' z=>?_) fun _ _ z=>z)
   obtain ⟨n,t,rfl,n',σ',η',q,rfl,R',st⟩:=z
   exact ⟨_,rfl,_,σ',η',q,.int ..,R',st⟩
theorem WU.tAcc {l d:Lb} {C f:Addr} {xs:List AV} {k:Nat} {Q:PB} (hl:σ.H l=some (.acc C xs d)) (hb:findIn G.K (.ref C) "__bool__" = some none) (hs:findIn G.K (.ref C) "__len__" = some (some (.ref f))) (hf:typeIn G.K (.ref f)=some (.type "function")) (hk:k+2≤c.k) (hh:c.hd=false)
  (h:WC G k (.ref f) [.ref l] σ.H fun v H'=>∃ n:Int,An4 (v=.int n) (0≤n) (n<2 ^ 60) (Q (n !=0) { σ with H:=H' })):WU G c BR truthy (.ref l) σ Q:=fun η s a' R ha=>by
 obtain ⟨rfl,dl⟩:=ha.refE
 ·
  obtain ⟨vs,m,od,I,r,dd⟩:=R.accI hl
  refine Aa (m:=callSpecial? (.ref (η.ρ l)) (A8 "__bool__")) (Aa (Aa (I.type.here ((BG R.K hb).here (Ad ?_)))))
  refine Aa (Aa (I.type.here ((BG R.K hs).here ?_)))
  show wpAny _ _ (runValue (.builtin "len" ⟨[.ref (η.ρ l)],[]⟩) >>=_) _ _ _
  refine Aa (wpAny_runValue (B0 entry_len ?_))
  rw [EL plain_len _]
  refine AC (Nc hl hs hf hk hh h R) (fun fin s' z=>?_) fun _ _ z=>z
  obtain ⟨n,t,rfl,n',σ',η',q,rfl,R',st⟩:=z
  exact Ad ⟨_,σ',η',q,rfl,R',st⟩
theorem WV.strA {l d:Lb} {C f:Addr} {xs:List AV} {k:Nat} {Q:PA} (hl:σ.H l=some (.acc C xs d)) (hs:findIn G.K (.ref C) "__str__" = some (some (.ref f))) (hf:isFn G.K (.ref f)=true) (hk:k+2≤c.k) (hh:c.hd=false)
  (h:WC G k (.ref f) [.ref l] σ.H fun v H'=>∃ x:Str,v=.str x∧Q (.str x) { σ with H:=H' }):WV G c (.rig (.type "str")) [.ref l] σ Q:=fun η s f' vs' R hf' hvs=>by
 obtain rfl:=hf'.rigE
 obtain ⟨_,rfl,hv⟩:=hvs.E1
 ·
  obtain ⟨rfl,dl⟩:=hv.refE
  ·
   obtain ⟨vs,m,od,I,r,dd⟩:=R.accI hl
   have u:=R.ok.units
   refine kso_call (by show c.A.units+1+1<cLine; unfold cLine; lia) R.K I hs hf ?_
   refine AC (WC.callAt (c:=c) (σ:=σ) h (A:=c.A.in1.in1) (j:=2) hk hh rfl rfl (by show c.A.depth≤_; exact A3 ..) (by show c.A.units+1+1≤_; lia) R rfl (.cons (.ref dl) .nil)) (fun v' s' z=>?_) fun _ _ z=>z
   obtain ⟨v,σ',η',⟨e1,x,rfl,q⟩,hv,R',st⟩:=z
   obtain ⟨_,rfl⟩:=hv.strE
   refine ⟨_,σ',η',?_,.str ..,R',st⟩
   have:σ'={ σ with H:=σ'.H }:=by rw [← e1]
   rw [this]; exact q
end
end
section
open Builtin
section
variable {G:Gb} {c:Cx} {σ:St}
theorem WE.named {target value:Expr} {pos:Pos} {Q:PA} (h:WE G c value σ fun v σ1=>WG G c target v σ1 fun σ2=>Q v σ2):WE G c (.NamedExpr target value pos) σ Q:=fun η s R =>
 wpAny_NamedExpr (wb (h η s R) fun v' v σ1 η1 s1 h1 hv R1 st1=>wb (h1 η1 s1 v' R1 hv) fun _ _ σ2 η2 s2 h2 _ R2 st2=>⟨v,σ2,η2,h2,hv.mono st2.le,R2,st1.trans st2⟩)
theorem WE.ifexp {test body orelse:Expr} {pos:Pos} {Q:PA} (h:WT G c test σ fun b σ1=>(b=true->WE G c body σ1 Q)∧(b=false->WE G c orelse σ1 Q)):WE G c (.IfExp test body orelse pos) σ Q:=fun η s R =>
 wpAny_IfExp (wb (h η s R) fun b' b σ1 η1 s1 h1 hb R1 st1=>by
  cases hb
  cases b' with
  | true=>exact HM (h1.1 rfl η1 s1 R1) st1
  | false=>exact HM (h1.2 rfl η1 s1 R1) st1)
theorem W1.asg2 {t1 t2 value:Expr} {pos:Pos} {Q:PF} (h:WE G c value σ fun v σ1=>WG G c t1 v σ1 fun σ2=>WG G c t2 v σ2 fun σ3=>Q .next σ3) (he:(assignEach [t1,t2] c.env).map (·.2)=[assign t1 c.env,assign t2 c.env]) (hw:swappedStores [t1,t2] value c.env=pure none) :
  W1 G c (.Assign [t1,t2] value pos) σ Q:=fun η s R =>
 wpAny_Assign_two (wb (h η s R) fun v' v σ1 η1 s1 h1 hv R1 st1=>wb (h1 η1 s1 v' R1 hv) fun _ _ σ2 η2 s2 h2 _ R2 st2=>wb (h2 η2 s2 v' R2 (hv.mono st2.le)) fun _ _ σ3 η3 s3 h3 _ R3 st3=>⟨.next,σ3,η3,h3,.next,R3,(st1.trans st2).trans st3⟩) he hw
set_option tactic.hygienic true in
theorem WG.tup2 {t1 t2:Expr} {k:Nat} {pos:Pos} {a b:AV} {Q:St->Prop} (hh:c.hd=false) (h:WG G c t1 a σ fun σ1=>WG G c t2 b σ1 Q) (he:assignEach [t1,t2] c.env=[(false,assign t1 c.env),(false,assign t2 c.env)]):WG G c (.Tuple [t1,t2] k pos) (.tup [a,b]) σ Q:=fun η s v' R hv=>by
 obtain ⟨_,_,_,rfl,z,r⟩:=hv.tupE
 ·
  rename_i ad vs n
  have hsz:=r.size
  refine wpAny_assign_Tuple (R.ok.handled hh) ⟨_,R.frz _ _ z,rfl,n,rfl⟩ (by rw [he]; exact hsz) (by rw [he]; rfl) fun h' hx=>?_
  rw [he]
  cases hl:vs.toList with
  | nil=>rw [hl] at r; cases r
  | cons v1 r1 =>
   rw [hl] at r
   cases r with
   | cons c1 c2 =>
    cases c2 with
    | cons d1 d2 =>
     cases d2
     have k1:∀ b o,s.heap.get? b=some o->h'.get? b=some o:=fun b o e=>hx b o (AE (Ba e)) e
     have R1:Rel G c η σ { s with heap:=h',toks:=s.toks }:=R.ext k1
     have st1:Stp G c.own η η s { s with heap:=h',toks:=s.toks }:=.ext k1
     show wpAny _ _ (do holding _ (assign t1 c.env _); assignInOrder [assign t2 c.env] _) _ _ _
     refine Aa (Ax (wb (h η _ _ R1 c1) fun _ _ σ2 η2 s2 h2 _ R2 st2=>?_))
     show wpAny _ _ (do holding _ (assign t2 c.env _); assignInOrder [] _) _ _ _
     refine Aa (Ax (wb (h2 η2 s2 _ R2 (d1.mono st2.le)) fun _ _ σ3 η3 s3 h3 _ R3 st3=>?_))
     exact Ad ⟨(),σ3,η3,h3,trivial,R3,(st1.trans st2).trans st3⟩
theorem WE.or {e1 e2:Expr} {rest:List Expr} {pos:Pos} {Q:PA} (h:WE G c e1 σ fun v σ1=>WU G c BR truthy v σ1 fun b σ2=>(b=true->Q v σ2)∧(b=false->WE G c (.BoolOp .Or (e2::rest) pos) σ2 Q)):WE G c (.BoolOp .Or (e1::e2::rest) pos) σ Q:=fun η s R =>
 BoolOp_or (wb (h η s R) fun v' v σ1 η1 s1 h1 hv R1 st1=>wb (h1 η1 s1 v' R1 hv) fun b' b σ2 η2 s2 h2 hb R2 st2=>by
  cases hb
  cases b' with
  | true=>exact ⟨v,σ2,η2,h2.1 rfl,hv.mono st2.le,R2,st1.trans st2⟩
  | false=>exact HM (h2.2 rfl η2 s2 R2) (st1.trans st2))
theorem WE.and {e1 e2:Expr} {rest:List Expr} {pos:Pos} {Q:PA} (h:WE G c e1 σ fun v σ1=>WU G c BR truthy v σ1 fun b σ2=>(b=false->Q v σ2)∧(b=true->WE G c (.BoolOp .And (e2::rest) pos) σ2 Q)):WE G c (.BoolOp .And (e1::e2::rest) pos) σ Q:=fun η s R =>
 BoolOp_and (wb (h η s R) fun v' v σ1 η1 s1 h1 hv R1 st1=>wb (h1 η1 s1 v' R1 hv) fun b' b σ2 η2 s2 h2 hb R2 st2=>by
  cases hb
  cases b' with
  | false=>exact ⟨v,σ2,η2,h2.1 rfl,hv.mono st2.le,R2,st1.trans st2⟩
  | true=>exact HM (h2.2 rfl η2 s2 R2) (st1.trans st2))
theorem WE.bool1 {op:BoolOp} {e:Expr} {pos:Pos} {Q:PA} (h:WE G c e σ Q):WE G c (.BoolOp op [e] pos) σ Q:=fun η s R=>BoolOp_one (h η s R)
theorem WE.una {op:UnaryOp} {e:Expr} {pos:Pos} {Q:PA} (h:WE G c e σ fun v σ1=>WU G c VR (unaryOp op) v σ1 Q):WE G c (.UnaryOp op e pos) σ Q:=fun η s R =>
 wpAny_UnaryOp (wb (h η s R) fun v' v σ1 η1 s1 h1 hv R1 st1=>HM (h1 η1 s1 v' R1 hv) st1)
theorem WU.neg {a:Int} {Q:PA} (q:Q (.int (-a)) σ):WU G c VR (unaryOp .USub) (.int a) σ Q:=fun η s a' R ha=>by obtain ⟨_,rfl⟩:=ha.intE; exact PyProof.Rows.neg_int (.toks R q (.int ..))
theorem WU.not {v:AV} {Q:PA} (h:WU G c BR truthy v σ fun b σ1=>Q (.bool (!b)) σ1):WU G c VR (unaryOp .Not) v σ Q:=fun η s a' R ha=>by
 refine not_of (wb (h η s a' R ha) fun b' b σ1 η1 s1 h1 hb R1 st1=>?_)
 cases hb
 exact ⟨_,σ1,η1,h1,.rig _,R1,st1⟩
theorem WT.chain {l r1 r2:Expr} {op1 op2:CmpOp} {pos:Pos} {Q:PB}
  (h:WE G c l σ fun a σ1=>WE G c r1 σ1 fun b σ2=>WB G c VR (compareOp op1) a b σ2 fun v σ3=>∃ t,An3 (v=.bool t) ((t=false->Q false σ3)) ((t=true->WE G c r2 σ3 fun d σ4=>WB G c VR (compareOp op2) b d σ4 fun v σ5=>∃ t,v=.bool t∧Q t σ5)))
  (hm:lastMarks [op1,op2] [r1,r2]=false) (he:evalEach [r1,r2] c.env=[eval r1 c.env,eval r2 c.env]):WT G c (.Compare l [op1,op2] [r1,r2] pos) σ Q:=fun η s R=>by
 refine isTrue_chain (ops:=[]) (rs:=[]) (wb (h η s R) fun a' a σ1 η1 s1 h1 ha R1 st1=>?_) hm
 show wpAny (mo G) c.A (do
  let rv ← holding [a'] (eval r1 c.env)
  standAt pos
  let x ← holding [a',rv] (compareOp op1 a' rv)
  release [a',rv] [x]
  if ← holding [x,rv] (truthy x) then testChain pos rv [op2] [eval r2 c.env] else pure false) _ _ _
 refine Aa (Ax (wb (h1 η1 s1 R1) fun b' b σ2 η2 s2 h2 hb R2 st2=>Aa (Bu (Aa (Ax (wb (h2 η2 s2 a' b' R2 (ha.mono st2.le) hb) fun v' v σ3 η3 s3 h3 hv R3 st3=>?_))))))
 obtain ⟨t,rfl,q0,q1⟩:=h3
 obtain rfl:=hv.rigE
 refine Aa (G3 (Aa (Ax (EA ?_))))
 have st:=(st1.trans st2).trans st3
 cases t with
 | false=>exact Ad ⟨false,σ3,η3,q0 rfl,rfl,R3,st⟩
 | true =>
  rw [if_pos rfl]
  show wpAny (mo G) c.A (do
   let rv ← holding [b'] (eval r2 c.env)
   standAt pos
   let x ← operate [b',rv] (compareOp op2 b' rv)
   holding [x] (truthy x)) _ _ _
  refine Aa (Ax (wb (q1 rfl η3 s3 R3) fun d' d σ4 η4 s4 h4 hd R4 st4=>Aa (Bu (Aa (G4 (wb (h4 η4 s4 b' d' R4 (hb.mono (st3.le.trans st4.le)) hd) fun v' v σ5 η5 s5 h5 hv R5 st5=>?_))))))
  obtain ⟨t,rfl,q⟩:=h5
  obtain rfl:=hv.rigE
  exact Ax (EA ⟨t,σ5,η5,q,rfl,R5,st.trans (st4.trans st5)⟩)
noncomputable def isSeq (σ:St) (v:AV) (xs:List AV):Prop:=isL σ v xs∨v=.tup xs
theorem PS {η:Et} {s:Shared} {v:AV} {v':Value} {xs:List AV} {Q:List Value->Shared->Prop} (R:Rel G c η σ s) (hl:isSeq σ v xs) (hv:VR η v v') (hz:xs.length≤2 ^ 20) (q:∀ vs h',VRs η xs vs->(∀ b o,s.heap.get? b=some o->h'.get? b=some o)->Q vs { s with heap:=h' }):StarOf (mo G) c.A FF v' Q s:=by
 rcases hl with hl | rfl
 ·obtain ⟨ad,vs,n,rfl,e,r⟩:=R.list hl hv
  have hlen:=r.size
  refine Aa (Dg (T := "list") ⟨_,e,rfl⟩ G6.lookup ?_)
  rw [if_pos (show (some _).isSome=true from rfl)]
  exact Ad ⟨rfl,FD ad (T := "list") (.inl rfl) e rfl rfl (fun h' hk=>q _ h' r hk) (by unfold sizeLine; lia)⟩
 ·obtain ⟨_,_,_,rfl,z,r⟩:=hv.tupE
  ·
   have hlen:=r.size
   refine Aa (Dg (T := "tuple") ⟨_,R.frz _ _ z,rfl⟩ slot_tuple_iter.lookup ?_)
   rw [if_pos (show (some _).isSome=true from rfl)]
   exact Ad ⟨rfl,FD _ (T := "tuple") (.inr rfl) (R.frz _ _ z) rfl rfl (fun h' hk=>q _ h' r hk) (by unfold sizeLine; lia)⟩
theorem WEs.star {pos p:Pos} {e:Expr} {rest:List Expr} {Q:List AV->St->Prop} (h:WE G c e σ fun v σ1=>∃ xs,An3 (isSeq σ1 v xs) (xs.length≤2 ^ 20) (WEs G c pos rest σ1 fun vs σ2=>Q (xs++vs) σ2)) (he:starEach (.Starred e p::rest) c.env=(true,eval e c.env)::starEach rest c.env) :
  WEs G c pos (.Starred e p::rest) σ Q:=fun η s R=>by
 refine items_star (wb (h η s R) fun v' v σ1 η1 s1 h1 hv R1 st1=>?_) he
 obtain ⟨xs,hs,hz,h1⟩:=h1
 refine PS R1 hs hv hz fun vs h' hvs hk=>?_
 have R2:Rel G c η1 σ1 { s1 with heap:=h',toks:=s1.toks }:=R1.ext hk
 have st2:Stp G c.own η1 η1 s1 { s1 with heap:=h',toks:=s1.toks }:=.ext hk
 refine wb (h1 η1 _ R2) fun ws' ws σ3 η3 s3 h3 hws R3 st3=>⟨_,σ3,η3,h3,(hvs.mono st3.le).append hws,R3,(st1.trans st2).trans st3⟩
theorem Rel.newBm {η:Et} {s:Shared} (R:Rel G c η σ s) {l:Lb} {f:Addr} {tk:Nat} {Q:PA} (d:η.D l) (q:Q (.bm f l) σ):Po G c VR η s Q (.ref s.heap.objs.size) { s with heap:=s.heap.push (methodObj (.ref f) (.ref (η.ρ l))),toks:=tk } :=
 R.newZ Ho H9 (Ah _ rfl) (.bm d (if_pos rfl)) q
structure UN (K:Frag) (C:Addr) (name:Str) (f:Addr):Prop where
 fd:findIn K (.ref C) name=some (some (.ref f))
 ty:typeIn K (.ref f)=some (.type "function")
 gt:specialIn K (.ref f) "__get__" = some (some (.builtin "function.__get__"))
 tk:takesIn K (.ref f)=some false
 cn:copiedNames.contains name=false
theorem WU.bm {l d:Lb} {C f:Addr} {es:List (Str×AV)} {name:Str} {Q:PA} (hl:σ.H l=some (.inst C d)) (hd:σ.H d=some (.attrs es)) (hC:K9 G.K C) (hF:UN G.K C name f) (hn:name∉es.map (·.1)) (q:Q (.bm f l) σ):WU G c VR (getA name) (.ref l) σ Q:=fun η s o' R ho=>by
 obtain ⟨rfl,dd⟩:=ho.refE
 ·
  obtain ⟨ox,en,n,I,_,_,r,nd⟩:=R.inst hl hd
  refine get_bind R.K I (Ef hC.ga).1 (findObj_fn hC.hd hF.fd hF.gt hF.tk hF.cn (HJ r hn)) (Ef hC.ga).2 (BL (fn_get (s:={ s with toks:=s.toks+1 }) R.K hF.ty (handed_on rfl ?_)))
  exact R.newBm dd q
theorem Kr {prog:Program} {w:World} {A:Around} {E:PV} {K:Frag} {C x f:Addr} {s:Shared} {ox:Obj} {od:Option Obj} {name:Str} {Q:PV} (X:K.In s.heap)
  (I:InstAt s.heap x ox C od) (hA:IF K C) (hf:findObj K C od name=some (.bind (.builtin "function.__get__") (.ref f))) (hty:typeIn K (.ref f)=some (.type "function")) (h:Q (.ref s.heap.objs.size) { s with heap:=s.heap.push (methodObj (.ref f) (.ref x)),toks:=s.toks+1 }):wpAny (model prog w) A (getAttr (.ref x) name true) Q E s:=by
 obtain ⟨hp,g,d,t,os⟩:=s
 have L0:=I.type (M:=model prog w)
 have L1:=BG (M:=model prog w) X hA.ga
 have L2:=BG (M:=model prog w) X hA.gn
 have L3:=looks_find (M:=model prog w) X I hf
 obtain ⟨cd,hc,ho⟩:=hA.mro
 have sub:Looks (model prog w) hp (isInstance (.ref x) (.type "list")) true:=L0.andThen (Ca X (by unfold mroIn; rw [hc,CE,ho]; rfl))
 refine Aa (Eu (Ax (Aa (L0.at (Aa (L1.at ?_))))))
 show wpAny _ _ (getAttrByItsOwn _ _ _ _ _ _) _ _ _
 refine Aa (L2.at (Aa (DX (Ax ?_))))
 show wpAny _ _ (bindSpecial (.builtin "list.__getattribute__") (.ref x) >>=_) _ _ _
 refine Aa (Bi (C8.bind _) ?_)
 refine AC (Q:=fun v' s'=>v'=.ref hp.objs.size∧s'=⟨hp.push (methodObj (.ref f) (.ref x)),g,d,t+1,os⟩) (E:=fun _ _=>False) (BL (BV C8.plain Gy ?_)) (fun v' s' hv=>?_) fun _ _ z=>z.elim
 ·refine @FG (model prog w) _ _ _ "list.__getattribute__" "list" "__getattribute__" (.ref x) [.str name t] [] _ (by decide +kernel) (by decide +kernel) sub (ES _ _) ?_
  refine Aa (Ad ?_)
  repeat (first | with_reducible refine BL ?_ | lk)
  refine fn_get (s:=⟨hp,g,d,t+1,os⟩) X hty ?_
  exact Ad ⟨rfl,rfl⟩
 ·obtain ⟨rfl,rfl⟩:=hv
  show wpAny _ _ (handedOut _) _ _ _
  rw [handedOut_of rfl]; exact Ad h
theorem WU.bmA {l d:Lb} {C f:Addr} {xs:List AV} {es:List (Str×AV)} {name:Str} {Q:PA} (hl:σ.H l=some (.acc C xs d)) (hd:σ.H d=some (.attrs es)) (hC:IF G.K C) (hF:UN G.K C name f) (hn:name∉es.map (·.1)) (q:Q (.bm f l) σ):WU G c VR (getA name) (.ref l) σ Q:=fun η s o' R ho=>by
 obtain ⟨rfl,dd⟩:=ho.refE
 ·
  obtain ⟨vs,m,en,n,I,_,_,r,nd⟩:=R.acc hl hd
  exact Kr R.K I hC (findObj_fn hC.hd hF.fd hF.gt hF.tk hF.cn (HJ r hn)) hF.ty (R.newBm dd q)
theorem Kpr.bm {f:Addr} {l:Lb} (hf:fnIn G.K f=true):Kpr G (.bm f l):=fun c η σ s f' R hv=>by
 obtain ⟨_,rfl,d,z⟩:=hv.bmE
 exact keeps_M (K:=G.K) hf _ ⟨R.frz _ _ z,R.K⟩
theorem WV.bm {f:Addr} {l:Lb} {vs:List AV} {Q:PA} (h:∀ η s vs',Rel G c η σ s->VRs η (.ref l::vs) vs'->codeAny (mo G) c.A (.call (.ref f) ⟨vs',[]⟩) (retP (Po G c VR η s Q)) s):WV G c (.bm f l) vs σ Q:=fun η s f' vs' R hf hvs=>by
 obtain ⟨_,rfl,d,z⟩:=hf.bmE
 exact BL (Cu (method_call (R.frz _ _ z) (h η s _ R (.cons (.ref d) hvs))) fun r s' z=>by rcases r with e | (v | _ | _ | _)<;>exact z)
theorem WV.bmOf {k:Nat} {f:Addr} {l:Lb} {vs:List AV} {Q:PA} (hk:k≤c.k) (hh:c.hd=false) (h:WC G k (.ref f) (.ref l::vs) σ.H fun v H'=>Q v { σ with H:=H' }):WV G c (.bm f l) vs σ Q :=
 .bm fun η s vs' R hvs=>Cu (h c hk hh η s σ vs' R rfl hvs) fun r s' z=>by
  rcases r with e | (v | _ | _ | _)<;>first | exact z | skip
  obtain ⟨v,σ1,η1,⟨e,q⟩,x,R1,st1⟩:=z
  refine ⟨v,σ1,η1,?_,x,R1,st1⟩
  have:σ1={ σ with H:=σ1.H }:=by rw [← e]
  rw [this]; exact q
theorem WE.methS {o:Expr} {name:Str} {apos pos:Pos} {e:Expr} {es:List Expr} {Q:PA}
  (h:WE G c o σ fun ov σ1=>WU G c VR (getA name) ov σ1 fun f σ2=>Kpr G f∧WEs G c pos (e::es) σ2 fun vs σ3=>WV G c f vs σ3 Q)
  (hb:attributeBase o name c.env (eval o c.env)=eval o c.env) (he:starEach (e::es) c.env=(false,eval e c.env)::starEach es c.env) (hst:(backTo pos (starEach es c.env)).any (·.1)=true) (hfew:methodCallForm ((e::es).length+([]:List Keyword).length) (backTo pos (starEach (e::es) c.env)) (backToKw pos (keywordEach [] c.env))=false)
  (hpos:methodCallPos false o c.env apos pos=pure pos):WE G c (.Call (.Attribute o name apos) (e::es) [] pos) σ Q:=fun η s R=>by
 show wpAny (mo G) c.A (do
  let ov ← attributeBase o name c.env (eval o c.env)
  standAt apos.atName
  methodCall o name apos pos c.env ov ((e::es).length+([]:List Keyword).length) (backTo pos (starEach (e::es) c.env)) (backToKw pos (keywordEach [] c.env))) _ _ s
 rw [hb]
 refine Aa (wb (h η s R) fun ov' ov σ1 η1 s1 h1 hov R1 st1=>Aa (Bu ?_))
 unfold methodCall
 rw [hfew]
 refine Aa (Ax ?_)
 unfold calleeOf
 rw [if_neg BM]
 refine Aa (wb (h1 η1 s1 ov' R1 hov) fun f' f σ2 η2 s2 h2 hf R2 st2=>Ad ?_)
 obtain ⟨kp,h2⟩:=h2
 dsimp only
 rw [hpos]
 refine Aa (Ad ?_)
 have h2':=h2 η2 s2 R2
 rw [he] at h2' ⊢
 refine ks_call (P:=fun h=>∃ k,(k=BQ∨k=Bv∨k=Bc)∧Looks (mo G) h (keeperOf f') k) (by show (false||(backTo pos (starEach es c.env)).any (·.1))=true; rw [hst]; rfl) (fun _ x=>x) (evalArgs_plain (wb h2' fun vs' vs σ3 η3 s3 h3 hvs R3 st3=>?_))
 exact ⟨kp c η3 σ3 s3 f' R3 (hf.mono st3.le),HM (h3 η3 s3 f' vs' R3 (hf.mono st3.le) hvs) ((st1.trans st2).trans st3)⟩
theorem WE.methS1 {o:Expr} {name:Str} {apos pos p:Pos} {e:Expr} {Q:PA}
  (h:WE G c o σ fun ov σ1=>WU G c VR (getA name) ov σ1 fun f σ2=>Kpr G f∧WE G c e σ2 fun v σ3=>∃ xs,An3 (isSeq σ3 v xs) (xs.length≤2 ^ 20) (WV G c f xs σ3 Q))
  (hb:attributeBase o name c.env (eval o c.env)=eval o c.env) (he:starEach [.Starred e p] c.env=[(true,eval e c.env)]) (hfew:methodCallForm ([Expr.Starred e p].length+([]:List Keyword).length) (backTo pos (starEach [.Starred e p] c.env)) (backToKw pos (keywordEach [] c.env))=false)
  (hpos:methodCallPos false o c.env apos pos=pure pos):WE G c (.Call (.Attribute o name apos) [.Starred e p] [] pos) σ Q:=fun η s R=>by
 show wpAny (mo G) c.A (do
  let ov ← attributeBase o name c.env (eval o c.env)
  standAt apos.atName
  methodCall o name apos pos c.env ov ([Expr.Starred e p].length+([]:List Keyword).length) (backTo pos (starEach [.Starred e p] c.env)) (backToKw pos (keywordEach [] c.env))) _ _ s
 rw [hb]
 refine Aa (wb (h η s R) fun ov' ov σ1 η1 s1 h1 hov R1 st1=>Aa (Bu ?_))
 unfold methodCall
 rw [hfew]
 refine Aa (Ax ?_)
 unfold calleeOf
 rw [if_neg BM]
 refine Aa (wb (h1 η1 s1 ov' R1 hov) fun f' f σ2 η2 s2 h2 hf R2 st2=>Ad ?_)
 obtain ⟨kp,h2⟩:=h2
 dsimp only
 rw [hpos]
 refine Aa (Ad ?_)
 rw [he]
 refine ks_call (P:=fun h=>∃ k,(k=BQ∨k=Bv∨k=Bc)∧Looks (mo G) h (keeperOf f') k) rfl (fun _ x=>x) (ks_lone (wb (h2 η2 s2 R2) fun v' v σ3 η3 s3 h3 hv R3 st3=>?_))
 obtain ⟨xs,hs,hz,h3⟩:=h3
 refine PS R3 hs hv hz fun vs h' hvs hk=>?_
 have R4:Rel G c η3 σ3 { s3 with heap:=h',toks:=s3.toks }:=R3.ext hk
 have st4:Stp G c.own η3 η3 s3 { s3 with heap:=h',toks:=s3.toks }:=.ext hk
 exact ⟨kp c η3 σ3 _ f' R4 (hf.mono st3.le),HM (h3 η3 _ f' vs R4 (hf.mono st3.le) hvs) (((st1.trans st2).trans st3).trans st4)⟩
end
end
section
open Builtin
inductive KV (η:Et):List (Int×AV)->List (Int×Value)->Prop where
 | nil:KV η [] []
 | cons {k:Int} {x:AV} {v:Value} {xs:List (Int×AV)} {vs:List (Int×Value)}:VR η x v->KV η xs vs->KV η ((k,x)::xs) ((k,v)::vs)
theorem KV.keys {η:Et} {xs:List (Int×AV)} {vs:List (Int×Value)} (h:KV η xs vs):vs.map (·.1)=xs.map (·.1):=by
 induction h with
 | nil=>rfl
 | cons _ _ ih=>rw [AM,AM,ih]
theorem KV.length {η:Et} {xs:List (Int×AV)} {vs:List (Int×Value)} (h:KV η xs vs):vs.length=xs.length:=by
 induction h with
 | nil=>rfl
 | cons _ _ ih=>exact congrArg (· + 1) ih
theorem KV.get {η:Et} {xs:List (Int×AV)} {vs:List (Int×Value)} (h:KV η xs vs):∀ {i:Nat} {k:Int} {x:AV},xs[i]?=some (k,x)->∃ v,vs[i]?=some (k,v)∧VR η x v:=by
 induction h with
 | nil=>intro i k x e; cases e
 | cons a _ ih =>
  intro i k x e
  cases i with
  | zero=>cases e; exact ⟨_,rfl,a⟩
  | succ i=>exact ih (i:=i) e
noncomputable def aget (es:List (Int×AV)) (k:Int):Option AV:=(es.find? fun kv=>kv.1=k).map (·.2)
noncomputable def aput (es:List (Int×AV)) (k:Int) (x:AV):List (Int×AV):=if es.any (fun kv=>kv.1=k) then es.map (fun kv=>if kv.1=k then (kv.1,x) else kv) else es++[(k,x)]
noncomputable def adel (es:List (Int×AV)) (k:Int):List (Int×AV):=es.filter fun kv=>decide (kv.1≠k)
theorem KV.value {k:Int} {η:Et} {xs:List (Int×AV)} {vs:List (Int×Value)} (h:KV η xs vs):OVR η (aget xs k) (valueAt vs k):=by
 induction h with
 | nil=>exact .none
 | @cons k' x v xs vs a r ih =>
  unfold aget valueAt
  rw [Cs,Cs]
  by_cases h:k'=k
  ·simp only [h,decide_true]; exact .some a
  ·simp only [h,decide_false]; exact ih
theorem KV.append {η:Et} {xs:List (Int×AV)} {vs:List (Int×Value)} (h:KV η xs vs) {ys:List (Int×AV)} {ws:List (Int×Value)} (g:KV η ys ws):KV η (xs++ys) (vs++ws):=by
 induction h with
 | nil=>exact g
 | cons a _ ih=>exact .cons a ih
theorem KV.map {k:Int} {x:AV} {v:Value} {η:Et} {xs:List (Int×AV)} {vs:List (Int×Value)} (h:KV η xs vs) (hx:VR η x v):KV η (xs.map (fun kv=>if kv.1=k then (kv.1,x) else kv)) (vs.map (fun kv=>if kv.1=k then (kv.1,v) else kv)):=by
 induction h with
 | nil=>exact .nil
 | @cons k' x' v' xs vs a r ih =>
  rw [AM,AM]
  by_cases h:k'=k
  ·simp only [h,if_true]; exact .cons hx (h▸ih)
  ·simp only [h,if_false]; exact .cons a ih
theorem KV.any {k:Int} {η:Et} {xs:List (Int×AV)} {vs:List (Int×Value)} (h:KV η xs vs):vs.any (fun kv=>kv.1=k)=xs.any (fun kv=>kv.1=k):=by
 induction h with
 | nil=>rfl
 | cons _ _ ih=>rw [Gj,Gj,ih]
theorem KV.put {η:Et} {k:Int} {x:AV} {v:Value} {xs:List (Int×AV)} {vs:List (Int×Value)} (h:KV η xs vs) (hx:VR η x v):KV η (aput xs k x) (stored vs k v):=by
 unfold aput stored
 rw [h.any]
 split
 ·exact h.map hx
 ·exact h.append (.cons hx .nil)
theorem KV.del {k:Int} {η:Et} {xs:List (Int×AV)} {vs:List (Int×Value)} (h:KV η xs vs):KV η (adel xs k) (without vs k):=by
 induction h with
 | nil=>exact .nil
 | @cons k' x v xs vs a r ih =>
  unfold adel without at *
  rw [CQ,CQ]
  by_cases h:k'=k
  ·simp only [h,ne_eq,not_true_eq_false,decide_false,BN,if_false]; exact ih
  ·simp only [h,ne_eq,not_false_eq_true,decide_true,if_true]; exact .cons a ih
theorem IEs.pairs {η:Et} (prog:Program) (w:World) {es:List (Int×AV)} {en:List DictEntry} (h:IEs η es en):∃ kvs,An3 ((∀ e∈en,∃ k,(intKind prog w).is k e.key=true∧e.hash=(intKind prog w).hash k)) (Pairs (intKind prog w) en kvs) (KV η es kvs):=by
 induction h with
 | nil=>exact ⟨[],(fun _ h=>nomatch h),.nil,.nil⟩
 | @cons k t x v hh xs es e a r ih =>
  obtain ⟨kvs,h1,h2,h3⟩:=ih
  have ki:(intKind prog w).is k (.int k t)=true:=beq_self_eq_true k
  refine ⟨(k,v)::kvs,fun d hd=>?_,.cons ki rfl h2,.cons a h3⟩
  rcases Ap.mp hd with rfl | hd
  ·exact ⟨k,ki,e.symm⟩
  ·exact h1 d hd
set_option tactic.hygienic true in
theorem IEs.back {η:Et} {prog:Program} {w:World} {en:List DictEntry} {kvs:List (Int×Value)} (hp:Pairs (intKind prog w) en kvs):∀ {es:List (Int×AV)},(∀ e∈en,∃ k,(intKind prog w).is k e.key=true∧e.hash=(intKind prog w).hash k)->KV η es kvs->IEs η es en:=by
 induction hp with
 | nil=>intro es _ q; cases q; exact .nil
 | cons h1 h2 r ih =>
  rename_i e kv en kvs
  intro es hk q
  cases q with
  | cons a q =>
  rename_i k x v xs
  obtain ⟨k',hk1,hk2⟩:=hk e (.head _)
  have:k'=k:=(intKind prog w).inj _ _ _ hk1 h1
  subst this
  obtain ⟨t,ht⟩:=GY h1
  obtain ⟨eh,ek,ev⟩:=e
  dsimp only at h2 ht hk2
  subst h2 ht
  exact .cons hk2.symm a (ih (fun e he=>hk e (.tail _ he)) q)
section
variable {G:Gb} {c:Cx} {σ:St}
theorem Rel.noSys {η:Et} {s:Shared} (R:Rel G c η σ s) {l:Lb} (d:η.D l):(η.ρ l==sysModules)=false:=by
 have h1:=R.low l d
 obtain ⟨_,hn,_⟩:=R.gok.lim
 have h2:=hn.lt
 have h3:sysModules<cStatics:=by decide
 exact beq_eq_false_iff_ne.mpr (AG (An (BK h3 h2) h1))
theorem Rel.dictAt {η:Et} {s:Shared} (R:Rel G c η σ s) {l:Lb} {es:List (Int×AV)} {ep:Nat} (hl:σ.H l=some (.dict es ep)):∃ kvs,s.heap.DictAt (intKind G.prog G.w) (η.ρ l) kvs ep∧KV η es kvs:=by
 obtain ⟨o,e,en,rfl,r,nd⟩:=R.heap l _ hl
 obtain ⟨kvs,h1,h2,h3⟩:=r.pairs G.prog G.w
 exact ⟨kvs,⟨_,en,e,⟨rfl,rfl,rfl⟩,rfl,fun e he=>h1 e (G2.mpr he),h2,by rw [h3.keys]; exact nd⟩,h3⟩
theorem IB {η:Et} {h:Heap} {a:Addr} {kvs:List (Int×Value)} {es:List (Int×AV)} (hd:h.DictOf (intKind G.prog G.w) a kvs) (hk:KV η es kvs):Ex2 fun o ep=>h.get? a=some o∧OR G.w η (.dict es ep) o:=by
 obtain ⟨o,en,ep,ho,⟨c1,c2,c3⟩,hdd,k1,k2,k3⟩:=hd
 obtain ⟨oc,od,oda,osl⟩:=o
 dsimp only at c1 c2 c3 hdd
 subst c1 c2 c3 hdd
 exact ⟨_,ep,ho,en,rfl,IEs.back k2 (fun e he=>k1 e (G2.mp he)) hk,by rw [← hk.keys]; exact k3⟩
theorem Hy (k:Int) (t:Tok):(intKind G.prog G.w).is k (.int k t)=true:=by simp [intKind,Value.isInt]
theorem WB.itemD {l:Lb} {es:List (Int×AV)} {ep:Nat} {k:Int} {x:AV} {Q:PA} (hl:σ.H l=some (.dict es ep)) (hx:aget es k=some x) (q:Q x σ):WB G c VR getItem (.ref l) (.int k) σ Q:=fun η s a' b' R ha hb=>by
 obtain ⟨_,rfl⟩:=hb.intE
 obtain ⟨rfl,d⟩:=ha.refE
 ·
  obtain ⟨kvs,hd,hk⟩:=R.dictAt hl
  have hv:=hk.value (k:=k)
  rw [hx] at hv
  generalize e:valueAt kvs k=w at hv
  cases hv with
  | some hv=>exact wpAny_getItem_of (Hy ..) hd.dictOf.mapOf e (.toks R q hv)
theorem WB.inD {l:Lb} {es:List (Int×AV)} {ep:Nat} {k:Int} {Q:PA} (hl:σ.H l=some (.dict es ep)) (q:Q (.bool (aget es k).isSome) σ):WB G c VR (compareOp .In) (.int k) (.ref l) σ Q:=fun η s a' b' R ha hb=>by
 obtain ⟨_,rfl⟩:=ha.intE
 obtain ⟨rfl,d⟩:=hb.refE
 ·
  obtain ⟨kvs,hd,hk⟩:=R.dictAt hl
  refine wpAny_in_of (Hy ..) (R.noSys d) hd.dictOf.mapOf ?_
  have:(valueAt kvs k).isSome=(aget es k).isSome:=by
   have hv:=hk.value (k:=k)
   generalize valueAt kvs k=a at hv
   generalize aget es k=b at hv
   cases hv<;>rfl
  rw [this]; exact .toks R q (.rig _)
theorem WV.getD {l:Lb} {es:List (Int×AV)} {ep:Nat} {k:Int} {Q:PA} (hl:σ.H l=some (.dict es ep)) (q:Q ((aget es k).getD .none) σ):WV G c (.rig (.builtin "dict.get")) [.ref l,.int k] σ Q:=fun η s f' vs' R hf hvs=>by
 obtain rfl:=hf.rigE
 obtain ⟨_,_,rfl,hv,hx⟩:=hvs.E2
 ·
   obtain ⟨_,rfl⟩:=hx.intE
   obtain ⟨rfl,d⟩:=hv.refE
   ·
    obtain ⟨kvs,hd,hk⟩:=R.dictAt hl
    refine call_meetsIn PySem.F.slot_dict_get hd.dictOf.typeIs PySem.F.entry_dict_get (PySem.F.args_dict_get_2 _ _) (meets_dict_get (intKind G.prog G.w) _ (Hy ..) (R.noSys d)) ⟨_,hd.dictOf.mapOf,?_⟩
    have hv:=hk.value (k:=k)
    generalize valueAt kvs k=a at hv
    generalize aget es k=b at hv q
    cases hv with
    | none=>exact .toks R q (.rig _)
    | some h=>exact .toks R q h
theorem WM.dict {l:Lb} {es:List (Int×AV)} {ep:Nat} {name:Str} {id:String} (hl:σ.H l=some (.dict es ep)) (slot:Slot "dict" name id) (hty:typeOf (.builtin id)=pure (.type "method_descriptor")):WM G c (.ref l) name σ (.rig (.builtin id)) [.ref l]:=fun η s ov' pl R hv Q E k=>by
 obtain ⟨rfl,d⟩:=hv.refE
 ·
  obtain ⟨kvs,hd,hk⟩:=R.dictAt hl
  exact getMethod_builtin hd.dictOf.typeIs FH slot hty hd.dictOf.mapOf.noDict (k _ _ s.toks (.rig _) (.cons (.ref d) .nil))
theorem WSet.dict {l:Lb} {es:List (Int×AV)} {ep:Nat} {k:Int} {v:AV} {Q:St->Prop} (hl:σ.H l=some (.dict es ep)) (hz:es.length≤2 ^ 20) (q:∀ ep',Q { σ with H:=up σ.H l (.dict (aput es k v) ep') }):WSet G c (.ref l) (.int k) v σ Q:=fun η s o' k' v' R ho hk' hv=>by
 obtain ⟨_,rfl⟩:=hk'.intE
 obtain ⟨rfl,d⟩:=ho.refE
 ·
  obtain ⟨kvs,hd,hk⟩:=R.dictAt hl
  have hlen:=hk.length
  refine wpAny_setItem_pairs (Hy ..) hd.dictOf (fun h' hd' hs=>?_) (by unfold sizeLine; lia)
  obtain ⟨o,ep',ho,hor⟩:=IB hd' (hk.put hv)
  obtain ⟨R',st⟩:=R.setL (tk:=s.toks+1) hl (by intro q; contradiction) hs ho hor
  exact ⟨(),_,η,q ep',trivial,R',st _⟩
noncomputable def WDel (G:Gb) (c:Cx) (o k:AV) (σ:St) (Q:St->Prop):Prop:=∀ η s o' k',Rel G c η σ s->VR η o o'->VR η k k'->wpAny (mo G) c.A (delItem o' k') (Po G c UR η s fun _ σ'=>Q σ') FF s
theorem WDel.dict {l:Lb} {es:List (Int×AV)} {ep:Nat} {k:Int} {Q:St->Prop} (hl:σ.H l=some (.dict es ep)) (hk0:(aget es k).isSome=true) (hz:es.length≤2 ^ 20) (q:∀ ep',Q { σ with H:=up σ.H l (.dict (adel es k) ep') }):WDel G c (.ref l) (.int k) σ Q:=fun η s o' k' R ho hk'=>by
 obtain ⟨_,rfl⟩:=hk'.intE
 obtain ⟨rfl,d⟩:=ho.refE
 ·
  obtain ⟨kvs,hd,hk⟩:=R.dictAt hl
  have hlen:=hk.length
  refine wpAny_delItem_slot hd.dictOf.typeIs (by decide) F5 (call_meetsIn F5 hd.dictOf.typeIs PySem.F.entry_dict_delitem (PySem.F.args_dict_delitem_2 _ _) (meets_dict_delitem_pairs (intKind G.prog G.w) _ (Hy ..)) ⟨kvs,hd.dictOf,by unfold sizeLine; lia,?_,fun h' hd' hs=>?_⟩)
  ·have hv:=hk.value (k:=k)
   generalize valueAt kvs k=a at hv
   generalize aget es k=b at hv hk0
   cases hv with
   | none=>cases hk0
   | some=>rfl
  ·obtain ⟨o,ep',ho,hor⟩:=IB hd' (hk.del (k:=k))
   obtain ⟨R',st⟩:=R.setL (tk:=s.toks+1) hl (by intro q; contradiction) hs ho hor
   exact ⟨(),_,η,q ep',trivial,R',st _⟩
theorem WE.dict0 {pos:Pos} {Q:PA} {l:Lb} (hl:σ.H l=Av) (q:Q (.ref l) { σ with H:=up σ.H l (.dict [] 0) }):WE G c (.Dict [] [] pos) σ Q:=fun η s R=>by
 refine wpAny_Dict_empty ?_
 obtain ⟨R',st⟩:=R.addL (tk:=s.toks) (ao:=.dict [] 0) (l:=l) Ho H9 (Ah s.heap (o:={ cls:=.type "dict",data:=.dict #[] }) rfl) R.sizeLe hl ⟨#[],rfl,.nil,.nil⟩
 refine ⟨.ref l,_,_,q,?_,R',st _⟩
 have:(η.addL l s.heap.objs.size).ρ l=s.heap.objs.size:=if_pos rfl
 have x:VR (η.addL l s.heap.objs.size) (.ref l) (.ref ((η.addL l s.heap.objs.size).ρ l)):=.ref (.inl rfl)
 rw [this] at x; exact x
theorem Itb.dict {l:Lb} {es:List (Int×AV)} {ep:Nat}:Itb G (.ref l) (es.map fun p=>AV.int p.1) fun σ=>σ.H l=some (.dict es ep):=fun c η σ s v' R kp hv A Q E k=>by
 obtain ⟨rfl,d⟩:=hv.refE
 ·
  obtain ⟨kvs,hd,hk⟩:=R.dictAt kp
  obtain ⟨f1,f2⟩:=HK R
  have hlen:=hk.length
  refine wpAny_pyIter_dict (R.noSys d) hd (k s.heap.objs.size _ s.toks (fun i h=>h.IsKeyIter s.heap.objs.size (η.ρ l) i es.length ep) f1 f2 Ho ?_ ⟨_,Ah _ rfl,rfl,by rw [hlen]; rfl⟩)
  exact {
   at_:=fun i h h' ⟨o,e,hc,hd⟩ k=>⟨o,k o _ e hd,hc,hd⟩
   there:=fun i h ⟨o,e,_⟩=>⟨o,e⟩
   nx:=fun c i η' σ s x R kp le it hx A Q E k=>by
    obtain ⟨kvs',hd',hk'⟩:=R.dictAt kp
    have hlen':=hk'.length
    rw [le.ρ l d] at hd'
    rw [Ai] at hx
    obtain ⟨⟨k0,x0⟩,e1,rfl⟩:=Ao.mp hx
    obtain ⟨v,hv,_⟩:=hk'.get e1
    rw [← hlen'] at it
    refine wpAny_pyNext_dict_item it hd' hv fun key h' hkey it' hs=>?_
    obtain ⟨t,rfl⟩:=GY hkey
    exact k _ h' s.toks (.int ..) (by rw [hlen'] at it'; exact it') hs
   fin:=fun c i η' σ s R kp le it hx A Q E hh k=>by
    obtain ⟨kvs',hd',hk'⟩:=R.dictAt kp
    have hlen':=hk'.length
    rw [le.ρ l d] at hd'
    rw [← hlen'] at it
    exact wpAny_pyNext_dict_end hh it hd' (by rw [Bg] at hx ⊢; simpa [hlen'] using hx) fun h' he=>k h' s.toks he
   self:=fun i s A Q E it h=>wpAny_pyIter_keyiter it h
   go:=fun target v i s A Q E ⟨o,e,hc,_⟩ h=>Hv e hc (by decide) h }
end
end
section
open Builtin
section
variable {G:Gb} {c:Cx} {σ:St}
theorem WI.values {o:Expr} {apos pos:Pos} {l:Lb} {es:List (Int×AV)} {ep:Nat} {K:List AV->(St->Prop)->St->Prop}
  (h:WE G c o σ fun ov σ1=>ov=.ref l∧σ1.H l=some (.dict es ep)∧K (es.map (·.2)) (fun σ=>σ.H l=some (.dict es ep)) σ1)
  (hb:attributeBase o "values" c.env (eval o c.env)=eval o c.env) (hline:(apos.endLine==pos.line)=true):WI G c (.Call (.Attribute o "values" apos) [] [] pos) σ K:=fun η s R=>by
 show wpAny (mo G) c.A (do
  let ov ← attributeBase o "values" c.env (eval o c.env)
  standAt apos.atName
  methodCall o "values" apos pos c.env ov (([]:List Expr).length+([]:List Keyword).length) (backTo pos (starEach [] c.env)) (backToKw pos (keywordEach [] c.env))) _ _ s
 rw [hb]
 refine Aa (wb (h η s R) fun ov' ov σ1 η1 s1 h1 hov R1 st1=>Aa (Bu ?_))
 obtain ⟨rfl,hl,k⟩:=h1
 obtain ⟨rfl,d⟩:=hov.refE
 obtain ⟨kvs,hd,hk⟩:=R1.dictAt hl
 have hlen:=hk.length
 unfold methodCall
 have hfew:methodCallForm (([]:List Expr).length+([]:List Keyword).length) (backTo pos (starEach [] c.env)) (backToKw pos (keywordEach [] c.env))=true:=rfl
 rw [hfew]
 refine Aa (Ax ?_)
 unfold calleeOf
 rw [if_pos rfl]
 refine getMethod_builtin hd.dictOf.typeIs FH F9 PySem.F.type_dict_values hd.dictOf.mapOf.noDict ?_
 have hpos:methodCallPos true o c.env apos pos=pure pos:=by unfold methodCallPos; rw [hline]; rfl
 dsimp only
 rw [hpos]
 refine Aa (Ad ?_)
 refine Dh (P:=fun h=>∃ k,(k=BQ∨k=Bv∨k=Bc)∧Looks (mo G) h (keeperOf (.builtin "dict.values")) k) rfl (fun _ x=>x) (Hz (pos:=pos) (es:=[]) (env:=c.env) rfl (Cv ⟨⟨.machine,.inr (.inl rfl),By rfl⟩,?_⟩))
 refine call_meetsIn F9 hd.dictOf.typeIs PySem.F.entry_dict_values (PySem.F.args_dict_values_1 _) (meets_dict_values (intKind G.prog G.w) _ (R1.noSys d)) ⟨⟨kvs,hd.dictOf⟩,?_⟩
 have k2:∀ b o,s1.heap.get? b=some o->(s1.heap.push { cls:=.type "dict_values",data:=.fields #[.ref (η1.ρ l)] }).get? b=some o:=Ho
 have R2:Rel G c η1 σ1 { s1 with heap:=s1.heap.push { cls:=.type "dict_values",data:=.fields #[.ref (η1.ρ l)] },toks:=s1.toks }:=R1.ext k2
 have st2:Stp G c.own η1 η1 s1 { s1 with heap:=s1.heap.push { cls:=.type "dict_values",data:=.fields #[.ref (η1.ρ l)] },toks:=s1.toks }:=.ext k2
 have hview:Heap.IsValuesView (s1.heap.push { cls:=.type "dict_values",data:=.fields #[.ref (η1.ρ l)] }) s1.heap.objs.size (η1.ρ l):=⟨_,Ah _ rfl,rfl,rfl⟩
 obtain ⟨f1,f2⟩:=HK R2
 refine wpAny_pyIter_values (knd:=intKind G.prog G.w) hview (hd.keep k2) ?_
 refine ⟨_,es.map (·.2),fun σ=>σ.H l=some (.dict es ep),fun i h=>h.IsValIter _ (η1.ρ l) i es.length ep,σ1,η1,_,_,s1.toks,rfl,rfl,R2,st1.trans st2,f1,f2,Ho,?_,⟨_,Ah _ rfl,rfl,by rw [hlen]; rfl⟩,hl,k⟩
 exact {
  at_:=fun i h h' ⟨o,e,hc,hd⟩ k=>⟨o,k o _ e hd,hc,hd⟩
  there:=fun i h ⟨o,e,_⟩=>⟨o,e⟩
  nx:=fun c i η' σ s x R kp le it hx A Q E k=>by
   obtain ⟨kvs',hd',hk'⟩:=R.dictAt kp
   have hlen':=hk'.length
   rw [le.ρ l d] at hd'
   rw [Ai] at hx
   obtain ⟨⟨k0,x0⟩,e1,rfl⟩:=Ao.mp hx
   obtain ⟨v,hv,hr⟩:=hk'.get e1
   rw [← hlen'] at it
   exact wpAny_pyNext_values_item it hd' hv fun h' it' hs=>k _ h' s.toks hr (by rw [hlen'] at it'; exact it') hs
  fin:=fun c i η' σ s R kp le it hx A Q E hh k=>by
   obtain ⟨kvs',hd',hk'⟩:=R.dictAt kp
   have hlen':=hk'.length
   rw [le.ρ l d] at hd'
   rw [← hlen'] at it
   exact wpAny_pyNext_values_end hh it hd' (by rw [Bg] at hx ⊢; simpa [hlen'] using hx) fun h' he=>k h' s.toks he
  self:=fun i s A Q E it h=>wpAny_pyIter_valiter it h
  go:=fun target v i s A Q E ⟨o,e,hc,_⟩ h=>Hv e hc (by decide) h }
end
end
section
open Builtin
noncomputable abbrev nts (xs:List Int):List AV:=xs.map AV.int
theorem Iy {xs:List Int} {i:Nat} {x:Int} (h:xs[i]?=some x):(nts xs)[i]?=some (.int x):=by simp [nts,h]
theorem Ra (xs:List Int) (i:Nat) (x:Int):(nts xs).set i (.int x)=nts (xs.set i x):=by simp [nts]
theorem Iz {η:Et} {xs:List Int}:∀ {vs:List Value},VRs η (nts xs) vs->IntsAre vs xs:=by
 induction xs with
 | nil=>exact fun {vs} h=>h.nilE▸.nil
 | cons x xs ih =>
  intro vs h
  obtain ⟨v,r,rfl,a,b⟩:=h.consE
  obtain ⟨t,rfl⟩:=a.intE
  exact .cons _ _ (ih b)
theorem Pf {η:Et} {vs:List Value} {xs:List Int} (h:IntsAre vs xs):VRs η (nts xs) vs:=by
 induction h with
 | nil=>exact .nil
 | cons n t _ ih=>exact .cons (.int n t) ih
theorem Jd {η:Et} {xs:List Int} {vs:Array Value} (h:VRs η (nts xs) vs.toList):∃ ps:Array (Int×Tok),vs=intItems ps∧ps.toList.map (·.1)=xs:=by
 have key:∀ {xs:List Int} {vs:List Value},VRs η (nts xs) vs->∃ ps:List (Int×Tok),vs=ps.map (fun p=>Value.int p.1 p.2)∧ps.map (·.1)=xs:=by
  intro xs
  induction xs with
  | nil=>intro vs h; rw [h.nilE]; exact ⟨[],rfl,rfl⟩
  | cons x xs ih =>
   intro vs h
   obtain ⟨v,r,rfl,a,b⟩:=h.consE
   obtain ⟨t,rfl⟩:=a.intE
   obtain ⟨ps,h1,h2⟩:=ih b
   exact ⟨(x,t)::ps,by rw [h1]; rfl,by rw [← h2]; rfl⟩
 obtain ⟨ps,h1,h2⟩:=key h
 refine ⟨ps.toArray,?_,by exact h2⟩
 apply Array.ext'
 rw [h1]; simp [intItems]
section
variable {G:Gb} {c:Cx} {σ:St}
theorem WV.range1 {n:Int} {Q:PA} (q:Q (.rng 0 n 1) σ):WV G c (.rig (.type "range")) [.int n] σ Q:=fun η s f' vs' R hf hvs=>by
 obtain rfl:=hf.rigE
 obtain ⟨_,rfl,hv⟩:=hvs.E1
 obtain ⟨_,rfl⟩:=hv.intE; exact call_range_1 (R.newZ Ho H9 (Ah _ rfl) (.rng (if_pos rfl)) q)
theorem WV.range2 {a b:Int} {Q:PA} (q:Q (.rng a b 1) σ):WV G c (.rig (.type "range")) [.int a,.int b] σ Q:=fun η s f' vs' R hf hvs=>by
 obtain rfl:=hf.rigE
 obtain ⟨_,_,rfl,hv,hx⟩:=hvs.E2
 obtain ⟨_,rfl⟩:=hv.intE; obtain ⟨_,rfl⟩:=hx.intE; exact call_range_2 (R.newZ Ho H9 (Ah _ rfl) (.rng (if_pos rfl)) q)
theorem WV.range3 {a b d:Int} {Q:PA} (hd:d≠0) (hz:d.natAbs<1073741824) (q:Q (.rng a b d) σ):WV G c (.rig (.type "range")) [.int a,.int b,.int d] σ Q:=fun η s f' vs' R hf hvs=>by
 obtain rfl:=hf.rigE
 obtain ⟨_,_,_,rfl,hv,hx,hy⟩:=hvs.E3
 obtain ⟨_,rfl⟩:=hv.intE; obtain ⟨_,rfl⟩:=hx.intE; obtain ⟨_,rfl⟩:=hy.intE; exact call_range_3 hd (R.newZ Ho H9 (Ah _ rfl) (.rng (if_pos rfl)) q) (.inl (En hz))
theorem WV.tupleL {v:AV} {xs:List AV} {Q:PA} (hl:isL σ v xs) (hz:xs.length≤2 ^ 20) (q:Q (.tup xs) σ):WV G c (.rig (.type "tuple")) [v] σ Q:=fun η s f' vs' R hf hvs=>by
 obtain rfl:=hf.rigE
 obtain ⟨_,rfl,hv⟩:=hvs.E1
 ·
  obtain ⟨ad,vs,n,rfl,e,r⟩:=R.list hl hv
  have hlen:=r.size
  refine call_tuple_list ⟨_,e,rfl,n,rfl⟩ (fun h' hk=>?_) (by unfold sizeLine; lia)
  have R1:Rel G c η σ { s with heap:=h',toks:=s.toks }:=R.ext hk
  have st1:Stp G c.own η η s { s with heap:=h',toks:=s.toks }:=.ext hk
  exact (R1.newT (tk:=s.toks) Ho H9 (Ah _ rfl) r q).back st1
theorem WV.listL {v:AV} {xs:List AV} {Q:PA} (hl:isSeq σ v xs) (hz:xs.length≤2 ^ 20) (q:NewL xs σ Q):WV G c (.rig (.type "list")) [v] σ Q:=fun η s f' vs' R hf hvs=>by
 obtain rfl:=hf.rigE
 obtain ⟨_,rfl,hv⟩:=hvs.E1
 ·
  rcases hl with hl | rfl
  ·obtain ⟨ad,vs,n,rfl,e,r⟩:=R.list hl hv
   have hlen:=r.size
   exact call_list_seq ad (T := "list") (.inl rfl) e rfl rfl (fun h' c' hk he=>R.newL (tk:=s.toks) hk H9 R.sizeLe he r q) (by unfold sizeLine; lia)
  ·obtain ⟨_,_,_,rfl,z,r⟩:=hv.tupE
   ·
    have hlen:=r.size
    exact call_list_seq _ (T := "tuple") (.inr rfl) (R.frz _ _ z) rfl rfl (fun h' c' hk he=>R.newL (tk:=s.toks) hk H9 R.sizeLe he r q) (by unfold sizeLine; lia)
theorem WV.min2 {a b:Int} {Q:PA} (hh:c.hd=false) (q:Q (.int (if b<a then b else a)) σ):WV G c (.rig (.builtin "min")) [.int a,.int b] σ Q:=fun η s f' vs' R hf hvs=>by
 obtain rfl:=hf.rigE
 obtain ⟨_,_,rfl,hv,hx⟩:=hvs.E2
 ·
   obtain ⟨_,rfl⟩:=hv.intE; obtain ⟨_,rfl⟩:=hx.intE
   refine min_two_ints (R.ok.handled hh) fun h' tk hk=>?_
   have R1:Rel G c η σ { s with heap:=h',toks:=tk }:=R.ext hk
   have st1:Stp G c.own η η s { s with heap:=h',toks:=tk }:=.ext hk
   by_cases h:b<a
   ·rw [if_pos h] at q ⊢; exact ⟨_,σ,η,q,.int ..,R1,st1⟩
   ·rw [if_neg h] at q ⊢; exact ⟨_,σ,η,q,.int ..,R1,st1⟩
theorem Jn (f:Nat->Int):∀ k,argBest (fun i j=>decide (f i<f j)) k≤k∧∀ j,j≤k->f (argBest (fun i j=>decide (f i<f j)) k)≤f j
 | 0=>⟨Ak _,fun j hj=>by rw [Nat.le_zero.mp hj]; exact CN _⟩
 | k+1=>by
  obtain ⟨h1,h2⟩:=Jn f k
  unfold argBest
  by_cases h:f (k+1)<f (argBest (fun i j=>decide (f i<f j)) k)
  ·simp only [h,decide_true,if_true]
   refine ⟨Ak _,fun j hj=>?_⟩
   by_cases hj':j=k+1
   ·subst hj'; exact CN _
   ·exact Bw (Bf h) (h2 j (by lia))
  ·simp only [h,decide_false,BN,if_false]
   refine ⟨by exact AK (by assumption),fun j hj=>?_⟩
   by_cases hj':j=k+1
   ·subst hj'; exact BE.mp (by assumption)
   ·exact h2 j (by lia)
theorem WV.minL {v:AV} {xs:List Int} {Q:PA} (hh:c.hd=false) (hl:isL σ v (nts xs)) (hne:xs≠[]) (q:∀ m,m∈xs->(∀ x∈xs,m≤x)->Q (.int m) σ):WV G c (.rig (.builtin "min")) [v] σ Q:=fun η s f' vs' R hf hvs=>by
 obtain rfl:=hf.rigE
 obtain ⟨_,rfl,hv⟩:=hvs.E1
 ·
  obtain ⟨ad,vs,n,rfl,e,r⟩:=R.list hl hv
  obtain ⟨ps,rfl,hps⟩:=Jd r
  have hsz:ps.size=xs.length:=by rw [← hps]; simp
  have hpos:0<ps.size:=by rw [hsz]; exact CF.mpr hne
  refine min_intList (R.ok.handled hh) ⟨_,e,rfl,n,rfl⟩ hpos fun w h' tk hw hk=>?_
  have R1:Rel G c η σ { s with heap:=h',toks:=tk }:=R.ext hk
  have st1:Stp G c.own η η s { s with heap:=h',toks:=tk }:=.ext hk
  obtain ⟨t,rfl⟩:=intItems_at hw
  obtain ⟨b1,b2⟩:=Jn (numAt ps) (ps.size - 1)
  have at_:∀ i,i<ps.size->xs[i]?=some (numAt ps i):=fun i hi=>by
   rw [← hps,Ai]
   unfold numAt
   simp [hi]
  refine ⟨_,σ,η,q _ (Au (at_ _ (Ag b1 (Br hpos)))) fun x hx=>?_,.int ..,R1,st1⟩
  obtain ⟨i,hi⟩:=Bl.mp hx
  have hil:=(Am.mp hi).1
  have hip:=AJ hil hsz.symm
  have:=at_ i hip
  rw [this] at hi; obtain rfl:=Option.some.inj hi
  exact b2 i (B6 hip)
theorem WV.sumL {v:AV} {xs:List Int} {Q:PA} (hh:c.hd=false) (hl:isL σ v (nts xs)) (q:Q (.int xs.sum) σ):WV G c (.rig (.builtin "sum")) [v] σ Q:=fun η s f' vs' R hf hvs=>by
 obtain rfl:=hf.rigE
 obtain ⟨_,rfl,hv⟩:=hvs.E1
 ·
  obtain ⟨ad,vs,n,rfl,e,r⟩:=R.list hl hv
  obtain ⟨ps,rfl,hps⟩:=Jd r
  refine sum_intListG (R.ok.handled hh) ⟨_,e,rfl,n,rfl⟩ fun h' tk t' hk=>?_
  have R1:Rel G c η σ { s with heap:=h',toks:=tk }:=R.ext hk
  have st1:Stp G c.own η η s { s with heap:=h',toks:=tk }:=.ext hk
  have:preSum (numAt ps) ps.size=xs.sum:=by
   rw [preSum_eq,AR (by simp),hps]
  rw [this]
  exact ⟨_,σ,η,q,.int ..,R1,st1⟩
theorem WV.sorted {v:AV} {xs:List Int} {Q:PA} (hl:isSeq σ v (nts xs)) (h64:xs.length<64) (q:∀ ys:List Int,ys.Perm xs->ys.Pairwise (· ≤ ·)->NewL (nts ys) σ Q):WV G c (.rig (.builtin "sorted")) [v] σ Q:=fun η s f' vs' R hf hvs=>by
 obtain rfl:=hf.rigE
 obtain ⟨_,rfl,hv⟩:=hvs.E1
 ·
  have main:∀ (ad:Addr) (T:String) (o:Obj) (items:Array Value) (n:Nat),(T = "list" ∨ T = "tuple")->s.heap.get? ad=some o->o.cls=.type T->o.data=.seq items n->VRs η (nts xs) items.toList->wpAny (mo G) c.A (call (.builtin "sorted") [.ref ad]) (Po G c VR η s Q) FF s:=fun ad T o items n hT ho hc hd r=>by
   have hlen:=r.size
   rw [Ae] at hlen
   have hI:=Iz r
   refine Eb kind_sorted plain_sorted entry_sorted (args_sorted1 _) ?_
   refine Aa (m:=checkCount "sorted" 1 1 _) (Ad ?_)
   refine Aa (FD ad hT ho hc hd (fun h1 hk1=>?_) (by unfold sizeLine; lia))
   have R1:Rel G c η σ { s with heap:=h1,toks:=s.toks }:=R.ext hk1
   have st1:Stp G c.own η η s { s with heap:=h1,toks:=s.toks }:=.ext hk1
   refine Aa (wpAny_newList (hsz:=by unfold sizeLine; simp; lia) ?_)
   have hoL:(h1.push (seqObj "list" items.toList.toArray 0)).get? h1.objs.size=some (seqObj "list" items.toList.toArray 0):=Ah _ rfl
   refine Aa (Ax (CU slot_list_sort ⟨_,hoL,rfl⟩ entry_list_sort (list_sort_tree hoL hI (by simp; lia) fun out ns' a1 a2 a3=>⟨_,rfl,?_⟩) (args_list_sort _)))
   refine Ad ⟨_,rfl,?_⟩
   obtain ⟨e,he⟩:=sortedHeap_at (vs:=items.toList) (out:=out) hoL
   refine (R1.newL (tk:=s.toks) (fun b ob eb=>?_) H9 R1.sizeLe he (Pf a1) (q ns' a2 a3)).back st1
   have hlt:=Ba eb
   rw [sortedHeap_old (AE hlt) (by rw [size_push']; exact AQ hlt)]
   exact AD _ eb
  rcases hl with hl | rfl
  ·obtain ⟨ad,vs,n,rfl,e,r⟩:=R.list hl hv
   exact main ad "list" _ vs n (.inl rfl) e rfl rfl r
  ·obtain ⟨_,_,_,rfl,z,r⟩:=hv.tupE
   exact main _ "tuple" _ _ _ (.inr rfl) (R.frz _ _ z) rfl rfl r
end
end
section
open PySem.Spec PySem.SeqAt
open Builtin
theorem HG {η:Et} {h:Heap} {xs:List (List Nat)}:∀ {vs:List Value},VRs η (sts xs) vs->ReadsAll h vs (xs.map fun x=>PyData.str (S x)) []:=by
 induction xs with
 | nil=>exact fun {vs} r=>r.nilE▸.nil
 | cons x xs ih =>
  intro vs r
  obtain ⟨v,r,rfl,a,b⟩:=r.consE
  obtain ⟨t,rfl⟩:=a.strE
  exact ReadsAll.cons (Reads.str (h:=h) (S x) t) (ih b)
noncomputable def plainT (x:List Nat):Prop:=Fo (S x)=true
theorem I1:∀ {xs:List (List Nat)},(∀ x∈xs,plainT x)->GJ (xs.map fun x=>PyData.str (S x))=true
 | [],_=>rfl
 | x::r,h=>by simp [GJ,FA,I1 fun y hy=>h y (.tail _ hy),show Fo (S x)=true from h x (.head _)]
theorem Jl:∀ xs:List (List Nat),PyData.depthAll (xs.map fun x=>PyData.str (S x))=0
 | []=>rfl
 | _::r=>by simp [PyData.depthAll,Gd,Jl r]
theorem Ip:∀ xs ys:List (List Nat),noMixAll (xs.map fun x=>PyData.str (S x)) (ys.map fun x=>PyData.str (S x))=true
 | [],[]=>by simp [noMixAll]
 | [],_::_=>by simp [noMixAll]
 | _::_,[]=>by simp [noMixAll]
 | _::r,_::q=>by simp [noMixAll,noMix,Ip r q]
theorem IG:∀ xs ys:List (List Nat),Dk (xs.map fun x=>PyData.str (S x)) (ys.map fun x=>PyData.str (S x))=decide (xs=ys)
 | [],[]=>by simp [Dk]
 | [],_::_=>by simp [Dk]
 | _::_,[]=>by simp [Dk]
 | a::r,b::t=>by
  simp only [AM,Dk,Ej,IG r t]
  by_cases h:a=b
  ·subst h; simp
  ·have:S a≠S b:=fun q=>h (UL.mp q)
   simp [h,this]
section
variable {G:Gb} {c:Cx} {σ:St}
theorem Rel.unitsOk {η:Et} {s:Shared} (R:Rel G c η σ s):c.A.units+64<cLine:=by have:=R.ok.units; unfold cLine; lia
theorem WB.eqI {v w:AV} {xs ys:List Int} {Q:PA} (h1:isL σ v (nts xs)) (h2:isL σ w (nts ys)) (q:Q (.bool (decide (xs=ys))) σ):WB G c VR (compareOp .Eq) v w σ Q:=fun η s a' b' R ha hb=>by
 obtain ⟨a,vs,n,rfl,e,r⟩:=R.list h1 ha
 obtain ⟨b,ws,m,rfl,e',r'⟩:=R.list h2 hb
 exact eq_intsK (vs:=vs.toList) (us:=ws.toList) ⟨_,e,rfl,n,by rfl⟩ (Iz r) ⟨_,e',rfl,m,by rfl⟩ (Iz r') R.unitsOk (.here R q (.rig _))
theorem WB.neI {v w:AV} {xs ys:List Int} {Q:PA} (h1:isL σ v (nts xs)) (h2:isL σ w (nts ys)) (q:Q (.bool (!decide (xs=ys))) σ):WB G c VR (compareOp .NotEq) v w σ Q:=fun η s a' b' R ha hb=>by
 obtain ⟨a,vs,n,rfl,e,r⟩:=R.list h1 ha
 obtain ⟨b,ws,m,rfl,e',r'⟩:=R.list h2 hb
 exact ne_intsK (vs:=vs.toList) (us:=ws.toList) ⟨_,e,rfl,n,by rfl⟩ (Iz r) ⟨_,e',rfl,m,by rfl⟩ (Iz r') R.unitsOk (.here R q (.rig _))
theorem HW {xs:List (List Nat)} (h:∀ x∈xs,plainT x):shaped (.list (xs.map fun x=>PyData.str (S x)))=true:=by
 simp [shaped,FA,Gd,I1 h,Jl]
theorem IU {xs:List (List Nat)} (h:∀ x∈xs,plainT x):shaped (.tuple (xs.map fun x=>PyData.str (S x)))=true:=by
 simp [shaped,FA,Gd,I1 h,Jl]
theorem WB.eqT {v w:AV} {xs ys:List (List Nat)} {Q:PA} (h1:isL σ v (sts xs)) (h2:isL σ w (sts ys)) (p1:∀ x∈xs,plainT x) (p2:∀ x∈ys,plainT x) (q:Q (.bool (decide (xs=ys))) σ):WB G c VR (compareOp .Eq) v w σ Q:=fun η s a' b' R ha hb=>by
 obtain ⟨a,vs,n,rfl,e,r⟩:=R.list h1 ha
 obtain ⟨b,ws,m,rfl,e',r'⟩:=R.list h2 hb
 refine eq_dataH_same (FN e rfl rfl (HG r)) (FN e' rfl rfl (HG r')) (HW p1) (HW p2) R.unitsOk (by simp only [noMix]; exact Ip xs ys) ?_
 simp only [Ej]
 rw [IG]; exact .here R q (.rig _)
theorem WB.neT {v w:AV} {xs ys:List (List Nat)} {Q:PA} (h1:isL σ v (sts xs)) (h2:isL σ w (sts ys)) (p1:∀ x∈xs,plainT x) (p2:∀ x∈ys,plainT x) (q:Q (.bool (!decide (xs=ys))) σ):WB G c VR (compareOp .NotEq) v w σ Q:=fun η s a' b' R ha hb=>by
 obtain ⟨a,vs,n,rfl,e,r⟩:=R.list h1 ha
 obtain ⟨b,ws,m,rfl,e',r'⟩:=R.list h2 hb
 refine ne_dataH_same (FN e rfl rfl (HG r)) (FN e' rfl rfl (HG r')) (HW p1) (HW p2) R.unitsOk (by simp only [noMix]; exact Ip xs ys) ?_
 simp only [Ej]
 rw [IG]; exact .here R q (.rig _)
theorem WB.neTup {xs ys:List (List Nat)} {Q:PA} (p1:∀ x∈xs,plainT x) (p2:∀ x∈ys,plainT x) (q:Q (.bool (!decide (xs=ys))) σ):WB G c VR (compareOp .NotEq) (.tup (sts xs)) (.tup (sts ys)) σ Q:=fun η s a' b' R ha hb=>by
 obtain ⟨_,_,_,rfl,z,r⟩:=ha.tupE
 ·
  obtain ⟨_,_,_,rfl,z',r'⟩:=hb.tupE
  refine ne_dataH_same (Reads.tuple (R.frz _ _ z) rfl rfl (HG r)) (Reads.tuple (R.frz _ _ z') rfl rfl (HG r')) (IU p1) (IU p2) R.unitsOk (by simp only [noMix]; exact Ip xs ys) ?_
  simp only [Ej]
  rw [IG]; exact .here R q (.rig _)
theorem WB.inI {v:AV} {xs:List Int} {k:Int} {Q:PA} (h1:isL σ v (nts xs)) (q:Q (.bool (xs.any (· ==k))) σ):WB G c VR (compareOp .In) (.int k) v σ Q:=fun η s a' b' R ha hb=>by
 obtain ⟨_,rfl⟩:=ha.intE
 obtain ⟨b,ws,m,rfl,e',r'⟩:=R.list h1 hb
 exact in_list_ints (vs:=ws.toList) ⟨_,e',rfl,m,by rfl⟩ (Iz r') (.here R q (.rig _))
theorem WV.isTuple {xs:List AV} {Q:PA} (q:Q (.bool true) σ):WV G c (.rig (.builtin "isinstance")) [.tup xs,.rig (.type "tuple")] σ Q:=fun η s f' vs' R hf hvs=>by
 obtain rfl:=hf.rigE
 obtain ⟨_,_,rfl,hv,hx⟩:=hvs.E2
 ·
   obtain rfl:=hx.rigE
   obtain ⟨_,_,_,rfl,z,r⟩:=hv.tupE
   exact call_isinstance (isinstance_true (Tx := "tuple") F.isi_meta_tuple AutoSeq1.sub_tuple_tuple) ⟨⟨_,R.frz _ _ z,rfl⟩,.here R q (.rig _)⟩
set_option tactic.hygienic true in
theorem WB.mulL {v:AV} {xs:List AV} {k:Int} {Q:PA} (h1:isL σ v xs) (hk0:0≤k) (hk:xs.length*k.toNat≤2 ^ 20) (hk2:k≤2 ^ 20) (q:NewL (Az k.toNat xs).flatten σ Q):WB G c VR (binaryOp .Mult) v (.int k) σ Q:=fun η s a' b' R ha hb=>by
 obtain ⟨_,rfl⟩:=hb.intE
 rename_i u
 obtain ⟨a,vs,n,rfl,e,r⟩:=R.list h1 ha
 have hlen:=r.size
 rw [hlen] at hk
 refine wpAny_binaryOp_repeat_ref (T := "list") (U := "int") (by decide) ⟨_,e,rfl⟩ (fun s'=>FE s' k u) noFill_list_mul F.fills_int_mul F.slot_int_rmul repeat_list F.slot_int_index.lookup
  (ED F.slot_int_rmul (FE s k u) F.entry_int_rmul (F.args_int_rmul_2 _ _) (lm_int_rmul_list_any k u a vs n none #[])
   ⟨e,rfl,⟨_,e,rfl⟩,ED F.slot_list_mul ⟨_,e,rfl⟩ F.entry_list_mul (F.args_list_mul_2 _ _)
    (lm_list_mul_any a vs n none #[] k u (by simp [Builtin.List.listFitsIndex]; lia) (by lia) (by simp [Builtin.List.listTooLong,sizeLine]; exact Ab (by assumption) (by decide)))
    ⟨e,?_⟩⟩)
 refine R.newL (tk:=s.toks) Ho H9 R.sizeLe (Ah _ rfl) ?_ q
 rw [listMul_foldl_if]
 have:∀ m:Nat,VRs η (Az m xs).flatten (Az m vs.toList).flatten:=by
  intro m
  induction m with
  | zero=>exact .nil
  | succ m ih=>simp only [Ds,D9]; exact r.append ih
 exact this k.toNat
end
end
section
open Builtin Builtin.ObjectAttr
theorem Rl:Slot "list_iterator" "__getattribute__" "object.__getattribute__" :=.of (owner := "object") (n := "__getattribute__") (by rw [Gk,Fe]; kernel_rfl) (by decide +kernel) (by decide +kernel) (by decide +kernel)
 (by first | exact .inl (by decide +kernel) | exact .inr (by decide +kernel)) (by rw [E0]; kernel_rfl)
theorem N8:entryFor table "object.__getattribute__" = some Builtin.«object.__getattribute__»:=Dx (by kernel_rfl)
theorem P3 (a b:Value):argsOk "object.__getattribute__" ⟨[a,b],[]⟩:=by unfold argsOk; kernel_rfl
theorem IP:typeOf (.builtin "list_iterator.__next__")=pure (.type "wrapper_descriptor"):=by show builtinType _=_; rw [Ei]; kernel_rfl
theorem Mk {prog:Program} {w:World} {A:Around} {h:Heap} {g:Array GenState} {d:Drawn} {t:Nat} {os:OsState} {x:Addr} {R:Result->Shared->Prop} {fs:Array Value} (hx:h.get? x=some { cls:=.type "list_iterator",data:=.fields fs }) (q:R (.ok (.ret (.ref h.objs.size))) ⟨h.push (boundO "method-wrapper" "list_iterator.__next__" x),g,d,t,os⟩) :
  codeAny (model prog w) A (.call (.builtin "wrapper_descriptor.__get__") ⟨[.builtin "list_iterator.__next__",.ref x,.type "list_iterator"],[]⟩) R ⟨h,g,d,t,os⟩:=by
 refine (BV Hk.plain HS (Hk.check _ _ _ _ _ _ _ _ IP (Ik _ _ _) ?_))
 have hi:Looks (model prog w) h (isInstance (.ref x) (.type "list_iterator")) true:=((Looks.ld hx).andThen .now).andThen (By (by show isSubtype (.type "list_iterator") (.type "list_iterator")=_; rw [E0]; kernel_rfl))
 have hi':Looks (model prog w) h (isInstance (.ref x) (.type (".".intercalate ("list_iterator.__next__".cutAt '.').dropLast))) true:=by
  rw [show ".".intercalate ("list_iterator.__next__".cutAt '.').dropLast = "list_iterator" by decide +kernel]; exact hi
 unfold Builtin.«wrapper_descriptor.__get__»
 repeat lk
 exact q
theorem Kq {prog:Program} {w:World} {A:Around} {E:PV} {s:Shared} {x:Addr} {fs:Array Value} {Q:PV} (hx:s.heap.get? x=some { cls:=.type "list_iterator",data:=.fields fs })
  (q:Q (.ref s.heap.objs.size) { s with heap:=s.heap.push (boundO "method-wrapper" "list_iterator.__next__" x),toks:=s.toks+1 }):wpAny (model prog w) A (getAttr (.ref x) "__next__" true) Q E s:=by
 have hT:∀ t',(⟨s.heap,s.gens,s.drawn,t',s.os⟩:Shared).TypeIs (.ref x) "list_iterator" :=fun _=>⟨_,hx,rfl⟩
 refine Aa (Eu (Ax (Aa (Fb (hT _) (Aa (Bi Rl.lookup ?_))))))
 show wpAny _ _ (getAttrByItsOwn _ _ _ _ _ _) _ _ _
 refine Aa (Bi (show (if onTheHeap (.type "list_iterator") then typeLookup (.type "list_iterator") "__getattr__" else pure none)=pure none from rfl) ?_)
 refine Aa (DX (Ax ?_))
 show wpAny _ _ (bindSpecial (.builtin "object.__getattribute__") (.ref x) >>=_) _ _ _
 refine Aa (Bi (Rl.bind _) ?_)
 refine AC (Q:=fun v' s'=>v'=.ref s.heap.objs.size∧s'={ s with heap:=s.heap.push (boundO "method-wrapper" "list_iterator.__next__" x),toks:=s.toks+1 }) (E:=fun _ _=>False) (CU Rl (hT _) N8 ?_ (P3 _ _)) (fun v' s' hv=>?_) fun _ _ z=>z.elim
 ·obtain ⟨hp,g,d,t,os⟩:=s
  have L0:Looks (model prog w) hp (typeOf (.ref x)) (.type "list_iterator"):=(Looks.ld hx).andThen .now
  have L1:Looks (model prog w) hp (typeLookup (.type "list_iterator") "__next__") (some (.builtin "list_iterator.__next__")):=By Da.lookup
  have L2:Looks (model prog w) hp (typeOf (.builtin "list_iterator.__next__")) (.type "wrapper_descriptor"):=By IP
  have L3:Looks (model prog w) hp (typeLookup (.type "wrapper_descriptor") "__get__") (some (.builtin "wrapper_descriptor.__get__")):=By Hk.lookup
  unfold Builtin.«object.__getattribute__»
  dsimp only at hx ⊢
  repeat (first | with_reducible refine BL ?_ | lk)
  exact Mk hx (Ad ⟨_,rfl,rfl,rfl⟩)
 ·obtain ⟨rfl,rfl⟩:=hv
  show wpAny _ _ (handedOut _) _ _ _
  rw [handedOut_of rfl]; exact Ad q
theorem Nq:builtinKind "iter" = none:=by decide +kernel
theorem Md:plainId "iter" = true:=by decide +kernel
theorem Mn:entryFor table "iter" = some Builtin.«iter»:=Dx (by kernel_rfl)
theorem Ms (a:Value):argsOk "iter" ⟨[a],[]⟩:=by unfold argsOk; kernel_rfl
section
variable {G:Gb} {c:Cx} {σ:St}
theorem WV.iterL {l li:Lb} {xs:List AV} {Q:PA} (hl:σ.H l=some (.list xs)) (hli:σ.H li=none) (q:Q (.ref li) { σ with H:=up σ.H li (.iter l 0) }):WV G c (.rig (.builtin "iter")) [.ref l] σ Q:=fun η s f' vs' R hf hvs=>by
 obtain rfl:=hf.rigE
 obtain ⟨_,rfl,hv⟩:=hvs.E1
 ·
  obtain ⟨rfl,d⟩:=hv.refE
  ·
   obtain ⟨o,e,vs,n,rfl,r⟩:=R.heap l _ hl
   refine Eb Nq Md Mn (Ms _) ?_
   refine Aa (m:=someArgs "iter" 1 2 _) (Bi (a:=[.ref (η.ρ l)]) rfl ?_)
   refine Aa (wpAny_pyIter_list ⟨_,e,rfl,n,rfl⟩ (Ad ⟨_,rfl,?_⟩))
   have ne:l≠li:=fun q=>by rw [q,hli] at hl; exact ns hl
   have le:(η.addL li s.heap.objs.size).ρ l=η.ρ l:=if_neg ne
   obtain ⟨R',st⟩:=R.addL (tk:=s.toks) (ao:=.iter l 0) (l:=li) Ho H9 (Ah s.heap (o:={ cls:=.type "list_iterator",data:=.fields #[.ref (η.ρ l),.int 0 0] }) rfl) R.sizeLe hli ⟨by rw [le]; rfl,.inr d⟩
   refine ⟨.ref li,_,_,q,?_,R',st _⟩
   have:(η.addL li s.heap.objs.size).ρ li=s.heap.objs.size:=if_pos rfl
   have x:VR (η.addL li s.heap.objs.size) (.ref li) (.ref ((η.addL li s.heap.objs.size).ρ li)):=.ref (.inl rfl)
   rw [this] at x; exact x
theorem WU.next {l li:Lb} {i:Nat} {Q:PA} (hli:σ.H li=some (.iter l i)) (q:Q (.nxt li) σ):WU G c VR (getA "__next__") (.ref li) σ Q:=fun η s o' R ho=>by
 obtain ⟨rfl,d⟩:=ho.refE
 ·
  obtain ⟨o,e,rfl,dd⟩:=R.heap li _ hli
  exact Kq e (R.newZ (tk:=s.toks+1) Ho H9 (Ah _ rfl) (.nxt d (if_pos rfl)) q)
theorem WV.set0 {l:Lb} {Q:PA} (hl:σ.H l=none) (q:Q (.ref l) { σ with H:=up σ.H l (.iset (fun _=>false) 0) }):WV G c (.rig (.type "set")) [] σ Q:=fun η s f' vs' R hf hvs=>by
 obtain rfl:=hf.rigE
 cases hvs
 refine call_set_0 fun led=>?_
 obtain ⟨R',st⟩:=R.addL (tk:=s.toks) (ao:=.iset (fun _=>false) 0) (l:=l) Ho H9 (Ah s.heap (o:={ cls:=.type "set",dict:=none,data:=.set #[] 0 (.fresh 0 0 led) }) rfl) R.sizeLe hl (intSetOf_fresh led)
 refine ⟨.ref l,_,_,q,?_,R',st _⟩
 have:(η.addL l s.heap.objs.size).ρ l=s.heap.objs.size:=if_pos rfl
 have x:VR (η.addL l s.heap.objs.size) (.ref l) (.ref ((η.addL l s.heap.objs.size).ρ l)):=.ref (.inl rfl)
 rw [this] at x; exact x
theorem WM.setAdd {l:Lb} {T:Int->Bool} {n:Nat} (hl:σ.H l=some (.iset T n)) (hn:n<scanBound):WM G c (.ref l) "add" σ (.rig (.builtin "set.add")) [.ref l]:=fun η s ov' pl R hv Q E k=>by
 obtain ⟨rfl,d⟩:=hv.refE
 ·
  obtain ⟨o,e,hS⟩:=R.heap l _ hl
  exact getMethod_set_add ((Obj.IntSetOf.kind hS G.prog G.w).setOf e hn) (k _ _ s.toks (.rig _) (.cons (.ref d) .nil))
theorem WV.setAdd {l:Lb} {T:Int->Bool} {n:Nat} {k:Int} {Q:PA} (hl:σ.H l=some (.iset T n)) (hn:n+1<scanBound) (q:Q .none { σ with H:=up σ.H l (.iset (fun x=>T x||decide (x=k)) (if T k then n else n+1)) }):WV G c (.rig (.builtin "set.add")) [.ref l,.int k] σ Q:=fun η s f' vs' R hf hvs=>by
 obtain rfl:=hf.rigE
 obtain ⟨_,_,rfl,hv,hx⟩:=hvs.E2
 ·
   obtain ⟨_,rfl⟩:=hx.intE
   obtain ⟨rfl,d⟩:=hv.refE
   ·
    obtain ⟨o,e,hS⟩:=R.heap l _ hl
    refine call_set_add (Hy ..) rfl ((Obj.IntSetOf.kind hS G.prog G.w).setOf e (by exact Ay (by assumption))) hn fun h' hs hS'=>?_
    obtain ⟨o',e',hS''⟩:=hS'.objOf
    obtain ⟨R',st⟩:=R.setL (tk:=s.toks+1) (ao:=.iset (fun x=>T x||decide (x=k)) (if T k then n else n+1)) hl (by intro q; contradiction) hs e' hS''.intSetOf
    exact ⟨_,_,η,q,.rig _,R',st _⟩
theorem WB.inSet {l:Lb} {T:Int->Bool} {n:Nat} {k:Int} {Q:PA} (hl:σ.H l=some (.iset T n)) (hn:n<scanBound) (q:Q (.bool (T k)) σ):WB G c VR (compareOp .In) (.int k) (.ref l) σ Q:=fun η s a' b' R ha hb=>by
 obtain ⟨_,rfl⟩:=ha.intE
 obtain ⟨rfl,d⟩:=hb.refE
 ·
  obtain ⟨o,e,hS⟩:=R.heap l _ hl
  exact wpAny_inSet_of (Hy ..) rfl ((Obj.IntSetOf.kind hS G.prog G.w).setOf e hn) (.toks R q (.rig _))
theorem WV.boolL {v:AV} {xs:List AV} {Q:PA} (hl:isL σ v xs) (hz:xs.length<2 ^ 60) (q:Q (.bool (!xs.isEmpty)) σ):WV G c (.rig (.type "bool")) [v] σ Q:=fun η s f' vs' R hf hvs=>by
 obtain rfl:=hf.rigE
 obtain ⟨_,rfl,hv⟩:=hvs.E1
 ·
  obtain ⟨ad,vs,n,rfl,e,r⟩:=R.list hl hv
  have hlen:=r.size
  have he:(!vs.isEmpty)=!xs.isEmpty:=by
   congr 1
   cases xs with
   | nil=>simp only [Dy] at hlen; simp [Fh,← hlen]
   | cons x r=>simp only [AW] at hlen; simp [Fh,← hlen]
  have mt:Meets (Builtin.«bool.__new__» ⟨[.type "bool",.ref ad],[]⟩) (fun _ R s=>(s.heap.IsList ad vs)∧R (.ok (.ret (.bool (!vs.isEmpty)))) { s with toks:=s.toks+1+1 }) :=
   Meets.of_wp fun prog w A R s hs=>by
    obtain ⟨hp,g,d,tk,os⟩:=s
    obtain ⟨hl,hs⟩:=hs
    have f1:=F.conv_sub_bool
    repeat (any_goals (first | assumption | (with_reducible refine wpAny_truthy_list hl (by lia) ?_) | wp_step))
    all_goals first | exact ⟨_,rfl,hs⟩ | exact hs | skip
  refine call_bool_1 mt ⟨⟨_,e,rfl,n,rfl⟩,(show wants (fun obj s₁=>s₁.TypeIs obj "bool" ∧ Po G c VR η s Q obj s₁) FF _ _ from ⟨rfl,?_⟩)⟩
  rw [he]; exact .toks R q (.rig _)
end
end
section
open Builtin
theorem IR:isSubtype (.type "range_iterator") (.type "reversed")=pure false:=by rw [E0]; kernel_rfl
section
variable {prog:Program} {w:World} {A:Around} {E:PV} {s:Shared}
theorem Ii {r:Addr} {n:Nat} {t u v:Tok} {Q:PV} (hr:s.heap.get? r=some { cls:=.type "range",data:=.fields #[.int 0 t,.int n u,.int 1 v] }) (hn:n≤2 ^ 20)
  (h:Q (.ref s.heap.objs.size) { s with heap:=s.heap.push { cls:=.type "range_iterator",data:=.fields #[rawInt ((n:Int) - 1),rawInt n,rawInt (-1)] } }):wpAny (model prog w) A (call (.builtin "range.__reversed__") [.ref r]) Q E s:=by
 refine CU PySem.F.slot_range_reversed ⟨_,hr,rfl⟩ PySem.F.entry_range_reversed ?_ (PySem.F.args_range_reversed_1 _)
 refine Aa (Bi (a:=Value.ref r) rfl ?_)
 have rf:∀ {A':Around} {E':PV} {Q':Int×Int×Int->Shared->Prop},Q' (0,(n:Int),1) s->wpAny (model prog w) A' (Builtin.Range.rangeFields (.ref r)) Q' E' s:=fun {A' E' Q'} q=>by
  refine Aa (BF hr rfl (x:=.int 0 t) rfl (Aa (Bi (a:=some 0) rfl (Aa (BF hr rfl (x:=.int n u) rfl (Aa (Bi (a:=some (n:Int)) rfl (Aa (BF hr rfl (x:=.int 1 v) rfl (Aa (Bi (a:=some 1) rfl ?_)))))))))))
  exact Ad q
 refine Aa (rf ?_)
 dsimp only
 have hs:A9 0 n 1=n:=by
  unfold A9
  rw [if_pos (by decide)]
  split
  ·rw [EO]; lia
  ·lia
 rw [hs]
 have hsm:(Bq 0&&Bq n&&Bq 1&&Bq (-1)&&Bq (0 - 1)&&Bq n)=true:=by
  simp [Bq]; lia
 rw [hsm]
 rw [if_neg (by decide)]
 refine Aa (BZ (Ad ⟨_,rfl,?_⟩))
 have e:(0:Int)+((n:Int) - 1)*1=(n:Int) - 1:=by lia
 rw [e]; exact h
theorem Ih {r:Addr} {n:Nat} {t u v:Tok} {Q:PV} (hr:s.heap.get? r=some { cls:=.type "range",data:=.fields #[.int 0 t,.int n u,.int 1 v] }) (hn:n≤2 ^ 20)
  (h:Q (.ref s.heap.objs.size) { s with heap:=s.heap.push { cls:=.type "range_iterator",data:=.fields #[rawInt ((n:Int) - 1),rawInt n,rawInt (-1)] } }):wpAny (model prog w) A (call (.type "reversed") [.ref r]) Q E s:=by
 refine callType_other (U := "range_iterator") (Q₁:=fun obj s₁=>obj=.ref s.heap.objs.size∧s₁={ s with heap:=s.heap.push { cls:=.type "range_iterator",data:=.fields #[rawInt ((n:Int) - 1),rawInt n,rawInt (-1)] } }) (by decide +kernel) F.create_reversed ⟨_,_,F.mro_reversed⟩ F.made_reversed IR (F.typeCall_reversed_1 _) ?_ ?_
 ·refine Gm ?_
  show wpAny _ A.in1.in1 (do checkBuiltinCall "reversed.__new__" ⟨[.type "reversed",.ref r],[]⟩; again (.builtin "reversed.__new__" ⟨[.type "reversed",.ref r],[]⟩)) _ _ s
  refine Aa (Bi (F.newCall_reversed_1 _) (Ad ⟨DY F.plain_reversed_new _,B0 F.entry_reversed_new ?_⟩))
  rw [EL F.plain_reversed_new _]
  refine Aa (Bi (newClass_reversed _) ?_)
  try dsimp only
  refine Aa (Bi (a:=()) (by first | rfl | kernel_rfl) ?_)
  refine Aa (Bi (a:=()) (by first | rfl | kernel_rfl) ?_)
  try dsimp only
  refine Aa (Dg (T := "range") ⟨_,hr,rfl⟩ GZ.lookup ?_)
  try dsimp only
  refine Aa (Bi (GZ.bind _) ?_)
  try dsimp only
  rw [if_neg (show ¬((Value.builtin "range.__reversed__" ==Bt)=true) from BM)]
  refine Aa (EB ?_)
  refine Aa (m:=runValue (.call (.builtin "range.__reversed__") ⟨[.ref r],[]⟩)) (show wpAny _ _ (call (.builtin "range.__reversed__") [.ref r]) _ _ _ from Ii hr hn ?_)
  exact Ad ⟨rfl,rfl⟩
 ·rintro obj s₁ ⟨rfl,rfl⟩
  exact ⟨⟨_,Ah _ rfl,rfl⟩,h⟩
end
theorem WI.revRange {G:Gb} {c:Cx} {σ:St} {e:Expr} {p0 pos:Pos} {K:List AV->(St->Prop)->St->Prop}
  (h:WE G c e σ fun v σ1=>∃ n:Nat,An3 (v=.rng 0 n 1) (n≤2 ^ 20) (K ((A5 n).map fun (i:Nat)=>AV.int ((n:Int) - 1+i*(-1))) (fun _=>True) σ1))
  (hrev:nsIn G.K mainGlobals "reversed" = some Av) (hks:c.env.kindOf "reversed" = some .globalImplicit)
  (he:eval (.Call (.Name "reversed" p0) [e] [] pos) c.env=(eval (.Name "reversed" p0) c.env >>=fun f=>callWith pos f [] (backTo pos (starEach [e] c.env)) []))
  (hse:starEach [e] c.env=[(false,eval e c.env)]) (hp:(backTo pos (starEach [e] c.env)).any (·.1)=false):WI G c (.Call (.Name "reversed" p0) [e] [] pos) σ K:=fun η s R=>by
 rw [he]
 refine Aa (R.raw hrev (v:=.type "reversed") (by kernel_rfl) (by decide +kernel) hks (by decide +kernel) ?_)
 refine Dh (P:=fun h=>∃ k,(k=BQ∨k=Bv∨k=Bc)∧Looks (mo G) h (keeperOf (.type "reversed")) k) (by rw [hp]; rfl) (fun _ x=>x) (Hz hp (Ck (wb (h η s R) fun v' v σ1 η1 s1 h1 hv R1 st1=>?_) hse))
 obtain ⟨n,rfl,hn,k⟩:=h1
 obtain ⟨_,_,_,_,rfl,z⟩:=hv.rngE
 refine Cv ⟨⟨.machine,.inr (.inl rfl),By rfl⟩,?_⟩
 refine Ih (R1.frz _ _ z) hn ?_
 obtain ⟨f1,f2⟩:=HK R1
 have it0:IsRangeIter (s1.heap.push { cls:=.type "range_iterator",data:=.fields #[rawInt ((n:Int) - 1),rawInt n,rawInt (-1)] }) s1.heap.objs.size ((n:Int) - 1+((0:Nat):Int)*(-1)) ((n:Int) - ((0:Nat):Int)) (-1):=by
  have e1:(n:Int) - 1+((0:Nat):Int)*(-1)=(n:Int) - 1:=by simp
  have e2:(n:Int) - ((0:Nat):Int)=n:=by rfl
  rw [e1,e2]
  exact Ah _ rfl
 refine wpAny_pyIter_rangeiter it0 ?_
 exact ⟨_,_,fun _=>True,_,σ1,η1,s1,_,s1.toks,rfl,rfl,R1,st1,f1,f2,Ho,Itr.range (a:=(n:Int) - 1) (c:=-1) (n:=n),⟨A4 _,it0⟩,trivial,k⟩
end
section
open Builtin
noncomputable def cut (h:Heap) (F:List Addr):Heap:=⟨h.objs.mapIdx fun i o=>if i∈F then ⟨.none,none,.freed,#[]⟩ else o,h.life⟩
theorem JV (h:Heap) (F:List Addr) (a:Addr):(cut h F).get? a=if a∈F then none else h.get? a:=by
 delta Heap.get? cut
 rw [Array.getElem?_mapIdx]
 by_cases hm:a∈F
 ·rw [if_pos hm]
  cases h.objs[a]? with
  | none=>rfl
  | some o=>rw [E7,if_pos hm]
 ·rw [if_neg hm]
  cases h.objs[a]? with
  | none=>rfl
  | some o=>rw [E7,if_neg hm]
theorem Pu {h:Heap} {F:List Addr} {a:Addr} {o:Obj} (hm:a∉F) (e:h.get? a=some o):(cut h F).get? a=some o:=by rw [JV,if_neg hm]; exact e
theorem NF (h:Heap) (F:List Addr):(cut h F).StaysIn h:=fun b o e=>by
 rw [JV] at e
 split at e
 ·exact ns e
 ·exact e
theorem TF {h base:Heap} {F:List Addr} {l:List Env} (ff:h.FunFrames base l) (hm:∀ b∈l.filterMap (·.frame),b∈F):h.FunFrames (cut h F) l:=by
 induction l with
 | nil=>trivial
 | cons e r ih =>
  obtain ⟨hk,⟨L,o,hf,hn,t⟩,hr⟩:=ff
  have e1:(e::r).filterMap (·.frame)=L::r.filterMap (·.frame):=List.filterMap_cons_some hf
  rw [e1] at hm
  exact ⟨hk,⟨L,o,hf,by rw [JV,if_pos (hm L (.head _))],t⟩,ih hr fun b hb=>hm b (.tail _ hb)⟩
theorem UD {h base:Heap} {l:List Env} (ff:h.FunFrames base l):h.FunFrames eH l:=by
 induction l with
 | nil=>trivial
 | cons e r ih =>
  obtain ⟨hk,⟨L,o,hf,hn,t⟩,hr⟩:=ff
  exact ⟨hk,⟨L,o,hf,rfl,t⟩,ih hr⟩
section
variable {G:Gb} {c:Cx} {η η₀:Et} {σ:St} {s s₀:Shared}
noncomputable abbrev frs (c:Cx):List Addr:=c.fe.filterMap (·.frame)
theorem Rel.noted (R:Rel G c η σ s) (x:Stp G c.own η₀ η s₀ s) {e:Addr} {h':Heap} {tk:Nat} (he0:s₀.heap.get? e=none) (je:Kd G c η e)
  (hst:(cut s.heap (e::frs c)).StaysIn h') (hff:h'.FunFrames (cut s.heap (e::frs c)) c.fe) (hee:∃ o,h'.get? e=some o) (hup:∀ b o,s.heap.get? b=some o->(∀ vs,o.data≠.fields vs)->∃ sl,h'.get? b=some { o with slots:=sl }) :
  Rel G c η σ { s with heap:=h',toks:=tk }∧Stp G c.own η₀ η s₀ { s with heap:=h',toks:=tk }:=by
 have frm:∀ b,b∈frs c->∃ e'∈c.fe,e'.frame=some b:=fun b hb=>C0.mp hb
 have wlo:∀ b∈e::frs c,G.h₀.objs.size≤b:=fun b hb=>by
  rcases Ap.mp hb with rfl | hb
  ·exact je.lo
  ·obtain ⟨e',h1,h2⟩:=frm b hb; exact (R.fu e' h1 b h2).1
 have keep:∀ b o,b∉e::frs c->s.heap.get? b=some o->h'.get? b=some o:=fun b o hb eb=>hst b o (Pu hb eb)
 obtain ⟨old',tabs'⟩:=PI R.old R.tabs wlo keep
 have lab:∀ l,η.D l->η.ρ l∉e::frs c:=fun l d hm=>by
  rcases Ap.mp hm with q | q
  ·exact je.ul l d q
  ·obtain ⟨e',h1,h2⟩:=frm _ q; exact (R.fu e' h1 _ h2).2.1 l d rfl
 have low:∀ b o,G.h₀.get? b=some o->b∉e::frs c:=fun b o eb hm=>absurd (Ba eb) (Bh.mpr (wlo b hm))
 have ownd:∀ b,c.own b->∀ o,s.heap.get? b=some o->∀ vs,o.data≠.fields vs:=fun b ow o eb vs q=>by
  obtain ⟨_,ct,m,⟨oL,es,ep,z,zd,_⟩,_⟩:=R.fr
  rcases ow with rfl | ⟨y,hy⟩
  ·rw [eb] at z; obtain rfl:=Option.some.inj z; rw [zd] at q; contradiction
  ·obtain ⟨v,oc,z,zd⟩:=ct y b hy
   rw [eb] at z; obtain rfl:=Option.some.inj z; rw [zd] at q; contradiction
 have slots:∀ b o,s.heap.get? b=some o->b≠e->∃ o',h'.get? b=some o'∧Sim o o':=fun b o eb ne=>by
  by_cases hm:b∈frs c
  ·obtain ⟨e',h1,h2⟩:=frm b hm
   obtain ⟨o2,es,ep,z,d⟩:=R.fd e' h1 b h2
   rw [eb] at z; obtain rfl:=Option.some.inj z
   obtain ⟨sl,hs⟩:=hup b o eb fun vs q=>by rw [d] at q; contradiction
   exact ⟨_,hs,.inr ⟨es,ep,sl,d,rfl⟩⟩
  ·exact ⟨o,keep b o (by simp [ne,hm]) eb,.refl o⟩
 refine ⟨⟨R.gok,R.ok,fun l o el=>let ⟨o',z,r⟩:=R.heap l o el; ⟨o',keep _ _ (lab l (R.D_of el)) z,r⟩,R.dom,R.inj,R.sep,R.low,fun a o ea=>keep _ _ (fun hm=>?_) (R.frz a o ea),old',fun b o eb n=>keep _ _ (low b o eb) (R.bk b o eb n),R.gens,R.os,R.zt,tabs',
  R.fr.step (.refl η) fun b ow o eb=>?_,R.ownl,UD hff,R.fu,fun e' he' b hb=>?_⟩,⟨x.le,fun b o eb=>?_,x.new,x.newZ,fun b o hb eb u ow=>?_⟩⟩
 ·rcases Ap.mp hm with q | q
  ·rw [q,je.uz] at ea; exact ns ea
  ·obtain ⟨e',h1,h2⟩:=frm _ q
   rw [(R.fu e' h1 _ h2).2.2] at ea; exact ns ea
 ·obtain ⟨sl,hs⟩:=hup b o eb (ownd b ow o eb)
  exact ⟨_,hs,rfl⟩
 ·obtain ⟨o,es,ep,z,d⟩:=R.fd e' he' b hb
  obtain ⟨sl,hs⟩:=hup b o z fun vs q=>by rw [d] at q; contradiction
  exact ⟨_,es,ep,hs,d⟩
 ·obtain ⟨o1,e1⟩:=x.ex b o eb
  have ne:b≠e:=fun q=>by rw [q,he0] at eb; exact ns eb
  obtain ⟨o2,e2,_⟩:=slots b o1 e1 ne
  exact ⟨o2,e2⟩
 ·obtain ⟨o1,e1,s1⟩:=x.fm b o hb eb u ow
  have ne:b≠e:=fun q=>by rw [q,he0] at eb; exact ns eb
  obtain ⟨o2,e2,s2⟩:=slots b o1 e1 ne
  exact ⟨o2,e2,s1.trans s2⟩
end
end
section
open Builtin
section
variable {prog:Program} {w:World} {A:Around} {s:Shared} {R:Result->Shared->Prop}
theorem Mf {it l:Addr} {i:Nat} {items:Array Value} {ol:Obj} {nl:Nat} {x:Value} (ho:s.heap.get? it=some { cls:=.type "list_iterator",data:=.fields #[.ref l,.int i 0] }) (hol:s.heap.get? l=some ol) (hdl:ol.data=.seq items nl) (hx:items[i]?=some x)
  (hQ:∀ h',h'.get? it=some { cls:=.type "list_iterator",data:=.fields #[.ref l,.int (i+1:Nat) 0] }->DH it s.heap h'->R (.ok (.ret x)) { s with heap:=h' }):codeAny (model prog w) A (.builtin "list_iterator.__next__" ⟨[.ref it],[]⟩) R s:=by
 refine B0 Eh ?_
 show wpAny _ _ (field (.ref it) 0 >>=_) _ _ s
 refine Aa (BF ho rfl (x:=.ref l) rfl ?_)
 show wpAny _ _ (if (Value.ref l==Bt)=true then _ else _) _ _ s
 rw [if_neg (show ¬((Value.ref l==Bt)=true) from BM)]
 show wpAny _ _ (field (.ref it) 1 >>=_) _ _ s
 refine Aa (BF ho rfl (x:=.int i 0) rfl ?_)
 show wpAny _ _ (seqItems? (.ref l) >>=_) _ _ s
 refine Aa (DP hol hdl ?_)
 simp only [Aw,hx]
 refine Aa (Fs ho rfl (Ak _) (Ad (hQ _ ?_ (A0 ..))))
 exact BJ _ ho rfl
noncomputable abbrev stopO (a:Addr):Obj:={ cls:=.type "StopIteration",data:=.fields #[.ref a,.none,.none,.none,.bool false,.none] }
theorem MX {it l:Addr} {i:Nat} {items:Array Value} {ol:Obj} {nl:Nat} (hh:A.handled=none) (ho:s.heap.get? it=some { cls:=.type "list_iterator",data:=.fields #[.ref l,.int i 0] }) (hol:s.heap.get? l=some ol) (hdl:ol.data=.seq items nl) (hx:items[i]?=none)
  (hQ:∀ h1 o1 h2 oe vs,h1.get? it=some o1->DH it s.heap h1->h2=(h1.push (tupO #[] 0)).push oe->oe.cls=.type "StopIteration" → oe.data=.fields vs->vs[0]?=some (.ref h1.objs.size)->vs[1]?=some .none->R (.error (.ref (h1.push (tupO #[] 0)).objs.size)) { s with heap:=h2 }) :
  codeAny (model prog w) A (.builtin "list_iterator.__next__" ⟨[.ref it],[]⟩) R s:=by
 refine B0 Eh ?_
 show wpAny _ _ (field (.ref it) 0 >>=_) _ _ s
 refine Aa (BF ho rfl (x:=.ref l) rfl ?_)
 show wpAny _ _ (if (Value.ref l==Bt)=true then _ else _) _ _ s
 rw [if_neg (show ¬((Value.ref l==Bt)=true) from BM)]
 show wpAny _ _ (field (.ref it) 1 >>=_) _ _ s
 refine Aa (BF ho rfl (x:=.int i 0) rfl ?_)
 show wpAny _ _ (seqItems? (.ref l) >>=_) _ _ s
 refine Aa (DP hol hdl ?_)
 simp only [Aw,hx]
 refine Aa (EB (Aa (Fs ho rfl (CW _) ?_)))
 show wpAny _ _ (newExc (.type "StopIteration") [] >>=_) _ _ _
 refine Aa ?_
 simp only [newExc,newTuple]
 refine Aa (BZ ?_ (by size_fits))
 refine Aa (m:=firstArgMember _ _) (Bi (a:=Bt) (by first | rfl | (simp only [firstArgMember]; rfl)) ?_)
 refine BZ ?_ (by size_fits)
 rw [raiseNew]
 refine Aa (wpAny_handled ?_)
 rw [show (A.under _).handled=none from hh]
 refine Aa (Ad (wpAny_throw ?_))
 exact hQ _ _ _ _ _ (BJ _ ho rfl) (A0 ..) rfl rfl rfl rfl rfl
end
section
variable {G:Gb} {c:Cx} {η:Et} {σ:St} {s:Shared}
noncomputable abbrev Cx.mk' (c:Cx) (e:Addr):Cx:={ c with A:=c.A.mark (some (.ref e)),hd:=true }
theorem Cx.Ok.mark {c:Cx} (k:c.Ok) (e:Addr):(c.mk' e).Ok:=⟨k.kind,k.locals,k.globals,k.builtins,k.frames,k.depth,k.units,fun h=>(by cases h),k.names,k.nd,k.cnd,k.cL,k.ce⟩
theorem Rel.mark (R:Rel G c η σ s) (e:Addr):Rel G (c.mk' e) η σ s:={ R with ok:=R.ok.mark e }
theorem Rel.unmark (k:c.Ok) {e:Addr} (R:Rel G (c.mk' e) η σ s):Rel G c η σ s:={ R with ok:=k }
theorem wbE {α β:Type} {X:Et->β->α->Prop} {m:Sem α} {K:β->St->Prop} {A:Around} {M:Model} {P:α->Shared->Prop} {E:PV} (h:wpAny M A m (Po G c X η s K) FF s)
  (k:∀ a' b σ1 η1 s1,K b σ1->X η1 b a'->Rel G c η1 σ1 s1->Stp G c.own η η1 s s1->P a' s1):wpAny M A m P E s :=
 AC h (fun a' s1 ⟨b,σ1,η1,h1,h2,h3,h4⟩=>k a' b σ1 η1 s1 h1 h2 h3 h4) fun _ _ x=>x.elim
end
end
section
open Builtin
theorem NI (x:Addr):checkBoundCall "list_iterator.__next__" ⟨[.ref x],[]⟩=pure ():=by kernel_rfl
section
variable {M:Model} {A:Around} {E:PV} {s:Shared}
theorem MT {base:Heap} {env:Env} {outer:List Env} {L e:Addr} {oe:Obj} {vs:Array Value} {a0:Value} {Q:Unit->Shared->Prop}
  (hfr:A.frames=some (env::outer)) (hl:s.heap.FunFrames base (env::outer)) (hf:env.frame=some L)
  (he:s.heap.get? e=some oe) (hkb:base.StaysIn s.heap) (hen:base.get? e=none) (hd:oe.data=.fields vs) (h1:vs[1]?=some .none) (h0:vs[0]?=some a0)
  (h:∀ h',Heap.NotedW base (env::outer) e oe.cls a0 (rawInt L) s.heap h'->Q () { s with heap:=h' }):wpAny M A (noteFrame (.ref e) env) Q E s:=by
 unfold noteFrame
 rw [hf]
 refine Aa (BF he hd h1 ?_)
 rw [if_neg (by decide)]
 exact wpAny_entryW hfr hl hf he hkb hen hd (FC.mp h1).1 h0 h
end
section
variable {G:Gb} {c:Cx} {σ:St}
theorem Kpr.nxt {l:Lb} {η:Et} {h:Heap} {x:Addr} (hx:h.get? x=some (boundO "method-wrapper" "list_iterator.__next__" (η.ρ l))):∃ k,(k=BQ∨k=Bv∨k=Bc)∧Looks (mo G) h (keeperOf (.ref x)) k :=
 ⟨.machine,.inr (.inl rfl),(Looks.ld (part:=none) hx).andThen .now⟩
theorem Sd {η:Et} {s:Shared} (R:Rel G c η σ s) (hh:c.hd=false) {li l:Lb} {p:Nat} {xs:List AV} (hli:σ.H li=some (.iter l p)) (hl:σ.H l=some (.list xs)) {x:Addr} (hx:s.heap.get? x=some (boundO "method-wrapper" "list_iterator.__next__" (η.ρ li)))
  {Q:PV} {E:PV} (hq:∀ v x' s',xs[p]?=some v->VR η v x'->Rel G c η ⟨σ.loc,up σ.H li (.iter l (p+1))⟩ s'->Stp G c.own η η s s'->Q x' s')
  (he:xs[p]?=none->∀ e s',s.heap.get? e=none->G.h₀.objs.size≤e->Rel G c η ⟨σ.loc,up σ.H li .dead⟩ s'->Stp G c.own η η s s' →
   (Ex3 fun oe vs a0=>An5 (s'.heap.get? e=some oe) (oe.cls=.type "StopIteration") (oe.data=.fields vs) (vs[0]?=some a0) (vs[1]?=some .none))->E (.ref e) s'):wpAny (mo G) c.A (FM (.ref x) [] []) Q E s:=by
 obtain ⟨oi,hoi,rfl,dl⟩:=R.heap li _ hli
 obtain ⟨ol,hol,vs,n,rfl,hvs⟩:=R.heap l _ hl
 refine BL (J7 (T := "method-wrapper") (by decide) hx (.of_pure (NI _)) (CT _ (by decide +kernel)) ?_)
 cases hp:xs[p]? with
 | some v =>
  obtain ⟨v',hv1,hv2⟩:=HF hvs hp
  refine Mf hoi hol rfl hv1 fun h' e1 hs=>?_
  obtain ⟨R',st'⟩:=R.setL (tk:=s.toks) (o':={ cls:=.type "list_iterator",data:=.fields #[.ref (η.ρ l),.int (p+1:Nat) 0] }) (ao:=.iter l (p+1)) hli (fun q=>by contradiction) hs e1 ⟨rfl,dl⟩
  exact hq v v' _ hp hv2 R' (st' _)
 | none =>
  refine MX (R.ok.handled hh) hoi hol rfl (JY hvs hp) fun h1 o1 h2 oe vs' e1 hs eh hc hd hv0 hv1=>?_
  subst eh
  obtain ⟨R1,st1⟩:=R.setL (tk:=s.toks) (o':=o1) (ao:=.dead) hli (fun q=>by contradiction) hs e1 trivial
  have hk:∀ b o,h1.get? b=some o->((h1.push (tupO #[] 0)).push oe).get? b=some o:=fun b o e=>Ho b o (Ho b o e)
  have hsz:h1.objs.size=s.heap.objs.size:=hs.1
  have hz:(h1.push (tupO #[] 0)).objs.size=s.heap.objs.size+1:=by rw [← hsz]; simp [Heap.push]
  have he0:s.heap.get? (h1.push (tupO #[] 0)).objs.size=none:=Ht (by rw [hz]; exact BP _)
  have hlo:=R.sizeLe
  refine he hp _ _ he0 (by rw [hz]; exact AK (by assumption)) (R1.ext (tk:=s.toks) hk) ((st1 _).trans (Stp.ext hk)) ⟨oe,vs',_,?_,hc,hd,hv0,hv1⟩
  exact Ah _ (G7 hd)
theorem TN {η η₀:Et} {s s₀:Shared} {e:Addr} {fo:List Env} {p7 p14:Pos} {b₀:Stmt} {suite:List Stmt} {Q:Flow->Shared->Prop} {E:PV} (R:Rel G c η σ s) (x:Stp G c.own η₀ η s₀ s) (hfe:c.fe=c.env::fo) (he0:s₀.heap.get? e=none) (je:Kd G c η e)
  (hoe:Ex3 fun oe vs a0=>An5 (s.heap.get? e=some oe) (oe.cls=.type "StopIteration") (oe.data=.fields vs) (vs[0]?=some a0) (vs[1]?=some .none))
  (hstop:nsIn G.K mainGlobals "StopIteration" = some Av) (hks:c.env.kindOf "StopIteration" = some .globalImplicit)
  (hq:∀ s',Rel G (c.mk' e) η σ s'->Stp G c.own η₀ η s₀ s'->wpAny (mo G) (c.A.mark (some (.ref e))) (execs (b₀::suite) c.env) Q FF s') :
  wpAny (mo G) c.A (noteFrame (.ref e) c.env) (fun _ s₂=>wpAny (mo G) c.A (setFlight (.ref e) none) (fun _ s₃=>wpAny (mo G) c.A (handleBy (.ref e) c.env [.ExceptHandler (some (.Name "StopIteration" p7)) none (b₀::suite) p14]) Q E s₃) E s₂) E s:=by
 obtain ⟨oe,vs,a0,h1,h2,h3,h4,h5⟩:=hoe
 have ff:=R.ff
 rw [hfe] at ff
 have hfr:c.A.frames=some (c.env::fo):=hfe▸R.ok.frames
 obtain ⟨L,oL,hf,_⟩:=ff.2.1
 have fb:s.heap.FunFrames (cut s.heap (e::frs c)) (c.env::fo):=TF ff fun b hb=>.tail _ (by unfold frs; rw [hfe]; exact hb)
 have hen:(cut s.heap (e::frs c)).get? e=none:=by rw [JV,if_pos (.head _)]
 have ne (h':Heap) (tk:Nat) (k1:(cut s.heap (e::frs c)).StaysIn h') (k2:h'.FunFrames (cut s.heap (e::frs c)) (c.env::fo)) (k3:∃ o,h'.get? e=some o) (k4:s.heap.UpToSlots h'):=R.noted (tk:=tk) x he0 je k1 (hfe▸k2) k3 k4
 refine MT hfr fb hf h1 (NF _ _) hen h3 h5 h4 fun h' ⟨k1,k2,k3,k4⟩=>?_
 refine wpAny_setFlight_noneW k1 k2 k3 fun h'' m1 m2 m3 m4=>?_
 have u2:s.heap.UpToSlots h'':=fun b o eb hn=>by
  obtain ⟨sl,hs⟩:=k4 b o eb hn
  exact ⟨sl,m4 b _ hs hn⟩
 have t3:=m3.at.there
 obtain ⟨R2,st2⟩:=ne h'' s.toks m1 m2 ⟨_,t3.choose_spec.1⟩ u2
 refine wpAny_handleBy_builtin (X := "StopIteration") (T := "StopIteration") (b:=true) (by kernel_rfl) (by kernel_rfl) (by kernel_rfl) ?_
 refine AC (Uv (E:=FF) R2.gok R2.bk R.ok.globals R.ok.builtins R.ok.kind hstop (v:=.type "StopIteration") (by decide +kernel) (by decide +kernel) hks (by decide +kernel) ⟨rfl,?_,?_⟩) (fun _ _ z=>z) fun _ _ z=>z.elim
 ·obtain ⟨ob,o1,o2⟩:=t3
  exact ⟨ob,o1,o2.trans h2⟩
 ·rw [if_pos rfl]
  refine wpAny_setFlight_noneW m1 m2 m3.at fun h3' n1 n2 n3 n4=>?_
  have u3:s.heap.UpToSlots h3':=fun b o eb hn=>by
   obtain ⟨sl,hs⟩:=u2 b o eb hn
   exact ⟨sl,n4 b _ hs hn⟩
  obtain ⟨R3,st3⟩:=ne h3' s.toks n1 n2 ⟨_,n3.at.there.choose_spec.1⟩ u3
  exact AC (hq _ (R3.mark e) st3) (fun _ _ z=>z) fun _ _ z=>z.elim
end
end
section
open Builtin
section
variable {G:Gb} {c:Cx} {σ:St}
theorem W1.del {o i:Expr} {p pos:Pos} {Q:PF} (h:WE G c o σ fun ov σ1=>WE G c i σ1 fun iv σ2=>WDel G c ov iv σ2 fun σ3=>Q .next σ3):W1 G c (.Delete [.Subscript o i p] pos) σ Q:=fun η s R =>
 wpAny_Delete (wpAny_deleteEach_cons (wpAny_delete_Subscript (wb (h η s R) fun ov' ov σ1 η1 s1 h1 ho R1 st1=>wb (h1 η1 s1 R1) fun iv' iv σ2 η2 s2 h2 hiv R2 st2=>wb (h2 η2 s2 ov' iv' R2 (ho.mono st2.le) hiv) fun _ _ σ3 η3 s3 h3 _ R3 st3 =>
  wpAny_deleteEach_nil ⟨.next,σ3,η3,h3,.next,R3,(st1.trans st2).trans st3⟩)))
theorem Ug {M:Model} {A:Around} {p:Pos} {env:Env} {Q:Flow->Shared->Prop} {E:PV} {s:Shared} (h:Q .brk s):wpAny M A (exec (.Break p) env) Q E s:=fun _ _ _=>h
theorem W1.tryNext {f:Expr} {x:Str} {bx:Bool} {i:Nat} {px p5 p6 p7 p8 p9 p14:Pos} {b₀:Stmt} {suite:List Stmt} {Q:PF} {fo:List Env} {li l:Lb} {p:Nat} {xs:List AV}
  (hh:c.hd=false) (hfe:c.fe=c.env::fo) (hi:c.ns[i]?=some (x,bx))
  (hfun:WE G c f σ fun v σ'=>v=.nxt li∧σ'=σ) (he:eval (.Call f [] [] p5) c.env=(eval f c.env >>=fun g=>callWith p5 g [] (backTo p5 (starEach [] c.env)) []))
  (hstop:nsIn G.K mainGlobals "StopIteration" = some Av) (hks:c.env.kindOf "StopIteration" = some .globalImplicit)
  (hli:σ.H li=some (.iter l p)) (hl:σ.H l=some (.list xs)) (hq:∀ v,xs[p]?=some v->Q .brk ⟨σ.loc.set i (some v),up σ.H li (.iter l (p+1))⟩)
  (hsu:xs[p]?=none->∀ e,WS G (c.mk' e) (b₀::suite) ⟨σ.loc,up σ.H li .dead⟩ Q) :
  W1 G c (.Try [.Assign [.Name x px] (.Call f [] [] p5) p6,.Break p7] [.ExceptHandler (some (.Name "StopIteration" p8)) none (b₀::suite) p14] [] [] p9) σ Q:=fun η s R=>by
 refine wpAny_Try_except (FV ?_)
 show wpAny (mo G) c.A (do
  standAt p6
  if ← swapsWith (.Call f [] [] p5) (some (.Name x px)) p6.line c.env then do
   evalThenUse (.Call f [] [] p5) c.env fun v=>assignAll v ((assignEach [.Name x px] c.env).map (·.2))
   pure G1
  else do
   let v ← eval (.Call f [] [] p5) c.env
   assignStores c.env v (← swappedStores [.Name x px] (.Call f [] [] p5) c.env) ((assignEach [.Name x px] c.env).map (·.2))) _ _ s
 rw [show swapsWith (.Call f [] [] p5) (some (.Name x px)) p6.line c.env=pure false from rfl,show swappedStores [.Name x px] (.Call f [] [] p5) c.env=pure Av from rfl,show assignEach [.Name x px] c.env=[(false,assign (.Name x px) c.env)] from rfl,he]
 refine Aa (Bu (Aa (Ad ?_)))
 rw [if_neg (by decide)]
 refine Aa (Aa (wbE (hfun η s R) fun f' fa σ1 η1 s1 h1 hf R1 st1=>?_))
 obtain ⟨rfl,rfl⟩:=h1
 obtain ⟨y,rfl,d,z⟩:=hf.nxtE
 have hy:=R1.frz _ _ z
 refine Dh (P:=fun h=>h.get? y=some (boundO "method-wrapper" "list_iterator.__next__" (η1.ρ li))) rfl (fun h e=>Kpr.nxt (η:=η1) e) (Hz rfl ?_)
 show wpAny _ _ (pure []) _ _ _
 refine Ad ⟨hy,Sd R1 hh hli hl hy (fun v x' s' hv hx R2 st2=>Aa (Ad ?_)) fun hn e s' he0 hlo R2 st2 hoe=>?_⟩
 ·show wpAny (mo G) c.A (assignAll x' [assign (.Name x px) c.env] >>=fun _=>pure G1) _ _ s'
  refine Aa (wbE (WG.name (pos:=px) hi (hq v hv) η1 s' x' R2 hx) fun _ _ σ3 η3 s3 h3 _ R3 st3=>Ad (FV ?_))
  exact Ug ⟨.brk,σ3,η3,h3,.brk,R3,(st1.trans st2).trans st3⟩
 ·have e0:s.heap.get? e=none:=by
   cases q:s.heap.get? e with
   | none=>rfl
   | some o=>obtain ⟨o',z⟩:=st1.ex e o q; rw [he0] at z; exact ns z
  refine TN R2 (st1.trans st2) hfe e0 (Kd.fresh R1 he0 hlo) hoe hstop hks fun s5 R5 st5=>?_
  exact AC (hsu hn e η1 s5 R5) (fun _ _ ⟨v,σ',η',a,b,r,t⟩=>⟨v,σ',η',a,b,r.unmark R.ok,st5.trans t⟩) fun _ _ z=>z
theorem RO {yn sn dn:Str} {by_ bs bd:Bool} {j s d:Nat} {p8 p9 p10 p11 p12 p13 ap p ap' p':Pos} {Q:PF} {lj ls ld:Lb} {js ss:List AV} {y:Int} {es:List (Int×AV)} {ep:Nat}
  (hj:c.ns[j]?=some (yn,by_)) (hs:c.ns[s]?=some (sn,bs)) (hd:c.ns[d]?=some (dn,bd)) (lj':lg σ.loc j=some (.ref lj)) (ls':lg σ.loc s=some (.ref ls)) (ld':lg σ.loc d=some (.ref ld))
  (n1:lj≠ls) (n2:ls≠ld) (n3:lj≠ld) (hlj:σ.H lj=some (.list js)) (hjs:js.length≤2 ^ 20) (hjn:js≠[]) (hls:σ.H ls=some (.list (ss++[.int y]))) (hss:ss.length<2 ^ 20) (hld:σ.H ld=some (.dict es ep)) (hes:es.length≤2 ^ 20) (hk:(aget es y).isSome=true)
  (hline:(ap.endLine==p.line)=true) (hline':(ap'.endLine==p'.line)=true)
  (q:∀ ep',Q .next ⟨σ.loc,up (up (up σ.H ls (.list ss)) ld (.dict (adel es y) ep')) lj (.list js.dropLast)⟩) :
  WS G c [.Delete [.Subscript (.Name dn p8) (.Call (.Attribute (.Name sn p9) "pop" ap) [] [] p) p10] p11,.Expr (.Call (.Attribute (.Name yn p12) "pop" ap') [] [] p') p13] σ Q:=by
 refine WS.cons (W1.del (WE.name hd ld' (WE.meth (WE.name hs ls' ⟨_,_,WM.pop (.inr ⟨ls,rfl,hls⟩),Kpr.builtin,WEs.nil (WV.pop hls ?_ (x:=.int y) ?_ ?_)⟩) rfl hline (by decide) rfl rfl)))
 ·rw [A6,C1]; assumption
 ·simp
 ·refine WDel.dict (es:=es) (ep:=ep) ?_ hk hes fun ep'=>?_
  ·dsimp only; rw [Ha _ _ (Dc n2)]; exact hld
  ·dsimp only
   refine WS.cons (W1.expr (WE.meth (WE.name hj lj' ⟨_,_,WM.pop (xs:=js) (.inr ⟨lj,rfl,?_⟩),Kpr.builtin,WEs.nil (WV.pop (xs:=js) (x:=js.getLast hjn) ?_ hjs ?_ (WS.nil ?_))⟩) rfl hline' (by decide) rfl rfl) rfl)
   ·dsimp only; rw [Ha _ _ n3,Ha _ _ n1]; exact hlj
   ·dsimp only; rw [Ha _ _ n3,Ha _ _ n1]; exact hlj
   ·rw [Gi]; exact Ac _
   ·have:=q ep'; rwa [C7]
end
end
section
structure Bx where
 w:World
 h₀:Heap
 os₀:OsState
 mg:Str->Option Value
 mb:Str->Option Value
 t:h₀.get? 260=some o12∧h₀.get? 267=some o12
noncomputable abbrev gg (b:Bx):Gb:={ prog:=pr,w:=b.w,K:=K1 b.w.params,h₀:=b.h₀,os₀:=b.os₀,mg:=b.mg,mb:=b.mb }
section
variable {G:Gb} {fd:FuncData}
theorem WBind.of1 {x1:Str} {a1:AV} (h:∀ v1,bindArgs fd ⟨[v1],[]⟩=pure [(x1,v1)]):WBind G fd [a1] [(x1,a1)]:=fun c η σ s args' A E Q R hv k=>by
 cases hv with
 | cons h1 hr=>cases hr; rw [h]; exact Ad (k _ η s.heap s.toks R (.refl ..) (.cons h1 .nil))
theorem WBind.of2 {x1 x2:Str} {a1 a2:AV} (h:∀ v1 v2,bindArgs fd ⟨[v1,v2],[]⟩=pure [(x1,v1),(x2,v2)]):WBind G fd [a1,a2] [(x1,a1),(x2,a2)]:=fun c η σ s args' A E Q R hv k=>by
 cases hv with
 | cons h1 hr=>cases hr with
  | cons h2 hr=>cases hr; rw [h]; exact Ad (k _ η s.heap s.toks R (.refl ..) (.cons h1 (.cons h2 .nil)))
theorem WBind.of3 {x1 x2 x3:Str} {a1 a2 a3:AV} (h:∀ v1 v2 v3,bindArgs fd ⟨[v1,v2,v3],[]⟩=pure [(x1,v1),(x2,v2),(x3,v3)]):WBind G fd [a1,a2,a3] [(x1,a1),(x2,a2),(x3,a3)]:=fun c η σ s args' A E Q R hv k=>by
 cases hv with
 | cons h1 hr=>cases hr with
  | cons h2 hr=>cases hr with
   | cons h3 hr=>cases hr; rw [h]; exact Ad (k _ η s.heap s.toks R (.refl ..) (.cons h1 (.cons h2 (.cons h3 .nil))))
end
theorem HC (H:Hp) (l:Lb) (a b:AO):up (up H l a) l b=up H l b:=by
 funext x; unfold up; by_cases h:x=l<;>simp [h]
end
section
inductive At where
 | node2info | ready | passed | finished | maxlen | cws | cwslen | splits | lines | cur | isize | node | npred | succs
inductive Um where
 | gn | add | prep | ready | active | done | cyc | nl | chunk | push | popf | apop | reset | ows | pc
inductive Fn where
 | len | range | list | tuple | sum | min | sorted | isinst | iter | set | bool | str
 | usr (a:Addr)
 | mkI (C fI:Addr)
 | mkS (C fI:Addr)
 | mkA (C fI:Addr)
inductive Mt where
 | lappend | lpop | lclear | dget | sadd | isspace | index | join
 | um (u:Um)
inductive X where
 | fail
 | var (i:Nat)
 | int (i:Int)
 | str (l:List Nat)
 | none
 | bool (b:Bool)
 | ty (s:String)
 | bin (o:Operator) (a b:X)
 | cmp (o:CmpOp) (a b:X)
 | chain (o p:CmpOp) (a b c:X)
 | not (a:X)
 | neg (a:X)
 | and (a b:X)
 | or (a b:X)
 | ite (t a b:X)
 | named (i:Nat) (a:X)
 | sub (a b:X)
 | slice (a b c:X)
 | attr (n:At) (a:X)
 | call (f:Fn) (as:X)
 | meth (m:Mt) (o as:X)
 | methS (u:Um) (o as:X)
 | list (as:X)
 | tup (as:X)
 | dict
 | comp (two:Bool) (js:List Nat) (elt it cond:X)
 | next (a:X)
 | rev (a:X)
 | vals (a:X)
 | nil
 | cons (a as:X)
 | star (a as:X)
inductive Tg where
 | fail
 | name (i:Nat)
 | pair (i j:Nat)
 | attr (n:At) (o:X)
 | sub (o k:X)
inductive Y where
 | fail
 | skip
 | seq (a b:Y)
 | asg (t:Tg) (e:X)
 | asg2 (t u:Tg) (e:X)
 | aug (t:Tg) (o:Operator) (e:X)
 | expr (e:X)
 | ret (e:X)
 | ite (t:X) (a b:Y)
 | whil (t:X) (a b:Y)
 | forr (t:Tg) (it:X) (a b:Y)
 | brk
 | cont
 | tryN (i j s d:Nat)
noncomputable def At.nm:At->Str
 | .node2info => "_node2info" | .ready => "_ready_nodes" | .passed => "_npassedout" | .finished => "_nfinished"
 | .maxlen => "_maxlen" | .cws => "_continuation_ws" | .cwslen => "_continuation_ws_len" | .splits => "_splitchars" | .lines => "_lines" | .cur => "_current_line"
 | .isize => "_initial_size" | .node => "node" | .npred => "npredecessors" | .succs => "successors"
noncomputable def At.ix:At->Nat
 | .node2info=>0 | .ready=>1 | .passed=>2 | .finished=>3
 | .maxlen=>0 | .cws=>1 | .cwslen=>2 | .splits=>3 | .lines=>4 | .cur=>5
 | .isize=>0 | .node=>0 | .npred=>1 | .succs=>2
inductive AtK where
 | inst (C:Addr) | acc | slot (p:Addr)
noncomputable def At.kd:At->AtK
 | .node2info | .ready | .passed | .finished=>.inst 137
 | .maxlen | .cws | .cwslen | .splits | .lines | .cur=>.inst 214
 | .isize=>.acc
 | .node=>.slot 41 | .npred=>.slot 42 | .succs=>.slot 43
noncomputable def Um.nm:Um->Str
 | .gn => "_get_nodeinfo" | .add => "add" | .prep => "prepare" | .ready => "get_ready" | .active => "is_active" | .done => "done" | .cyc => "_find_cycle"
 | .nl => "newline" | .chunk => "_append_chunk" | .push => "push" | .popf => "pop_from" | .apop => "pop" | .reset => "reset" | .ows => "is_onlyws" | .pc => "part_count"
noncomputable def Um.f:Um->Addr
 | .gn=>80 | .add=>87 | .prep=>92 | .ready=>99 | .active=>106 | .done=>120 | .cyc=>127
 | .nl=>176 | .chunk=>211 | .push=>242 | .popf=>250 | .apop=>258 | .reset=>280 | .ows=>287 | .pc=>295
noncomputable def Um.cls:Um->Option Addr
 | .gn | .add | .prep | .ready | .active | .done | .cyc=>some 137
 | .nl | .chunk=>some 214
 | _=>Av
noncomputable def fnTab:List (Str×Fn):=[("len",.len),("range",.range),("list",.list),("tuple",.tuple),("sum",.sum),("min",.min),("sorted",.sorted),("isinstance",.isinst),("iter",.iter),("set",.set),("bool",.bool),("str",.str),
 ("_NodeInfo",.mkS 40 36),("TopologicalSorter",.mkI 137 73),("_ValueFormatter",.mkI 214 155),("_Accumulator",.mkA 298 235),
 ("heappop",.usr 309),("heapify",.usr 316),("_siftdown",.usr 323),("_siftup",.usr 330),("_law_cells",.usr 337),("_law_order",.usr 344),("_law_ranks",.usr 349),("_law_sorter",.usr 354),("_law_chunks",.usr 359),("_law_folded",.usr 364),
 ("_law_parted",.usr 369),("_law_records",.usr 376),("_law_freed",.usr 381),("_law_run",.usr 386)]
noncomputable def Fn.v:Fn->Value
 | .len=>.builtin "len" | .range=>.type "range" | .list=>.type "list" | .tuple=>.type "tuple" | .sum=>.builtin "sum" | .min=>.builtin "min" | .sorted=>.builtin "sorted" | .isinst=>.builtin "isinstance"
 | .iter=>.builtin "iter" | .set=>.type "set" | .bool=>.type "bool" | .str=>.type "str"
 | .usr a=>.ref a | .mkI C _=>.ref C | .mkS C _=>.ref C | .mkA C _=>.ref C
noncomputable def Mt.nm:Mt->Str
 | .lappend => "append" | .lpop => "pop" | .lclear => "clear" | .dget => "get" | .sadd => "add" | .isspace => "isspace" | .index => "index" | .join => "join"
 | .um u=>u.nm
theorem bAn {a b:Bool} (h:(a&&b)=true):a=true∧b=true:=BS.mp h
theorem Ju {a b c:Bool} (h:(a&&b&&c)=true):An3 (a=true) (b=true) (c=true):=⟨(bAn (bAn h).1).1,(bAn (bAn h).1).2,(bAn h).2⟩
theorem Su {a b c d:Bool} (h:(a&&b&&c&&d)=true):An4 (a=true) (b=true) (c=true) (d=true):=⟨(bAn (bAn (bAn h).1).1).1,(bAn (bAn (bAn h).1).1).2,(bAn (bAn h).1).2,(bAn h).2⟩
noncomputable def one {α:Type} (l:List α) (K:α->Bool):Bool:=List.casesOn l false fun x r=>List.casesOn r (K x) fun _ _=>false
theorem HY {α:Type} {R:List α->Prop} {K:α->Bool} {l:List α} (h:one l K=true) (k:∀ x,K x=true->R [x]):R l:=by
 revert h
 exact List.casesOn (motive:=fun l=>one l K=true->R l) l (fun h=>ff h) fun x r=>List.casesOn (motive:=fun r=>one (x::r) K=true->R (x::r)) r (k x) fun _ _ h=>ff h
noncomputable def two {α:Type} (l:List α) (K:α->α->Bool):Bool:=List.casesOn l false fun x r=>one r (K x)
theorem KE {α:Type} {R:List α->Prop} {K:α->α->Bool} {l:List α} (h:two l K=true) (k:∀ x y,K x y=true->R [x,y]):R l:=by
 revert h
 exact List.casesOn (motive:=fun l=>two l K=true->R l) l (fun h=>ff h) fun x r h=>HY (R:=fun r=>R (x::r)) h (k x)
noncomputable def oCons {α:Type} (l:List α) (K:α->List α->Bool):Bool:=List.casesOn l false K
theorem IZ {α:Type} {R:List α->Prop} {K:α->List α->Bool} {l:List α} (h:oCons l K=true) (k:∀ x r,K x r=true->R (x::r)):R l:=by
 revert h
 exact List.casesOn (motive:=fun l=>oCons l K=true->R l) l (fun h=>ff h) k
theorem HP {α:Type} {R:List α->Prop} {l:List α} (h:l.isEmpty=true) (k:R []):R l:=by
 revert h
 exact List.casesOn (motive:=fun l=>l.isEmpty=true->R l) l (fun _=>k) fun _ _ h=>ff h
noncomputable def oSome {α:Type} (o:Option α) (K:α->Bool):Bool:=Option.casesOn o false K
theorem KQ {α:Type} {R:Option α->Prop} {K:α->Bool} {o:Option α} (h:oSome o K=true) (k:∀ x,K x=true->R (some x)):R o:=by
 revert h
 exact Option.casesOn (motive:=fun o=>oSome o K=true->R o) o (fun h=>ff h) k
theorem MU {α:Type} {R:Option α->Prop} {o:Option α} (h:o.isNone=true) (k:R Av):R o:=by
 revert h
 exact Option.casesOn (motive:=fun o=>o.isNone=true->R o) o (fun _=>k) fun _ h=>ff h
noncomputable def oBool (e:Expr) (K:BoolOp->List Expr->Bool):Bool:=by
 cases e with
 | BoolOp a b p=>exact K a b
 | _=>exact false
theorem Ja {R:Expr->Prop} {K:BoolOp->List Expr->Bool} {e:Expr} (h:oBool e K=true) (k:∀ a b p,K a b=true->R (.BoolOp a b p)):R e:=by
 revert h
 refine Expr.casesOn (motive_1:=fun e=>oBool e K=true->R e) e k (fun _ _ _=>ff) (fun _ _ _ _=>ff) (fun _ _ _=>ff) (fun _ _ _ _=>ff) (fun _ _ _ _=>ff) (fun _ _ _=>ff) (fun _ _ _=>ff) (fun _ _ _ _=>ff) (fun _ _ _ _=>ff) (fun _ _ _ _ _=>ff) (fun _ _ _ _=>ff) (fun _ _=>ff) (fun _ _=>ff) (fun _ _=>ff) (fun _ _ _ _=>ff) (fun _ _ _ _=>ff) (fun _ _ _ _=>ff) (fun _ _=>ff) (fun _ _ _=>ff) (fun _ _ _=>ff) (fun _ _ _=>ff) (fun _ _=>ff) (fun _ _=>ff) (fun _ _=>ff) (fun _ _ _=>ff) (fun _ _ _ _=>ff)
noncomputable def oNamed (e:Expr) (K:Expr->Expr->Bool):Bool:=by
 cases e with
 | NamedExpr a b p=>exact K a b
 | _=>exact false
theorem L6 {R:Expr->Prop} {K:Expr->Expr->Bool} {e:Expr} (h:oNamed e K=true) (k:∀ a b p,K a b=true->R (.NamedExpr a b p)):R e:=by
 revert h
 refine Expr.casesOn (motive_1:=fun e=>oNamed e K=true->R e) e (fun _ _ _=>ff) k (fun _ _ _ _=>ff) (fun _ _ _=>ff) (fun _ _ _ _=>ff) (fun _ _ _ _=>ff) (fun _ _ _=>ff) (fun _ _ _=>ff) (fun _ _ _ _=>ff) (fun _ _ _ _=>ff) (fun _ _ _ _ _=>ff) (fun _ _ _ _=>ff) (fun _ _=>ff) (fun _ _=>ff) (fun _ _=>ff) (fun _ _ _ _=>ff) (fun _ _ _ _=>ff) (fun _ _ _ _=>ff) (fun _ _=>ff) (fun _ _ _=>ff) (fun _ _ _=>ff) (fun _ _ _=>ff) (fun _ _=>ff) (fun _ _=>ff) (fun _ _=>ff) (fun _ _ _=>ff) (fun _ _ _ _=>ff)
noncomputable def oBin (e:Expr) (K:Expr->Operator->Expr->Bool):Bool:=by
 cases e with
 | BinOp a b c p=>exact K a b c
 | _=>exact false
theorem Qg {R:Expr->Prop} {K:Expr->Operator->Expr->Bool} {e:Expr} (h:oBin e K=true) (k:∀ a b c p,K a b c=true->R (.BinOp a b c p)):R e:=by
 revert h
 refine Expr.casesOn (motive_1:=fun e=>oBin e K=true->R e) e (fun _ _ _=>ff) (fun _ _ _=>ff) k (fun _ _ _=>ff) (fun _ _ _ _=>ff) (fun _ _ _ _=>ff) (fun _ _ _=>ff) (fun _ _ _=>ff) (fun _ _ _ _=>ff) (fun _ _ _ _=>ff) (fun _ _ _ _ _=>ff) (fun _ _ _ _=>ff) (fun _ _=>ff) (fun _ _=>ff) (fun _ _=>ff) (fun _ _ _ _=>ff) (fun _ _ _ _=>ff) (fun _ _ _ _=>ff) (fun _ _=>ff) (fun _ _ _=>ff) (fun _ _ _=>ff) (fun _ _ _=>ff) (fun _ _=>ff) (fun _ _=>ff) (fun _ _=>ff) (fun _ _ _=>ff) (fun _ _ _ _=>ff)
noncomputable def oUna (e:Expr) (K:UnaryOp->Expr->Bool):Bool:=by
 cases e with
 | UnaryOp a b p=>exact K a b
 | _=>exact false
theorem Kj {R:Expr->Prop} {K:UnaryOp->Expr->Bool} {e:Expr} (h:oUna e K=true) (k:∀ a b p,K a b=true->R (.UnaryOp a b p)):R e:=by
 revert h
 refine Expr.casesOn (motive_1:=fun e=>oUna e K=true->R e) e (fun _ _ _=>ff) (fun _ _ _=>ff) (fun _ _ _ _=>ff) k (fun _ _ _ _=>ff) (fun _ _ _ _=>ff) (fun _ _ _=>ff) (fun _ _ _=>ff) (fun _ _ _ _=>ff) (fun _ _ _ _=>ff) (fun _ _ _ _ _=>ff) (fun _ _ _ _=>ff) (fun _ _=>ff) (fun _ _=>ff) (fun _ _=>ff) (fun _ _ _ _=>ff) (fun _ _ _ _=>ff) (fun _ _ _ _=>ff) (fun _ _=>ff) (fun _ _ _=>ff) (fun _ _ _=>ff) (fun _ _ _=>ff) (fun _ _=>ff) (fun _ _=>ff) (fun _ _=>ff) (fun _ _ _=>ff) (fun _ _ _ _=>ff)
noncomputable def oIte (e:Expr) (K:Expr->Expr->Expr->Bool):Bool:=by
 cases e with
 | IfExp a b c p=>exact K a b c
 | _=>exact false
theorem Qd {R:Expr->Prop} {K:Expr->Expr->Expr->Bool} {e:Expr} (h:oIte e K=true) (k:∀ a b c p,K a b c=true->R (.IfExp a b c p)):R e:=by
 revert h
 refine Expr.casesOn (motive_1:=fun e=>oIte e K=true->R e) e (fun _ _ _=>ff) (fun _ _ _=>ff) (fun _ _ _ _=>ff) (fun _ _ _=>ff) (fun _ _ _ _=>ff) k (fun _ _ _=>ff) (fun _ _ _=>ff) (fun _ _ _ _=>ff) (fun _ _ _ _=>ff) (fun _ _ _ _ _=>ff) (fun _ _ _ _=>ff) (fun _ _=>ff) (fun _ _=>ff) (fun _ _=>ff) (fun _ _ _ _=>ff) (fun _ _ _ _=>ff) (fun _ _ _ _=>ff) (fun _ _=>ff) (fun _ _ _=>ff) (fun _ _ _=>ff) (fun _ _ _=>ff) (fun _ _=>ff) (fun _ _=>ff) (fun _ _=>ff) (fun _ _ _=>ff) (fun _ _ _ _=>ff)
noncomputable def oDict (e:Expr) (K:List (Option Expr)->List Expr->Bool):Bool:=by
 cases e with
 | Dict a b p=>exact K a b
 | _=>exact false
theorem MQ {R:Expr->Prop} {K:List (Option Expr)->List Expr->Bool} {e:Expr} (h:oDict e K=true) (k:∀ a b p,K a b=true->R (.Dict a b p)):R e:=by
 revert h
 refine Expr.casesOn (motive_1:=fun e=>oDict e K=true->R e) e (fun _ _ _=>ff) (fun _ _ _=>ff) (fun _ _ _ _=>ff) (fun _ _ _=>ff) (fun _ _ _ _=>ff) (fun _ _ _ _=>ff) k (fun _ _ _=>ff) (fun _ _ _ _=>ff) (fun _ _ _ _=>ff) (fun _ _ _ _ _=>ff) (fun _ _ _ _=>ff) (fun _ _=>ff) (fun _ _=>ff) (fun _ _=>ff) (fun _ _ _ _=>ff) (fun _ _ _ _=>ff) (fun _ _ _ _=>ff) (fun _ _=>ff) (fun _ _ _=>ff) (fun _ _ _=>ff) (fun _ _ _=>ff) (fun _ _=>ff) (fun _ _=>ff) (fun _ _=>ff) (fun _ _ _=>ff) (fun _ _ _ _=>ff)
noncomputable def oComp (e:Expr) (K:Expr->List Comprehension->Scope->Bool):Bool:=by
 cases e with
 | ListComp a b c p=>exact K a b c
 | _=>exact false
theorem MR {R:Expr->Prop} {K:Expr->List Comprehension->Scope->Bool} {e:Expr} (h:oComp e K=true) (k:∀ a b c p,K a b c=true->R (.ListComp a b c p)):R e:=by
 revert h
 refine Expr.casesOn (motive_1:=fun e=>oComp e K=true->R e) e (fun _ _ _=>ff) (fun _ _ _=>ff) (fun _ _ _ _=>ff) (fun _ _ _=>ff) (fun _ _ _ _=>ff) (fun _ _ _ _=>ff) (fun _ _ _=>ff) (fun _ _ _=>ff) k (fun _ _ _ _=>ff) (fun _ _ _ _ _=>ff) (fun _ _ _ _=>ff) (fun _ _=>ff) (fun _ _=>ff) (fun _ _=>ff) (fun _ _ _ _=>ff) (fun _ _ _ _=>ff) (fun _ _ _ _=>ff) (fun _ _=>ff) (fun _ _ _=>ff) (fun _ _ _=>ff) (fun _ _ _=>ff) (fun _ _=>ff) (fun _ _=>ff) (fun _ _=>ff) (fun _ _ _=>ff) (fun _ _ _ _=>ff)
noncomputable def oCmp (e:Expr) (K:Expr->List CmpOp->List Expr->Bool):Bool:=by
 cases e with
 | Compare a b c p=>exact K a b c
 | _=>exact false
theorem L7 {R:Expr->Prop} {K:Expr->List CmpOp->List Expr->Bool} {e:Expr} (h:oCmp e K=true) (k:∀ a b c p,K a b c=true->R (.Compare a b c p)):R e:=by
 revert h
 refine Expr.casesOn (motive_1:=fun e=>oCmp e K=true->R e) e (fun _ _ _=>ff) (fun _ _ _=>ff) (fun _ _ _ _=>ff) (fun _ _ _=>ff) (fun _ _ _ _=>ff) (fun _ _ _ _=>ff) (fun _ _ _=>ff) (fun _ _ _=>ff) (fun _ _ _ _=>ff) (fun _ _ _ _=>ff) (fun _ _ _ _ _=>ff) (fun _ _ _ _=>ff) (fun _ _=>ff) (fun _ _=>ff) (fun _ _=>ff) k (fun _ _ _ _=>ff) (fun _ _ _ _=>ff) (fun _ _=>ff) (fun _ _ _=>ff) (fun _ _ _=>ff) (fun _ _ _=>ff) (fun _ _=>ff) (fun _ _=>ff) (fun _ _=>ff) (fun _ _ _=>ff) (fun _ _ _ _=>ff)
noncomputable def oCall (e:Expr) (K:Expr->List Expr->List Keyword->Pos->Bool):Bool:=by
 cases e with
 | Call a b c p=>exact K a b c p
 | _=>exact false
theorem Hx {R:Expr->Prop} {K:Expr->List Expr->List Keyword->Pos->Bool} {e:Expr} (h:oCall e K=true) (k:∀ a b c p,K a b c p=true->R (.Call a b c p)):R e:=by
 revert h
 refine Expr.casesOn (motive_1:=fun e=>oCall e K=true->R e) e (fun _ _ _=>ff) (fun _ _ _=>ff) (fun _ _ _ _=>ff) (fun _ _ _=>ff) (fun _ _ _ _=>ff) (fun _ _ _ _=>ff) (fun _ _ _=>ff) (fun _ _ _=>ff) (fun _ _ _ _=>ff) (fun _ _ _ _=>ff) (fun _ _ _ _ _=>ff) (fun _ _ _ _=>ff) (fun _ _=>ff) (fun _ _=>ff) (fun _ _=>ff) (fun _ _ _ _=>ff) k (fun _ _ _ _=>ff) (fun _ _=>ff) (fun _ _ _=>ff) (fun _ _ _=>ff) (fun _ _ _=>ff) (fun _ _=>ff) (fun _ _=>ff) (fun _ _=>ff) (fun _ _ _=>ff) (fun _ _ _ _=>ff)
noncomputable def oCst (e:Expr) (K:Const->Nat->Bool):Bool:=by
 cases e with
 | Constant a b p=>exact K a b
 | _=>exact false
theorem Qe {R:Expr->Prop} {K:Const->Nat->Bool} {e:Expr} (h:oCst e K=true) (k:∀ a b p,K a b=true->R (.Constant a b p)):R e:=by
 revert h
 refine Expr.casesOn (motive_1:=fun e=>oCst e K=true->R e) e (fun _ _ _=>ff) (fun _ _ _=>ff) (fun _ _ _ _=>ff) (fun _ _ _=>ff) (fun _ _ _ _=>ff) (fun _ _ _ _=>ff) (fun _ _ _=>ff) (fun _ _ _=>ff) (fun _ _ _ _=>ff) (fun _ _ _ _=>ff) (fun _ _ _ _ _=>ff) (fun _ _ _ _=>ff) (fun _ _=>ff) (fun _ _=>ff) (fun _ _=>ff) (fun _ _ _ _=>ff) (fun _ _ _ _=>ff) (fun _ _ _ _=>ff) (fun _ _=>ff) k (fun _ _ _=>ff) (fun _ _ _=>ff) (fun _ _=>ff) (fun _ _=>ff) (fun _ _=>ff) (fun _ _ _=>ff) (fun _ _ _ _=>ff)
noncomputable def oAttr (e:Expr) (K:Expr->Str->Pos->Bool):Bool:=by
 cases e with
 | Attribute a b p=>exact K a b p
 | _=>exact false
theorem HA {R:Expr->Prop} {K:Expr->Str->Pos->Bool} {e:Expr} (h:oAttr e K=true) (k:∀ a b p,K a b p=true->R (.Attribute a b p)):R e:=by
 revert h
 refine Expr.casesOn (motive_1:=fun e=>oAttr e K=true->R e) e (fun _ _ _=>ff) (fun _ _ _=>ff) (fun _ _ _ _=>ff) (fun _ _ _=>ff) (fun _ _ _ _=>ff) (fun _ _ _ _=>ff) (fun _ _ _=>ff) (fun _ _ _=>ff) (fun _ _ _ _=>ff) (fun _ _ _ _=>ff) (fun _ _ _ _ _=>ff) (fun _ _ _ _=>ff) (fun _ _=>ff) (fun _ _=>ff) (fun _ _=>ff) (fun _ _ _ _=>ff) (fun _ _ _ _=>ff) (fun _ _ _ _=>ff) (fun _ _=>ff) (fun _ _ _=>ff) k (fun _ _ _=>ff) (fun _ _=>ff) (fun _ _=>ff) (fun _ _=>ff) (fun _ _ _=>ff) (fun _ _ _ _=>ff)
noncomputable def oSub (e:Expr) (K:Expr->Expr->Bool):Bool:=by
 cases e with
 | Subscript a b p=>exact K a b
 | _=>exact false
theorem I8 {R:Expr->Prop} {K:Expr->Expr->Bool} {e:Expr} (h:oSub e K=true) (k:∀ a b p,K a b=true->R (.Subscript a b p)):R e:=by
 revert h
 refine Expr.casesOn (motive_1:=fun e=>oSub e K=true->R e) e (fun _ _ _=>ff) (fun _ _ _=>ff) (fun _ _ _ _=>ff) (fun _ _ _=>ff) (fun _ _ _ _=>ff) (fun _ _ _ _=>ff) (fun _ _ _=>ff) (fun _ _ _=>ff) (fun _ _ _ _=>ff) (fun _ _ _ _=>ff) (fun _ _ _ _ _=>ff) (fun _ _ _ _=>ff) (fun _ _=>ff) (fun _ _=>ff) (fun _ _=>ff) (fun _ _ _ _=>ff) (fun _ _ _ _=>ff) (fun _ _ _ _=>ff) (fun _ _=>ff) (fun _ _ _=>ff) (fun _ _ _=>ff) k (fun _ _=>ff) (fun _ _=>ff) (fun _ _=>ff) (fun _ _ _=>ff) (fun _ _ _ _=>ff)
noncomputable def oStar (e:Expr) (K:Expr->Bool):Bool:=by
 cases e with
 | Starred a p=>exact K a
 | _=>exact false
theorem KP {R:Expr->Prop} {K:Expr->Bool} {e:Expr} (h:oStar e K=true) (k:∀ a p,K a=true->R (.Starred a p)):R e:=by
 revert h
 refine Expr.casesOn (motive_1:=fun e=>oStar e K=true->R e) e (fun _ _ _=>ff) (fun _ _ _=>ff) (fun _ _ _ _=>ff) (fun _ _ _=>ff) (fun _ _ _ _=>ff) (fun _ _ _ _=>ff) (fun _ _ _=>ff) (fun _ _ _=>ff) (fun _ _ _ _=>ff) (fun _ _ _ _=>ff) (fun _ _ _ _ _=>ff) (fun _ _ _ _=>ff) (fun _ _=>ff) (fun _ _=>ff) (fun _ _=>ff) (fun _ _ _ _=>ff) (fun _ _ _ _=>ff) (fun _ _ _ _=>ff) (fun _ _=>ff) (fun _ _ _=>ff) (fun _ _ _=>ff) (fun _ _ _=>ff) k (fun _ _=>ff) (fun _ _=>ff) (fun _ _ _=>ff) (fun _ _ _ _=>ff)
noncomputable def oName (e:Expr) (K:Str->Bool):Bool:=by
 cases e with
 | Name a p=>exact K a
 | _=>exact false
theorem Hj {R:Expr->Prop} {K:Str->Bool} {e:Expr} (h:oName e K=true) (k:∀ a p,K a=true->R (.Name a p)):R e:=by
 revert h
 refine Expr.casesOn (motive_1:=fun e=>oName e K=true->R e) e (fun _ _ _=>ff) (fun _ _ _=>ff) (fun _ _ _ _=>ff) (fun _ _ _=>ff) (fun _ _ _ _=>ff) (fun _ _ _ _=>ff) (fun _ _ _=>ff) (fun _ _ _=>ff) (fun _ _ _ _=>ff) (fun _ _ _ _=>ff) (fun _ _ _ _ _=>ff) (fun _ _ _ _=>ff) (fun _ _=>ff) (fun _ _=>ff) (fun _ _=>ff) (fun _ _ _ _=>ff) (fun _ _ _ _=>ff) (fun _ _ _ _=>ff) (fun _ _=>ff) (fun _ _ _=>ff) (fun _ _ _=>ff) (fun _ _ _=>ff) (fun _ _=>ff) k (fun _ _=>ff) (fun _ _ _=>ff) (fun _ _ _ _=>ff)
noncomputable def oList (e:Expr) (K:List Expr->Bool):Bool:=by
 cases e with
 | List a p=>exact K a
 | _=>exact false
theorem MO {R:Expr->Prop} {K:List Expr->Bool} {e:Expr} (h:oList e K=true) (k:∀ a p,K a=true->R (.List a p)):R e:=by
 revert h
 refine Expr.casesOn (motive_1:=fun e=>oList e K=true->R e) e (fun _ _ _=>ff) (fun _ _ _=>ff) (fun _ _ _ _=>ff) (fun _ _ _=>ff) (fun _ _ _ _=>ff) (fun _ _ _ _=>ff) (fun _ _ _=>ff) (fun _ _ _=>ff) (fun _ _ _ _=>ff) (fun _ _ _ _=>ff) (fun _ _ _ _ _=>ff) (fun _ _ _ _=>ff) (fun _ _=>ff) (fun _ _=>ff) (fun _ _=>ff) (fun _ _ _ _=>ff) (fun _ _ _ _=>ff) (fun _ _ _ _=>ff) (fun _ _=>ff) (fun _ _ _=>ff) (fun _ _ _=>ff) (fun _ _ _=>ff) (fun _ _=>ff) (fun _ _=>ff) k (fun _ _ _=>ff) (fun _ _ _ _=>ff)
noncomputable def oTup (e:Expr) (K:List Expr->Nat->Bool):Bool:=by
 cases e with
 | Tuple a b p=>exact K a b
 | _=>exact false
theorem Jy {R:Expr->Prop} {K:List Expr->Nat->Bool} {e:Expr} (h:oTup e K=true) (k:∀ a b p,K a b=true->R (.Tuple a b p)):R e:=by
 revert h
 refine Expr.casesOn (motive_1:=fun e=>oTup e K=true->R e) e (fun _ _ _=>ff) (fun _ _ _=>ff) (fun _ _ _ _=>ff) (fun _ _ _=>ff) (fun _ _ _ _=>ff) (fun _ _ _ _=>ff) (fun _ _ _=>ff) (fun _ _ _=>ff) (fun _ _ _ _=>ff) (fun _ _ _ _=>ff) (fun _ _ _ _ _=>ff) (fun _ _ _ _=>ff) (fun _ _=>ff) (fun _ _=>ff) (fun _ _=>ff) (fun _ _ _ _=>ff) (fun _ _ _ _=>ff) (fun _ _ _ _=>ff) (fun _ _=>ff) (fun _ _ _=>ff) (fun _ _ _=>ff) (fun _ _ _=>ff) (fun _ _=>ff) (fun _ _=>ff) (fun _ _=>ff) k (fun _ _ _ _=>ff)
noncomputable def oSlice (e:Expr) (K:Option Expr->Option Expr->Option Expr->Bool):Bool:=by
 cases e with
 | Slice a b c p=>exact K a b c
 | _=>exact false
theorem L5 {R:Expr->Prop} {K:Option Expr->Option Expr->Option Expr->Bool} {e:Expr} (h:oSlice e K=true) (k:∀ a b c p,K a b c=true->R (.Slice a b c p)):R e:=by
 revert h
 refine Expr.casesOn (motive_1:=fun e=>oSlice e K=true->R e) e (fun _ _ _=>ff) (fun _ _ _=>ff) (fun _ _ _ _=>ff) (fun _ _ _=>ff) (fun _ _ _ _=>ff) (fun _ _ _ _=>ff) (fun _ _ _=>ff) (fun _ _ _=>ff) (fun _ _ _ _=>ff) (fun _ _ _ _=>ff) (fun _ _ _ _ _=>ff) (fun _ _ _ _=>ff) (fun _ _=>ff) (fun _ _=>ff) (fun _ _=>ff) (fun _ _ _ _=>ff) (fun _ _ _ _=>ff) (fun _ _ _ _=>ff) (fun _ _=>ff) (fun _ _ _=>ff) (fun _ _ _=>ff) (fun _ _ _=>ff) (fun _ _=>ff) (fun _ _=>ff) (fun _ _=>ff) (fun _ _ _=>ff) k
noncomputable def oRet (e:Stmt) (K:Option Expr->Bool):Bool:=by
 cases e with
 | Return a p=>exact K a
 | _=>exact false
theorem To {R:Stmt->Prop} {K:Option Expr->Bool} {e:Stmt} (h:oRet e K=true) (k:∀ a p,K a=true->R (.Return a p)):R e:=by
 revert h
 refine Stmt.casesOn (motive_2:=fun e=>oRet e K=true->R e) e (fun _ _ _ _ _ _ _ _ _ _=>ff) (fun _ _ _ _ _ _ _ _ _ _=>ff) (fun _ _ _ _ _ _ _ _ _ _ _=>ff) k (fun _ _=>ff) (fun _ _ _=>ff) (fun _ _ _ _ _ _ _=>ff) (fun _ _ _ _=>ff) (fun _ _ _ _ _=>ff) (fun _ _ _ _ _=>ff) (fun _ _ _ _ _=>ff) (fun _ _ _ _=>ff) (fun _ _ _ _=>ff) (fun _ _ _=>ff) (fun _ _ _=>ff) (fun _ _ _=>ff) (fun _ _ _=>ff) (fun _ _ _ _ _=>ff) (fun _ _ _ _ _=>ff) (fun _ _ _=>ff) (fun _ _=>ff) (fun _ _ _ _=>ff) (fun _ _=>ff) (fun _ _=>ff) (fun _ _=>ff) (fun _=>ff) (fun _=>ff) (fun _=>ff)
noncomputable def oDel (e:Stmt) (K:List Expr->Bool):Bool:=by
 cases e with
 | Delete a p=>exact K a
 | _=>exact false
theorem Tr {R:Stmt->Prop} {K:List Expr->Bool} {e:Stmt} (h:oDel e K=true) (k:∀ a p,K a=true->R (.Delete a p)):R e:=by
 revert h
 refine Stmt.casesOn (motive_2:=fun e=>oDel e K=true->R e) e (fun _ _ _ _ _ _ _ _ _ _=>ff) (fun _ _ _ _ _ _ _ _ _ _=>ff) (fun _ _ _ _ _ _ _ _ _ _ _=>ff) (fun _ _=>ff) k (fun _ _ _=>ff) (fun _ _ _ _ _ _ _=>ff) (fun _ _ _ _=>ff) (fun _ _ _ _ _=>ff) (fun _ _ _ _ _=>ff) (fun _ _ _ _ _=>ff) (fun _ _ _ _=>ff) (fun _ _ _ _=>ff) (fun _ _ _=>ff) (fun _ _ _=>ff) (fun _ _ _=>ff) (fun _ _ _=>ff) (fun _ _ _ _ _=>ff) (fun _ _ _ _ _=>ff) (fun _ _ _=>ff) (fun _ _=>ff) (fun _ _ _ _=>ff) (fun _ _=>ff) (fun _ _=>ff) (fun _ _=>ff) (fun _=>ff) (fun _=>ff) (fun _=>ff)
noncomputable def oAsg (e:Stmt) (K:List Expr->Expr->Bool):Bool:=by
 cases e with
 | Assign a b p=>exact K a b
 | _=>exact false
theorem MS {R:Stmt->Prop} {K:List Expr->Expr->Bool} {e:Stmt} (h:oAsg e K=true) (k:∀ a b p,K a b=true->R (.Assign a b p)):R e:=by
 revert h
 refine Stmt.casesOn (motive_2:=fun e=>oAsg e K=true->R e) e (fun _ _ _ _ _ _ _ _ _ _=>ff) (fun _ _ _ _ _ _ _ _ _ _=>ff) (fun _ _ _ _ _ _ _ _ _ _ _=>ff) (fun _ _=>ff) (fun _ _=>ff) k (fun _ _ _ _ _ _ _=>ff) (fun _ _ _ _=>ff) (fun _ _ _ _ _=>ff) (fun _ _ _ _ _=>ff) (fun _ _ _ _ _=>ff) (fun _ _ _ _=>ff) (fun _ _ _ _=>ff) (fun _ _ _=>ff) (fun _ _ _=>ff) (fun _ _ _=>ff) (fun _ _ _=>ff) (fun _ _ _ _ _=>ff) (fun _ _ _ _ _=>ff) (fun _ _ _=>ff) (fun _ _=>ff) (fun _ _ _ _=>ff) (fun _ _=>ff) (fun _ _=>ff) (fun _ _=>ff) (fun _=>ff) (fun _=>ff) (fun _=>ff)
noncomputable def oAug (e:Stmt) (K:Expr->Operator->Expr->Bool):Bool:=by
 cases e with
 | AugAssign a b c p=>exact K a b c
 | _=>exact false
theorem Tt {R:Stmt->Prop} {K:Expr->Operator->Expr->Bool} {e:Stmt} (h:oAug e K=true) (k:∀ a b c p,K a b c=true->R (.AugAssign a b c p)):R e:=by
 revert h
 refine Stmt.casesOn (motive_2:=fun e=>oAug e K=true->R e) e (fun _ _ _ _ _ _ _ _ _ _=>ff) (fun _ _ _ _ _ _ _ _ _ _=>ff) (fun _ _ _ _ _ _ _ _ _ _ _=>ff) (fun _ _=>ff) (fun _ _=>ff) (fun _ _ _=>ff) (fun _ _ _ _ _ _ _=>ff) k (fun _ _ _ _ _=>ff) (fun _ _ _ _ _=>ff) (fun _ _ _ _ _=>ff) (fun _ _ _ _=>ff) (fun _ _ _ _=>ff) (fun _ _ _=>ff) (fun _ _ _=>ff) (fun _ _ _=>ff) (fun _ _ _=>ff) (fun _ _ _ _ _=>ff) (fun _ _ _ _ _=>ff) (fun _ _ _=>ff) (fun _ _=>ff) (fun _ _ _ _=>ff) (fun _ _=>ff) (fun _ _=>ff) (fun _ _=>ff) (fun _=>ff) (fun _=>ff) (fun _=>ff)
noncomputable def oFor (e:Stmt) (K:Expr->Expr->List Stmt->List Stmt->Bool):Bool:=by
 cases e with
 | For a b c d p=>exact K a b c d
 | _=>exact false
theorem Tq {R:Stmt->Prop} {K:Expr->Expr->List Stmt->List Stmt->Bool} {e:Stmt} (h:oFor e K=true) (k:∀ a b c d p,K a b c d=true->R (.For a b c d p)):R e:=by
 revert h
 refine Stmt.casesOn (motive_2:=fun e=>oFor e K=true->R e) e (fun _ _ _ _ _ _ _ _ _ _=>ff) (fun _ _ _ _ _ _ _ _ _ _=>ff) (fun _ _ _ _ _ _ _ _ _ _ _=>ff) (fun _ _=>ff) (fun _ _=>ff) (fun _ _ _=>ff) (fun _ _ _ _ _ _ _=>ff) (fun _ _ _ _=>ff) (fun _ _ _ _ _=>ff) k (fun _ _ _ _ _=>ff) (fun _ _ _ _=>ff) (fun _ _ _ _=>ff) (fun _ _ _=>ff) (fun _ _ _=>ff) (fun _ _ _=>ff) (fun _ _ _=>ff) (fun _ _ _ _ _=>ff) (fun _ _ _ _ _=>ff) (fun _ _ _=>ff) (fun _ _=>ff) (fun _ _ _ _=>ff) (fun _ _=>ff) (fun _ _=>ff) (fun _ _=>ff) (fun _=>ff) (fun _=>ff) (fun _=>ff)
noncomputable def oWhile (e:Stmt) (K:Expr->List Stmt->List Stmt->Bool):Bool:=by
 cases e with
 | While a b c p=>exact K a b c
 | _=>exact false
theorem OK {R:Stmt->Prop} {K:Expr->List Stmt->List Stmt->Bool} {e:Stmt} (h:oWhile e K=true) (k:∀ a b c p,K a b c=true->R (.While a b c p)):R e:=by
 revert h
 refine Stmt.casesOn (motive_2:=fun e=>oWhile e K=true->R e) e (fun _ _ _ _ _ _ _ _ _ _=>ff) (fun _ _ _ _ _ _ _ _ _ _=>ff) (fun _ _ _ _ _ _ _ _ _ _ _=>ff) (fun _ _=>ff) (fun _ _=>ff) (fun _ _ _=>ff) (fun _ _ _ _ _ _ _=>ff) (fun _ _ _ _=>ff) (fun _ _ _ _ _=>ff) (fun _ _ _ _ _=>ff) (fun _ _ _ _ _=>ff) k (fun _ _ _ _=>ff) (fun _ _ _=>ff) (fun _ _ _=>ff) (fun _ _ _=>ff) (fun _ _ _=>ff) (fun _ _ _ _ _=>ff) (fun _ _ _ _ _=>ff) (fun _ _ _=>ff) (fun _ _=>ff) (fun _ _ _ _=>ff) (fun _ _=>ff) (fun _ _=>ff) (fun _ _=>ff) (fun _=>ff) (fun _=>ff) (fun _=>ff)
noncomputable def oIf (e:Stmt) (K:Expr->List Stmt->List Stmt->Bool):Bool:=by
 cases e with
 | If a b c p=>exact K a b c
 | _=>exact false
theorem Uz {R:Stmt->Prop} {K:Expr->List Stmt->List Stmt->Bool} {e:Stmt} (h:oIf e K=true) (k:∀ a b c p,K a b c=true->R (.If a b c p)):R e:=by
 revert h
 refine Stmt.casesOn (motive_2:=fun e=>oIf e K=true->R e) e (fun _ _ _ _ _ _ _ _ _ _=>ff) (fun _ _ _ _ _ _ _ _ _ _=>ff) (fun _ _ _ _ _ _ _ _ _ _ _=>ff) (fun _ _=>ff) (fun _ _=>ff) (fun _ _ _=>ff) (fun _ _ _ _ _ _ _=>ff) (fun _ _ _ _=>ff) (fun _ _ _ _ _=>ff) (fun _ _ _ _ _=>ff) (fun _ _ _ _ _=>ff) (fun _ _ _ _=>ff) k (fun _ _ _=>ff) (fun _ _ _=>ff) (fun _ _ _=>ff) (fun _ _ _=>ff) (fun _ _ _ _ _=>ff) (fun _ _ _ _ _=>ff) (fun _ _ _=>ff) (fun _ _=>ff) (fun _ _ _ _=>ff) (fun _ _=>ff) (fun _ _=>ff) (fun _ _=>ff) (fun _=>ff) (fun _=>ff) (fun _=>ff)
noncomputable def oTry (e:Stmt) (K:List Stmt->List ExceptHandler->List Stmt->List Stmt->Bool):Bool:=by
 cases e with
 | Try a b c d p=>exact K a b c d
 | _=>exact false
theorem Ti {R:Stmt->Prop} {K:List Stmt->List ExceptHandler->List Stmt->List Stmt->Bool} {e:Stmt} (h:oTry e K=true) (k:∀ a b c d p,K a b c d=true->R (.Try a b c d p)):R e:=by
 revert h
 refine Stmt.casesOn (motive_2:=fun e=>oTry e K=true->R e) e (fun _ _ _ _ _ _ _ _ _ _=>ff) (fun _ _ _ _ _ _ _ _ _ _=>ff) (fun _ _ _ _ _ _ _ _ _ _ _=>ff) (fun _ _=>ff) (fun _ _=>ff) (fun _ _ _=>ff) (fun _ _ _ _ _ _ _=>ff) (fun _ _ _ _=>ff) (fun _ _ _ _ _=>ff) (fun _ _ _ _ _=>ff) (fun _ _ _ _ _=>ff) (fun _ _ _ _=>ff) (fun _ _ _ _=>ff) (fun _ _ _=>ff) (fun _ _ _=>ff) (fun _ _ _=>ff) (fun _ _ _=>ff) k (fun _ _ _ _ _=>ff) (fun _ _ _=>ff) (fun _ _=>ff) (fun _ _ _ _=>ff) (fun _ _=>ff) (fun _ _=>ff) (fun _ _=>ff) (fun _=>ff) (fun _=>ff) (fun _=>ff)
noncomputable def oExpr (e:Stmt) (K:Expr->Bool):Bool:=by
 cases e with
 | Expr a p=>exact K a
 | _=>exact false
theorem MP {R:Stmt->Prop} {K:Expr->Bool} {e:Stmt} (h:oExpr e K=true) (k:∀ a p,K a=true->R (.Expr a p)):R e:=by
 revert h
 refine Stmt.casesOn (motive_2:=fun e=>oExpr e K=true->R e) e (fun _ _ _ _ _ _ _ _ _ _=>ff) (fun _ _ _ _ _ _ _ _ _ _=>ff) (fun _ _ _ _ _ _ _ _ _ _ _=>ff) (fun _ _=>ff) (fun _ _=>ff) (fun _ _ _=>ff) (fun _ _ _ _ _ _ _=>ff) (fun _ _ _ _=>ff) (fun _ _ _ _ _=>ff) (fun _ _ _ _ _=>ff) (fun _ _ _ _ _=>ff) (fun _ _ _ _=>ff) (fun _ _ _ _=>ff) (fun _ _ _=>ff) (fun _ _ _=>ff) (fun _ _ _=>ff) (fun _ _ _=>ff) (fun _ _ _ _ _=>ff) (fun _ _ _ _ _=>ff) (fun _ _ _=>ff) (fun _ _=>ff) (fun _ _ _ _=>ff) (fun _ _=>ff) (fun _ _=>ff) k (fun _=>ff) (fun _=>ff) (fun _=>ff)
noncomputable def oBrk (e:Stmt) (K:Bool):Bool:=by
 cases e with
 | Break p=>exact K
 | _=>exact false
theorem Qf {R:Stmt->Prop} {K:Bool} {e:Stmt} (h:oBrk e K=true) (k:∀ p,K=true->R (.Break p)):R e:=by
 revert h
 refine Stmt.casesOn (motive_2:=fun e=>oBrk e K=true->R e) e (fun _ _ _ _ _ _ _ _ _ _=>ff) (fun _ _ _ _ _ _ _ _ _ _=>ff) (fun _ _ _ _ _ _ _ _ _ _ _=>ff) (fun _ _=>ff) (fun _ _=>ff) (fun _ _ _=>ff) (fun _ _ _ _ _ _ _=>ff) (fun _ _ _ _=>ff) (fun _ _ _ _ _=>ff) (fun _ _ _ _ _=>ff) (fun _ _ _ _ _=>ff) (fun _ _ _ _=>ff) (fun _ _ _ _=>ff) (fun _ _ _=>ff) (fun _ _ _=>ff) (fun _ _ _=>ff) (fun _ _ _=>ff) (fun _ _ _ _ _=>ff) (fun _ _ _ _ _=>ff) (fun _ _ _=>ff) (fun _ _=>ff) (fun _ _ _ _=>ff) (fun _ _=>ff) (fun _ _=>ff) (fun _ _=>ff) (fun _=>ff) k (fun _=>ff)
noncomputable def oCont (e:Stmt) (K:Bool):Bool:=by
 cases e with
 | Continue p=>exact K
 | _=>exact false
theorem QZ {R:Stmt->Prop} {K:Bool} {e:Stmt} (h:oCont e K=true) (k:∀ p,K=true->R (.Continue p)):R e:=by
 revert h
 refine Stmt.casesOn (motive_2:=fun e=>oCont e K=true->R e) e (fun _ _ _ _ _ _ _ _ _ _=>ff) (fun _ _ _ _ _ _ _ _ _ _=>ff) (fun _ _ _ _ _ _ _ _ _ _ _=>ff) (fun _ _=>ff) (fun _ _=>ff) (fun _ _ _=>ff) (fun _ _ _ _ _ _ _=>ff) (fun _ _ _ _=>ff) (fun _ _ _ _ _=>ff) (fun _ _ _ _ _=>ff) (fun _ _ _ _ _=>ff) (fun _ _ _ _=>ff) (fun _ _ _ _=>ff) (fun _ _ _=>ff) (fun _ _ _=>ff) (fun _ _ _=>ff) (fun _ _ _=>ff) (fun _ _ _ _ _=>ff) (fun _ _ _ _ _=>ff) (fun _ _ _=>ff) (fun _ _=>ff) (fun _ _ _ _=>ff) (fun _ _=>ff) (fun _ _=>ff) (fun _ _=>ff) (fun _=>ff) (fun _=>ff) k
structure CD where
 ns:List (Str×Bool)
 sc:List (Str×NameKind)
noncomputable def CD.ix (D:CD) (x:Str):Option Nat:=D.ns.findIdx? fun p=>p.1==x
noncomputable def CD.is (D:CD) (i:Nat) (x:Str):Bool:=decide (D.ix x=some i)
noncomputable def CD.gl (D:CD) (x:Str):Bool:=decide (D.sc.lookup x=some NameKind.globalImplicit)
noncomputable def Fn.tag (f:Fn):Nat×Nat×Nat:=Fn.casesOn f (0,0,0) (1,0,0) (2,0,0) (3,0,0) (4,0,0) (5,0,0) (6,0,0) (7,0,0) (8,0,0) (9,0,0) (10,0,0) (11,0,0) (fun a=>(12,a,0)) (fun C f=>(13,C,f)) (fun C f=>(14,C,f)) fun C f=>(15,C,f)
noncomputable def Fn.un (t:Nat×Nat×Nat):Fn:=if t.1=12 then .usr t.2.1 else if t.1=13 then .mkI t.2.1 t.2.2 else if t.1=14 then .mkS t.2.1 t.2.2 else if t.1=15 then .mkA t.2.1 t.2.2 else ([.len,.range,.list,.tuple,.sum,.min,.sorted,.isinst,.iter,.set,.bool,.str][t.1]?).getD .len
theorem Fn.un_tag (f:Fn):Fn.un f.tag=f:=by cases f<;>rfl
noncomputable def fnIs (x:Str) (f:Fn):Bool:=fnTab.any fun p=>decide (p.1=x)&&decide (p.2.tag=f.tag)
theorem Pn {x:Str} {f:Fn} (h:fnIs x f=true):(x,f)∈fnTab:=by
 obtain ⟨p,hp,h⟩:=E6.mp h
 obtain ⟨h1,h2⟩:=bAn h
 have e2:p.2=f:=(Fn.un_tag p.2).symm.trans ((congrArg Fn.un (of_decide_eq_true h2)).trans (Fn.un_tag f))
 rwa [← of_decide_eq_true h1,← e2]
noncomputable def isStar (e:Expr):Bool:=oStar e fun _=>true
noncomputable def noStar:List Expr->Bool
 | []=>true
 | e::r=>!isStar e&&noStar r
noncomputable def plainBase (e:Expr):Bool:=!oCall e fun g es kw _=>oName g (fun _=>true)&&es.isEmpty&&kw.isEmpty
noncomputable def freeOf (sc:Scope):List Str:=sc.names.filterMap fun p=>if p.2==NameKind.free then some p.1 else Av
noncomputable def noSetE (e:Expr):Bool:=Expr.casesOn (motive_1:=fun _=>Bool) e (fun _ _ _=>true) (fun _ _ _=>true) (fun _ _ _ _=>true) (fun _ _ _=>true) (fun _ _ _ _=>true) (fun _ _ _ _=>true) (fun _ _ _=>true) (fun _ _ _=>false) (fun _ _ _ _=>true) (fun _ _ _ _=>true) (fun _ _ _ _ _=>true) (fun _ _ _ _=>true) (fun _ _=>true) (fun _ _=>true) (fun _ _=>true) (fun _ _ _ _=>true) (fun _ _ _ _=>true) (fun _ _ _ _=>true) (fun _ _=>true) (fun _ _ _=>true) (fun _ _ _=>true) (fun _ _ _=>true) (fun _ _=>true) (fun _ _=>true) (fun _ _=>true) (fun _ _ _=>true) (fun _ _ _ _=>true)
structure CK where
 e:CD->Expr->Bool
 l:CD->List Expr->Bool
 p:CD->Option Expr->Bool
 b:CD->BoolOp->List Expr->Bool
 t:Bool
 n:Bool
noncomputable def ckE (f:CD->Expr->Bool):CK:=⟨f,fun _ _=>false,fun _ _=>false,fun D _ es=>one es (f D),false,false⟩
noncomputable def ckL (f:CD->List Expr->Bool) (p:CD->Option Expr->Bool):CK:=⟨fun _ _=>false,f,p,fun _ _ _=>false,false,false⟩
noncomputable def ckF (o:BoolOp) (a b:CK) (D:CD) (op:BoolOp) (es:List Expr):Bool:=decide (op=o)&&oCons es fun x r=>a.e D x&&!r.isEmpty&&b.b D o r
noncomputable def ckB (o:BoolOp) (a b:CK):CK:=⟨fun D e=>oBool e (ckF o a b D),fun _ _=>false,fun _ _=>false,fun D op es=>ckF o a b D op es||one es fun e=>oBool e (ckF o a b D),false,false⟩
noncomputable def ckC (c:Const->Bool) (g:Str->Bool) (t n:Bool):CK:={ ckE (fun D e=>(oCst e fun x _=>c x)||oName e fun x=>D.gl x&&g x) with t:=t,n:=n }
noncomputable def oStr (c:Const) (K:Str->Bool):Bool:=Const.casesOn (motive:=fun _=>Bool) c false (fun _=>false) (fun _=>false) (fun _=>false) (fun _ _=>false) K (fun _=>false) false
noncomputable def nmOf (e:Expr):Str:=Expr.casesOn (motive_1:=fun _=>Str) e (fun _ _ _ => "") (fun _ _ _ => "") (fun _ _ _ _ => "") (fun _ _ _ => "") (fun _ _ _ _ => "") (fun _ _ _ _ => "") (fun _ _ _ => "") (fun _ _ _ => "") (fun _ _ _ _ => "") (fun _ _ _ _ => "") (fun _ _ _ _ _ => "") (fun _ _ _ _ => "") (fun _ _ => "") (fun _ _ => "") (fun _ _ => "") (fun _ _ _ _ => "") (fun _ _ _ _ => "") (fun _ _ _ _ => "") (fun _ _ => "") (fun _ _ _ => "") (fun _ _ _ => "") (fun _ _ _ => "") (fun _ _ => "") (fun x _=>x) (fun _ _ => "") (fun _ _ _ => "") (fun _ _ _ _ => "")
noncomputable def elts (e:Expr):List Expr:=Expr.casesOn (motive_1:=fun _=>List Expr) e (fun _ _ _=>[]) (fun _ _ _=>[]) (fun _ _ _ _=>[]) (fun _ _ _=>[]) (fun _ _ _ _=>[]) (fun _ _ _ _=>[]) (fun _ _ _=>[]) (fun _ _ _=>[]) (fun _ _ _ _=>[]) (fun _ _ _ _=>[]) (fun _ _ _ _ _=>[]) (fun _ _ _ _=>[]) (fun _ _=>[]) (fun _ _=>[]) (fun _ _=>[]) (fun _ _ _ _=>[]) (fun _ _ _ _=>[]) (fun _ _ _ _=>[]) (fun _ _=>[]) (fun _ _ _=>[]) (fun _ _ _=>[]) (fun _ _ _=>[]) (fun _ _=>[]) (fun _ _=>[]) (fun _ _=>[]) (fun es _ _=>es) (fun _ _ _ _=>[])
noncomputable def ownOf (tw:Bool) (t:Expr):List Str:=Bool.casesOn tw [nmOf t] ((elts t).map nmOf)
noncomputable def tgNames (tw:Bool) (t:Expr) (own:List Str):Bool:=Bool.casesOn tw (oName t fun z=>decide (own=[z])) (oTup t fun es _=>two es fun a b=>oName a fun x=>oName b fun y=>decide (own=[x,y]))
noncomputable def ckComp (tw:Bool) (js:List Nat) (elt it cond:CK) (D:CD) (el:Expr) (gens:List Comprehension) (sc:Scope):Bool:=one gens fun g =>
 let own:=ownOf tw g.target
 let D':CD:=⟨own.map (·,false)++(freeOf sc).map (·,true),sc.names⟩
 (tgNames tw g.target own&&compOk sc own (freeOf sc)&&decide (js.map (D.ns[·]?)=(freeOf sc).map fun x=>some (x,true))&&noSetE g.iter)&&(decide (g.is_async=0)&&elt.e D' el&&it.e D g.iter&&((g.ifs.isEmpty&&cond.t)||one g.ifs (cond.e D')))
noncomputable def chk (x:X):CK:=X.rec (motive:=fun _=>CK)
 (fail:=ckE fun _ _=>true)
 (var:=fun i=>ckE fun D e=>oName e (D.is i))
 (int:=fun i=>ckC (fun c=>decide (c=.int i)) (fun x=>(decide (x = "_NODE_OUT")&&decide (i=-1))||(decide (x = "_NODE_DONE")&&decide (i=-2))) false false)
 (str:=fun l=>ckC (fun c=>oStr c fun x=>decide (x.cps.toList=l)) (fun x=>decide (x = "EMPTYSTRING")&&decide (l=[])) false false)
 (none:=ckC (fun c=>decide (c=.none)) (fun _=>false) false true)
 (bool:=fun b=>ckC (fun c=>decide (c=.bool b)) (fun _=>false) b false)
 (ty:=fun s=>ckC (fun _=>false) (fun x=>decide (x = "tuple")&&decide (s = "tuple")) false false)
 (bin:=fun o _ _ a b=>ckE fun D e=>oBin e fun l o' r=>decide (o'=o)&&a.e D l&&b.e D r)
 (cmp:=fun o _ _ a b=>ckE fun D e=>oCmp e fun l os rs=>decide (os=[o])&&a.e D l&&one rs fun r=>!behindInMarks o r&&b.e D r)
 (chain:=fun o p _ _ _ a b c=>ckE fun D e=>oCmp e fun l os rs=>decide (os=[o,p])&&a.e D l&&two rs fun r s=>!lastMarks [o,p] [r,s]&&b.e D r&&c.e D s)
 (not:=fun _ a=>ckE fun D e=>oUna e fun u x=>decide (u=.Not)&&a.e D x)
 (neg:=fun _ a=>ckE fun D e=>oUna e fun u x=>decide (u=.USub)&&a.e D x)
 (and:=fun _ _ a b=>ckB .And a b)
 (or:=fun _ _ a b=>ckB .Or a b)
 (ite:=fun _ _ _ t a b=>ckE fun D e=>oIte e fun x y z=>t.e D x&&a.e D y&&b.e D z)
 (named:=fun i _ a=>ckE fun D e=>oNamed e fun t v=>oName t (D.is i)&&a.e D v)
 (sub:=fun _ _ a b=>ckE fun D e=>oSub e fun x y=>a.e D x&&b.e D y)
 (slice:=fun _ _ _ a b c=>ckE fun D e=>oSlice e fun x y z=>a.p D x&&b.p D y&&c.p D z)
 (attr:=fun n _ a=>ckE fun D e=>oAttr e fun o m _=>decide (m=n.nm)&&plainBase o&&a.e D o)
 (call:=fun f _ as=>ckE fun D e=>oCall e fun g es kw _=>kw.isEmpty&&(oName g fun x=>D.gl x&&fnIs x f)&&noStar es&&as.l D es)
 (meth:=fun m _ _ o as=>ckE fun D e=>oCall e fun g es kw p=>kw.isEmpty&&noStar es&&decide (es.length<30)&&oAttr g fun b x ap=>(decide (x=m.nm)&&plainBase b&&(ap.endLine==p.line))&&(o.e D b&&as.l D es))
 (methS:=fun u _ _ o as=>ckE fun D e=>oCall e fun g es kw p=>kw.isEmpty&&(one es isStar||two es fun x y=>!isStar x&&isStar y)&&oAttr g fun b x ap=>(decide (x=u.nm)&&plainBase b)&&(o.e D b&&as.l D es))
 (list:=fun _ as=>ckE fun D e=>oList e (as.l D))
 (tup:=fun _ as=>ckE fun D e=>oTup e fun es _=>as.l D es)
 (dict:=ckE fun D e=>oDict e fun ks vs=>ks.isEmpty&&vs.isEmpty)
 (comp:=fun tw js _ _ _ elt it cond=>ckE fun D e=>oComp e (ckComp tw js elt it cond D))
 (next:=fun _ a=>ckE fun D e=>oAttr e fun o m _=>decide (m = "__next__")&&plainBase o&&a.e D o)
 (rev:=fun _ a=>ckE fun D e=>oCall e fun g es kw _=>kw.isEmpty&&(oName g fun x=>D.gl x&&decide (x = "reversed"))&&one es fun y=>!isStar y&&a.e D y)
 (vals:=fun _ a=>ckE fun D e=>oCall e fun g es kw p=>kw.isEmpty&&es.isEmpty&&oAttr g fun o m ap=>decide (m = "values")&&plainBase o&&(ap.endLine==p.line)&&a.e D o)
 (nil:=ckL (fun _ es=>es.isEmpty) fun _ o=>o.isNone)
 (cons:=fun _ _ a as=>ckL (fun D es=>oCons es fun x r=>!isStar x&&a.e D x&&as.l D r) fun D o=>as.l D []&&oSome o (a.e D))
 (star:=fun _ _ a as=>ckL (fun D es=>oCons es fun x r=>oStar x fun y=>a.e D y&&as.l D r) fun _ _=>false) x
noncomputable def chkT (t:Tg) (D:CD) (e:Expr):Bool:=Tg.casesOn (motive:=fun _=>Bool) t false (fun i=>oName e (D.is i)) (fun i j=>oTup e fun es _=>two es fun a b=>oName a (D.is i)&&oName b (D.is j))
 (fun n o=>oAttr e fun b m _=>decide (m=n.nm)&&(chk o).e D b) fun o k=>oSub e fun b i=>(chk o).e D b&&(chk k).e D i
noncomputable def isTup (e:Expr):Bool:=oTup e fun _ _=>true
noncomputable def noSliceT (e:Expr):Bool:=!oSub e fun _ i=>oSlice i fun _ _ _=>true
noncomputable def oPop (e:Expr) (K:Str->Bool):Bool:=oCall e fun g es kw p=>es.isEmpty&&kw.isEmpty&&oAttr g fun o m ap=>decide (m = "pop")&&(ap.endLine==p.line)&&oName o K
noncomputable def oLast (e:Expr) (K:Str->Bool):Bool:=oCall e fun g es kw _=>es.isEmpty&&kw.isEmpty&&oSub g fun o i=>oName o K&&oUna i fun u n=>decide (u=.USub)&&oCst n fun c _=>decide (c=.int 1)
noncomputable def oHnd (h:ExceptHandler) (K:Option Expr->Option Str->List Stmt->Bool):Bool:=ExceptHandler.casesOn (motive_4:=fun _=>Bool) h fun t n b _=>K t n b
noncomputable def ckHnd (j s d:Nat) (D:CD) (h:List ExceptHandler):Bool:=one h fun h=>oHnd h fun t n b=>n.isNone&&(oSome t fun t=>oName t fun x=>decide (x = "StopIteration")&&D.gl x)&&two b fun u v=>(oDel u fun ts=>one ts fun t=>oSub t fun a k=>oName a (D.is d)&&oPop k (D.is s))&&oExpr v fun e=>oPop e (D.is j)
noncomputable def ckTry (i j s d:Nat) (D:CD) (b:List Stmt) (h:List ExceptHandler):Bool:=(two b fun u v=>oBrk v true&&oAsg u fun ts e=>(one ts fun t=>oName t (D.is i))&&oLast e (D.is j))&&ckHnd j s d D h
structure CS where
 s:CD->Stmt->Bool
 l:CD->List Stmt->Bool
noncomputable def ckS (f:CD->Stmt->Bool):CS:=⟨f,fun _ _=>false⟩
noncomputable def chkS (y:Y):CS:=Y.rec (motive:=fun _=>CS)
 (fail:=ckS fun _ _=>true)
 (skip:=⟨fun _ _=>false,fun _ ss=>ss.isEmpty⟩)
 (seq:=fun _ _ a b=>⟨fun _ _=>false,fun D ss=>oCons ss fun s r=>a.s D s&&b.l D r⟩)
 (asg:=fun t e=>ckS fun D s=>oAsg s fun ts v=>(one ts fun a=>chkT t D a&&(!isTup a||!isTup v))&&(chk e).e D v)
 (asg2:=fun t u e=>ckS fun D s=>oAsg s fun ts v=>(two ts fun a b=>(chkT t D a&&!isTup a)&&(chkT u D b&&!isTup b))&&(chk e).e D v)
 (aug:=fun t o e=>ckS fun D s=>oAug s fun a o' v=>decide (o'=o)&&noSliceT a&&chkT t D a&&(chk e).e D v)
 (expr:=fun e=>ckS fun D s=>oExpr s fun v=>!oComp v (fun _ _ _=>true)&&(chk e).e D v)
 (ret:=fun e=>ckS fun D s=>oRet s fun o=>(o.isNone&&(chk e).n)||oSome o ((chk e).e D))
 (ite:=fun t _ _ a b=>ckS fun D s=>oIf s fun e x y=>(chk t).e D e&&a.l D x&&b.l D y)
 (whil:=fun t _ _ a b=>ckS fun D s=>oWhile s fun e x y=>(chk t).e D e&&a.l D x&&b.l D y)
 (forr:=fun t i _ _ a b=>ckS fun D s=>oFor s fun g e x y=>(noSetE e&&chkT t D g)&&((chk i).e D e&&a.l D x&&b.l D y))
 (brk:=ckS fun _ s=>oBrk s true)
 (cont:=ckS fun _ s=>oCont s true)
 (tryN:=fun i j s d=>ckS fun D st=>oTry st fun b h oe fb=>oe.isEmpty&&fb.isEmpty&&ckTry i j s d D b h) y
end
section
open Builtin Builtin.Str
noncomputable abbrev cp (x:Str):List Nat:=x.cps.toList
noncomputable abbrev big:Nat:=1048576
noncomputable def nth:List (Option AV)->Nat->Option AV
 | [],_=>none
 | x::_,0=>x
 | _::l,n+1=>nth l n
theorem Kk:∀ (l:List (Option AV)) (i:Nat),nth l i=lg l i
 | [],_=>rfl
 | _::_,0=>rfl
 | _::l,n+1=>(Kk l n).trans (by unfold lg; simp)
noncomputable def avC (I:Int->Prop) (S:Str->Prop) (T L:List AV->Prop) (R:Lb->Prop) (v:AV):Prop:=@AV.casesOn (fun _=>Prop) v (fun _=>False) I S T L (fun _ _ _=>False) (fun _ _ _=>False) (fun _=>False) (fun _ _=>False) R
theorem I3 {M:AV->Prop} {I:Int->Prop} {S:Str->Prop} {T L:List AV->Prop} {R:Lb->Prop} {v:AV} (h:avC I S T L R v) (hi:∀ i,I i->M (.int i)) (hs:∀ x,S x->M (.str x)) (ht:∀ x,T x->M (.tup x)) (hl:∀ x,L x->M (.lst x)) (hr:∀ l,R l->M (.ref l)):M v :=
 @AV.casesOn (fun v=>avC I S T L R v->M v) v (fun _ h=>h.elim) hi hs ht hl (fun _ _ _ h=>h.elim) (fun _ _ _ h=>h.elim) (fun _ h=>h.elim) (fun _ _ h=>h.elim) hr h
theorem no {α:Type} {P:α->Prop}:∀ x:α,False->P x:=fun _ h=>h.elim
noncomputable def onI (K:Int->Prop) (v:AV):Prop:=avC K (fun _=>False) (fun _=>False) (fun _=>False) (fun _=>False) v
noncomputable def onS (K:Str->Prop) (v:AV):Prop:=avC (fun _=>False) K (fun _=>False) (fun _=>False) (fun _=>False) v
noncomputable def onT (K:List AV->Prop) (v:AV):Prop:=avC (fun _=>False) (fun _=>False) K (fun _=>False) (fun _=>False) v
noncomputable def onR (K:Lb->Prop) (v:AV):Prop:=avC (fun _=>False) (fun _=>False) (fun _=>False) (fun _=>False) K v
theorem Ib {K:Int->Prop} {v:AV} (h:onI K v):∃ i,v=.int i∧K i:=I3 (M:=fun v=>∃ i,v=.int i∧K i) h (fun i h=>⟨i,rfl,h⟩) no no no no
theorem ID {K:Str->Prop} {v:AV} (h:onS K v):∃ i,v=.str i∧K i:=I3 (M:=fun v=>∃ i,v=.str i∧K i) h no (fun i h=>⟨i,rfl,h⟩) no no no
theorem Tf {K:List AV->Prop} {v:AV} (h:onT K v):∃ i,v=.tup i∧K i:=I3 (M:=fun v=>∃ i,v=.tup i∧K i) h no no (fun i h=>⟨i,rfl,h⟩) no no
theorem IY {K:Lb->Prop} {v:AV} (h:onR K v):∃ i,v=.ref i∧K i:=I3 (M:=fun v=>∃ i,v=.ref i∧K i) h no no no no (fun i h=>⟨i,rfl,h⟩)
noncomputable def kC (I:Int->Prop) (L:Option Int->Option Int->Option Int->Prop) (v:AV):Prop:=@AV.casesOn (fun _=>Prop) v (fun _=>False) I (fun _=>False) (fun _=>False) (fun _=>False) (fun _ _ _=>False) L (fun _=>False) (fun _ _=>False) (fun _=>False)
theorem Ub {M:AV->Prop} {I:Int->Prop} {L:Option Int->Option Int->Option Int->Prop} {v:AV} (h:kC I L v) (hi:∀ i,I i->M (.int i)) (hl:∀ a b c,L a b c->M (.slc a b c)):M v :=
 @AV.casesOn (fun v=>kC I L v->M v) v (fun _ h=>h.elim) hi (fun _ h=>h.elim) (fun _ h=>h.elim) (fun _ h=>h.elim) (fun _ _ _ h=>h.elim) hl (fun _ h=>h.elim) (fun _ _ h=>h.elim) (fun _ h=>h.elim) h
noncomputable def rgC (N:Prop) (T:Bool->Prop) (Y:String->Prop) (w:Value):Prop:=@Value.casesOn (fun _=>Prop) w N False False T (fun _ _=>False) (fun _ _=>False) (fun _ _=>False) (fun _ _=>False) Y (fun _=>False) (fun _=>False)
theorem QO {M:Value->Prop} {N:Prop} {T:Bool->Prop} {Y:String->Prop} {w:Value} (h:rgC N T Y w) (hn:N->M .none) (ht:∀ t,T t->M (.bool t)) (hy:∀ t,Y t->M (.type t)):M w :=
 @Value.casesOn (fun w=>rgC N T Y w->M w) w hn (fun h=>h.elim) (fun h=>h.elim) ht (fun _ _ h=>h.elim) (fun _ _ h=>h.elim) (fun _ _ h=>h.elim) (fun _ _ h=>h.elim) hy (fun _ h=>h.elim) (fun _ h=>h.elim) h
noncomputable def avN (P N:Prop) (v:AV):Prop:=@AV.casesOn (fun _=>Prop) v (rgC P (fun _=>False) (fun _=>False)) (fun _=>N) (fun _=>N) (fun _=>N) (fun _=>N) (fun _ _ _=>N) (fun _ _ _=>N) (fun _=>N) (fun _ _=>N) (fun _=>N)
noncomputable def isRg (v:AV):Bool:=@AV.casesOn (fun _=>Bool) v (fun _=>true) (fun _=>false) (fun _=>false) (fun _=>false) (fun _=>false) (fun _ _ _=>false) (fun _ _ _=>false) (fun _=>false) (fun _ _=>false) (fun _=>false)
theorem TQ {P N:Prop} {v:AV} (h:avN P N v):(v=.none∧P)∨(isRg v=false∧N) :=
 @AV.casesOn (fun v=>avN P N v->(v=.none∧P)∨(isRg v=false∧N)) v (fun w h=>QO (M:=fun w=>(AV.rig w=.none∧P)∨(isRg (.rig w)=false∧N)) h (fun h=>.inl ⟨rfl,h⟩) no no) (fun _ h=>.inr ⟨rfl,h⟩) (fun _ h=>.inr ⟨rfl,h⟩) (fun _ h=>.inr ⟨rfl,h⟩) (fun _ h=>.inr ⟨rfl,h⟩) (fun _ _ _ h=>.inr ⟨rfl,h⟩) (fun _ _ _ h=>.inr ⟨rfl,h⟩) (fun _ h=>.inr ⟨rfl,h⟩) (fun _ _ h=>.inr ⟨rfl,h⟩) (fun _ h=>.inr ⟨rfl,h⟩) h
noncomputable def tyP (Y:String->Prop) (v:AV):Prop:=@AV.casesOn (fun _=>Prop) v (rgC False (fun _=>False) Y) (fun _=>False) (fun _=>False) (fun _=>False) (fun _=>False) (fun _ _ _=>False) (fun _ _ _=>False) (fun _=>False) (fun _ _=>False) (fun _=>False)
theorem Uj {Y:String->Prop} {v:AV} (h:tyP Y v):∃ t,v=.rig (.type t)∧Y t :=
 @AV.casesOn (fun v=>tyP Y v->∃ t,v=.rig (.type t)∧Y t) v (fun w h=>QO (M:=fun w=>∃ t,AV.rig w=.rig (.type t)∧Y t) h False.elim no (fun t h=>⟨t,rfl,h⟩)) no no no no (fun _ _ _ h=>h.elim) (fun _ _ _ h=>h.elim) no (fun _ _ h=>h.elim) no h
noncomputable def l1 (K:AV->Prop) (vs:List AV):Prop:=@List.casesOn AV (fun _=>Prop) vs False fun a r=>@List.casesOn AV (fun _=>Prop) r (K a) fun _ _=>False
noncomputable def l12 (K:AV->Prop) (K2:AV->AV->Prop) (vs:List AV):Prop:=@List.casesOn AV (fun _=>Prop) vs False fun a r=>@List.casesOn AV (fun _=>Prop) r (K a) fun b r=>@List.casesOn AV (fun _=>Prop) r (K2 a b) fun _ _=>False
noncomputable def l2 (K2:AV->AV->Prop) (vs:List AV):Prop:=l12 (fun _=>False) K2 vs
theorem Np {K:AV->Prop} {vs:List AV} (h:l1 K vs):∃ v,vs=[v]∧K v:=by
 cases vs with
 | nil=>exact h.elim
 | cons a r=>cases r with
  | nil=>exact ⟨a,rfl,h⟩
  | cons _ _=>exact h.elim
theorem Rw {K:AV->Prop} {K2:AV->AV->Prop} {vs:List AV} (h:l12 K K2 vs):(∃ v,vs=[v]∧K v)∨Ex2 fun a b=>vs=[a,b]∧K2 a b:=by
 cases vs with
 | nil=>exact h.elim
 | cons a r=>cases r with
  | nil=>exact .inl ⟨a,rfl,h⟩
  | cons b r=>cases r with
   | nil=>exact .inr ⟨a,b,rfl,h⟩
   | cons _ _=>exact h.elim
theorem Rv {K2:AV->AV->Prop} {vs:List AV} (h:l2 K2 vs):Ex2 fun a b=>vs=[a,b]∧K2 a b:=(Rw h).resolve_left fun ⟨_,_,h⟩=>h
noncomputable def asInt (v:AV) (K:Int->Prop):Prop:=onI K v
noncomputable def pairP (v:AV) (K:AV->AV->Prop):Prop:=onT (l2 K) v
noncomputable def int2 (a b:AV) (K:Int->Int->Prop):Prop:=onI (fun x=>onI (K x) b) a
noncomputable def addE (v b:AV) (σ:St) (Q:PA):Prop:=Ex2 fun xs ys=>An4 (isL σ v xs) (isL σ b ys) (xs.length+ys.length≤big) (NewL (xs++ys) σ Q)
noncomputable def addI (b:AV) (σ:St) (Q:PA) (x:Int):Prop:=onI (fun y=>Q (.int (x+y)) σ) b
noncomputable def addT (b:AV) (σ:St) (Q:PA) (x:Str):Prop:=onS (fun y=>(cp x).length+(cp y).length≤big∧Q (.str (S (cp x++cp y))) σ) b
noncomputable def addP (a b:AV) (σ:St) (Q:PA):Prop:=avC (addI b σ Q) (addT b σ Q) (fun _=>False) (fun xs=>addE (.lst xs) b σ Q) (fun l=>addE (.ref l) b σ Q) a
noncomputable def mulE (v:AV) (y:Int) (σ:St) (Q:PA):Prop:=∃ xs,An5 (isL σ v xs) (0≤y) (xs.length*y.toNat≤big) (y≤big) (NewL (Az y.toNat xs).flatten σ Q)
noncomputable def mulP (a b:AV) (σ:St) (Q:PA):Prop:=onI (fun y=>avC (fun x=>IntMulOk x y∧Q (.int (x*y)) σ)
 (fun x=>Ex2 fun (ch m:Nat)=>An5 (x=S [ch]) (y=(m:Int)) (1≤m) (m≤big) (Q (.str (S (Az m ch))) σ)) (fun _=>False) (fun xs=>mulE (.lst xs) y σ Q) (fun l=>mulE (.ref l) y σ Q) a) b
noncomputable def binP (o:Operator) (a b:AV) (σ:St) (Q:PA):Prop:=match o with
 | .Add=>addP a b σ Q
 | .Mult=>mulP a b σ Q
 | .Sub=>int2 a b fun x y=>Q (.int (x - y)) σ
 | .Mod=>int2 a b fun x y=>y≠0∧Q (.int (x.fmod y)) σ
 | .FloorDiv=>int2 a b fun x y=>(y≠0∧y.natAbs<1073741824)∧Q (.int (x.fdiv y)) σ
 | .RShift=>int2 a b fun x y=>0≤y∧Q (.int (x.fdiv (2 ^ y.toNat))) σ
 | _=>False
noncomputable def inpP (o:Operator) (a b:AV) (σ:St) (Q:PA):Prop:=match o with
 | .Add=>avC (addI b σ Q) (addT b σ Q) (fun _=>False) (fun _=>False) (fun _=>False) a
 | .Sub=>int2 a b fun x y=>Q (.int (x - y)) σ
 | .FloorDiv=>int2 a b fun x y=>(y≠0∧y.natAbs<1073741824)∧Q (.int (x.fdiv y)) σ
 | _=>False
noncomputable def eqE (v b:AV) (σ:St) (Q:PB):Prop:=(Ex2 fun (xs ys:List Int)=>An3 (isL σ v (nts xs)) (isL σ b (nts ys)) (Q (decide (xs=ys)) σ)) ∨
  (Ex2 fun xs ys:List (List Nat)=>An5 (isL σ v (sts xs)) (isL σ b (sts ys)) ((∀ x∈xs,plainT x)) ((∀ x∈ys,plainT x)) (Q (decide (xs=ys)) σ))
noncomputable def eqP (a b:AV) (σ:St) (Q:PB):Prop:=avC (fun x=>onI (fun y=>Q (x==y) σ) b) (fun x=>onS (fun y=>Q (cp x==cp y) σ) b) (fun _=>False) (fun xs=>eqE (.lst xs) b σ Q) (fun l=>eqE (.ref l) b σ Q) a
noncomputable def neqP (a b:AV) (σ:St) (Q:PB):Prop:=avC (fun x=>eqP (.int x) b σ fun t=>Q !t) (fun x=>eqP (.str x) b σ fun t=>Q !t)
 (fun xs=>Ex2 fun us ws:List (List Nat)=>An5 (AV.tup xs=.tup (sts us)) (b=.tup (sts ws)) ((∀ x∈us,plainT x)) ((∀ x∈ws,plainT x)) (Q (!decide (us=ws)) σ)) (fun xs=>eqP (.lst xs) b σ fun t=>Q !t) (fun l=>eqP (.ref l) b σ fun t=>Q !t) a
noncomputable def isP (a b:AV) (K:Bool->Prop):Prop:=avN (avN (K true) (K false) a) False b
noncomputable def inP (a b:AV) (σ:St) (Q:PB):Prop:=avC
 (fun k=>avC (fun _=>False) (fun _=>False) (fun _=>False) (fun ys=>∃ xs:List Int,isL σ (.lst ys) (nts xs)∧Q (xs.any (· ==k)) σ)
  (fun l=>(∃ xs:List Int,σ.H l=some (.list (nts xs))∧Q (xs.any (· ==k)) σ)∨(Ex2 fun T n=>An3 (σ.H l=some (.iset T n)) (n<scanBound) (Q (T k) σ))∨(Ex2 fun es ep=>σ.H l=some (.dict es ep)∧Q (aget es k).isSome σ)) b)
 (fun x=>onS (fun y=>Q (!(occurrences (S (cp y)) (S (cp x)) 0 (cp y).length 1).isEmpty) σ) b) (fun _=>False) (fun _=>False) (fun _=>False) a
noncomputable def cmpP (o:CmpOp) (a b:AV) (σ:St) (Q:PB):Prop:=match o with
 | .Lt=>int2 a b fun x y=>Q (decide (x<y)) σ
 | .LtE=>int2 a b fun x y=>Q (decide (x≤y)) σ
 | .Gt=>int2 a b fun x y=>Q (decide (x>y)) σ
 | .GtE=>int2 a b fun x y=>Q (decide (x≥y)) σ
 | .Eq=>eqP a b σ Q
 | .NotEq=>neqP a b σ Q
 | .Is=>isP a b fun t=>Q t σ
 | .IsNot=>isP a b fun t=>Q (!t) σ
 | .In=>inP a b σ Q
 | .NotIn=>False
noncomputable def itemL (xs:List AV) (k:Int) (x:AV):Prop:=xs.length≤big∧((0≤k∧xs[k.toNat]?=some x)∨(k<0∧-(xs.length:Int)≤k∧xs[(k+xs.length).toNat]?=some x))
noncomputable abbrev CA:Addr:=298
noncomputable def getP (v k:AV) (σ:St) (Q:PA):Prop:=avC (fun _=>False)
 (fun x=>(cp x).length≤big∧kC (fun i=>(0≤i∧∃ ch,(cp x)[i.toNat]?=some ch∧Q (.str (S [ch])) σ)∨(i=-1∧∃ ch,(cp x).getLast?=some ch∧Q (.str (S [ch])) σ))
  (fun a b c=>∃ m:Nat,An4 (a=none) (b=some (m:Int)) (c=none) (Q (.str (S ((cp x).take m))) σ)) k)
 (fun xs=>onI (fun i=>0≤i∧i<big∧∃ x,xs[i.toNat]?=some x∧Q x σ) k)
 (fun xs=>kC (fun i=>∃ x,itemL xs i x∧Q x σ) (fun a b c=>c≠some 0∧xs.length≤big∧NewL (pickL xs a b c) σ Q) k)
 (fun l=>kC (fun i=>(Ex2 fun xs x=>An3 (σ.H l=some (.list xs)) (itemL xs i x) (Q x σ))∨(Ex3 fun es ep x=>An3 (σ.H l=some (.dict es ep)) (aget es i=some x) (Q x σ))∨(Ex3 fun xs d x=>An5 (σ.H l=some (.acc CA xs d)) (0≤i) (xs.length≤big) (xs[i.toNat]?=some x) (Q x σ)))
  (fun a b c=>c≠some 0∧((∃ xs,An3 (σ.H l=some (.list xs)) (xs.length≤big) (NewL (pickL xs a b c) σ Q))∨(Ex2 fun xs d=>An3 (σ.H l=some (.acc CA xs d)) (xs.length≤big) (NewL (pickL xs a b c) σ Q)))) k) v
noncomputable def putP (o k v:AV) (σ:St) (Q:St->Prop):Prop:=onR (fun l=>kC
 (fun i=>(∃ xs,An5 (σ.H l=some (.list xs)) (0≤i) (i<xs.length) (xs.length≤big) (Q ⟨σ.loc,up σ.H l (.list (xs.set i.toNat v))⟩))∨(Ex2 fun es ep=>An3 (σ.H l=some (.dict es ep)) (es.length≤big) (∀ ep',Q ⟨σ.loc,up σ.H l (.dict (aput es i v) ep')⟩)))
 (fun lo hi st=>Ex5 fun (xs ys:List AV) (d:Lb) (a b:Nat)=>An8 (st=none) (σ.H l=some (.acc CA xs d)) (isL σ v ys) (xs.length+ys.length≤big) (a≤b) (b≤xs.length) (sliceBounds lo hi none xs.length=((a:Int),(b:Int),1)) (Q ⟨σ.loc,up σ.H l (.acc CA (xs.take a++ys++xs.drop b) d)⟩)) k) o
noncomputable def atP (n:At) (o:AV) (σ:St) (Q:PA):Prop:=onR (fun l=>match n.kd with
  | .inst C=>Ex3 fun d es x=>An5 (σ.H l=some (.inst C d)) (σ.H d=some (.attrs es)) (es[n.ix]?=some (n.nm,x)) (x.hd=true) (Q x σ)
  | .acc=>Ex4 fun xs d es x=>An5 (σ.H l=some (.acc CA xs d)) (σ.H d=some (.attrs es)) (es[n.ix]?=some (n.nm,x)) (x.hd=true) (Q x σ)
  | .slot _=>Ex2 fun xs x=>An4 (σ.H l=some (.slots 40 xs)) (xs[n.ix]?=some (some x)) (x.hd=true) (Q x σ)) o
noncomputable def setE (n:At) (d:Lb) (es:List (Str×AV)) (v:AV) (σ:St) (Q:St->Prop):Prop:=(∃ x,es[n.ix]?=some (n.nm,x)∧Q ⟨σ.loc,up σ.H d (.attrs (es.set n.ix (n.nm,v)))⟩)∨(n.nm∉es.map (·.1)∧Q ⟨σ.loc,up σ.H d (.attrs (es++[(n.nm,v)]))⟩)
noncomputable def setP (n:At) (o v:AV) (σ:St) (Q:St->Prop):Prop:=onR (fun l=>match n.kd with
  | .inst C=>Ex2 fun d es=>An4 (σ.H l=some (.inst C d)) (σ.H d=some (.attrs es)) (es.length≤100) (setE n d es v σ Q)
  | .acc=>Ex3 fun xs d es=>An4 (σ.H l=some (.acc CA xs d)) (σ.H d=some (.attrs es)) (es.length≤100) (setE n d es v σ Q)
  | .slot _=>∃ xs,σ.H l=some (.slots 40 xs)∧Q ⟨σ.loc,up σ.H l (.slots 40 ((xs++Az (n.ix+1 - xs.length) none).set n.ix (some v)))⟩) o
noncomputable abbrev accLenF:Addr:=265
noncomputable abbrev accStrF:Addr:=272
noncomputable def lenB (B:Bx) (k:Nat) (l:Lb) (σ:St) (Q:Int->St->Prop):Prop:=Ex3 fun xs d k'=>An3 (σ.H l=some (.acc CA xs d)) (k'+2≤k) (WC (gg B) k' (.ref accLenF) [.ref l] σ.H fun v H'=>∃ n:Int,An4 (v=.int n) (0≤n) (n<2 ^ 60) (Q n ⟨σ.loc,H'⟩))
noncomputable def truP (B:Bx) (k:Nat) (v:AV) (σ:St) (Q:PB):Prop:=@AV.casesOn (fun _=>Prop) v (rgC (Q false σ) (fun t=>Q t σ) fun _=>False) (fun _=>False) (fun x=>(cp x).length≤big∧Q (!(cp x).isEmpty) σ) (fun _=>False) (fun xs=>xs.length≤big∧Q (!xs.isEmpty) σ)
 (fun _ _ _=>False) (fun _ _ _=>False) (fun _=>False) (fun _ _=>False) (fun l=>(∃ xs,An3 (σ.H l=some (.list xs)) (xs.length≤big) (Q (!xs.isEmpty) σ))∨lenB B k l σ fun n=>Q (n !=0))
noncomputable def callU (B:Bx) (k:Nat) (f:Addr) (vs:List AV) (σ:St) (Q:PA):Prop:=∃ k',k'≤k∧WC (gg B) k' (.ref f) vs σ.H fun v H'=>Q v ⟨σ.loc,H'⟩
noncomputable def rngP (σ:St) (Q:PA) (vs:List AV):Prop:=@List.casesOn AV (fun _=>Prop) vs False fun a r=>onI (fun x=>@List.casesOn AV (fun _=>Prop) r (Q (.rng 0 x 1) σ) fun b r=>onI (fun y=>@List.casesOn AV (fun _=>Prop) r (Q (.rng x y 1) σ) fun d r =>
 @List.casesOn AV (fun _=>Prop) r (onI (fun z=>z≠0∧z.natAbs<1073741824∧Q (.rng x y z) σ) d) fun _ _=>False) b) a
noncomputable def callP (B:Bx) (k:Nat) (f:Fn) (vs:List AV) (σ:St) (Q:PA):Prop:=match f with
 | .len=>l1 (fun v=>avC (fun _=>False) (fun x=>(cp x).length≤big∧Q (.int (cp x).length) σ) (fun xs=>xs.length≤big∧Q (.int xs.length) σ) (fun xs=>xs.length≤big∧Q (.int xs.length) σ)
   (fun l=>(∃ xs,An3 (σ.H l=some (.list xs)) (xs.length≤big) (Q (.int xs.length) σ))∨lenB B k l σ fun n=>Q (.int n)) v) vs
 | .range=>rngP σ Q vs
 | .list=>l1 (fun v=>∃ xs,An3 (isSeq σ v xs) (xs.length≤big) (NewL xs σ Q)) vs
 | .tuple=>l1 (fun v=>∃ xs,An3 (isL σ v xs) (xs.length≤big) (Q (.tup xs) σ)) vs
 | .sum=>l1 (fun v=>∃ xs:List Int,isL σ v (nts xs)∧Q (.int xs.sum) σ) vs
 | .min=>l12 (fun v=>∃ xs:List Int,An3 (isL σ v (nts xs)) (xs≠[]) (∀ m,m∈xs->(∀ x∈xs,m≤x)->Q (.int m) σ)) (fun a b=>int2 a b fun a b=>Q (.int (if b<a then b else a)) σ) vs
 | .sorted=>l1 (fun v=>∃ xs:List Int,An3 (isSeq σ v (nts xs)) (xs.length<64) (∀ ys:List Int,ys.Perm xs->ys.Pairwise (· ≤ ·)->NewL (nts ys) σ Q)) vs
 | .isinst=>l2 (fun a b=>onT (fun _=>tyP (fun t=>t = "tuple" ∧ Q (.bool true) σ) b) a) vs
 | .iter=>l1 (onR fun l=>Ex2 fun xs li=>An3 (σ.H l=some (.list xs)) (σ.H li=none) (Q (.ref li) ⟨σ.loc,up σ.H li (.iter l 0)⟩)) vs
 | .set=>@List.casesOn AV (fun _=>Prop) vs (∃ l,σ.H l=none∧Q (.ref l) ⟨σ.loc,up σ.H l (.iset (fun _=>false) 0)⟩) fun _ _=>False
 | .bool=>l1 (fun v=>∃ xs,An3 (isL σ v xs) (xs.length≤big) (Q (.bool (!xs.isEmpty)) σ)) vs
 | .str=>l1 (onR fun l=>Ex3 fun xs d k'=>An3 (σ.H l=some (.acc CA xs d)) (k'+2≤k) (WC (gg B) k' (.ref accStrF) [.ref l] σ.H fun v H'=>∃ x:Str,v=.str x∧Q (.str x) ⟨σ.loc,H'⟩)) vs
 | .usr a=>callU B k a vs σ Q
 | .mkI C fI=>Ex3 fun l d k'=>An5 (σ.H l=none) (σ.H d=none) (l≠d) (k'+1≤k) (WC (gg B) k' (.ref fI) (.ref l::vs) (up (up σ.H d (.attrs [])) l (.inst C d)) fun v H'=>v=.none∧Q (.ref l) ⟨σ.loc,H'⟩)
 | .mkS C fI=>Ex2 fun l k'=>An3 (σ.H l=none) (k'+1≤k) (WC (gg B) k' (.ref fI) (.ref l::vs) (up σ.H l (.slots C [])) fun v H'=>v=.none∧Q (.ref l) ⟨σ.loc,H'⟩)
 | .mkA C fI=>l1 (fun v=>Ex3 fun l d k'=>An5 (σ.H l=none) (σ.H d=none) (l≠d) (k'+1≤k) (WC (gg B) k' (.ref fI) [.ref l,v] (up (up σ.H d (.attrs [])) l (.acc C [] d)) fun v H'=>v=.none∧Q (.ref l) ⟨σ.loc,H'⟩)) vs
noncomputable def umP (u:Um) (o:AV) (σ:St):Prop:=match u.cls with
 | some C=>Ex3 fun l d es=>An4 (o=.ref l) (σ.H l=some (.inst C d)) (σ.H d=some (.attrs es)) (u.nm∉es.map (·.1))
 | none=>Ex4 fun l xs d es=>An4 (o=.ref l) (σ.H l=some (.acc CA xs d)) (σ.H d=some (.attrs es)) (u.nm∉es.map (·.1))
noncomputable def mtP (m:Mt) (o:AV) (σ:St):Prop:=match m with
 | .lappend=>(∃ xs,isL σ o xs)∨Ex4 fun l xs d es=>An4 (o=.ref l) (σ.H l=some (.acc CA xs d)) (σ.H d=some (.attrs es)) (m.nm∉es.map (·.1))
 | .lpop | .lclear=>∃ xs,isL σ o xs
 | .dget=>Ex3 fun l es ep=>o=.ref l∧σ.H l=some (.dict es ep)
 | .sadd=>Ex3 fun l T n=>An3 (o=.ref l) (σ.H l=some (.iset T n)) (n<scanBound)
 | .isspace | .index | .join=>onS (fun _=>True) o
 | .um u=>umP u o σ
noncomputable def mcallP (B:Bx) (k:Nat) (m:Mt) (vs:List AV) (σ:St) (Q:PA):Prop:=match m with
 | .lappend=>l2 (fun o x=>onR (fun l=>(∃ xs,An3 (σ.H l=some (.list xs)) (xs.length≤big) (Q .none ⟨σ.loc,up σ.H l (.list (xs++[x]))⟩))∨Ex2 fun xs d=>An3 (σ.H l=some (.acc CA xs d)) (xs.length≤big) (Q .none ⟨σ.loc,up σ.H l (.acc CA (xs++[x]) d)⟩)) o) vs
 | .lpop=>l12 (onR fun l=>Ex2 fun xs x=>An4 (σ.H l=some (.list xs)) (xs.length≤big) (xs[xs.length - 1]?=some x) (Q x ⟨σ.loc,up σ.H l (.list xs.dropLast)⟩))
   (fun o i=>onR (fun l=>onI (fun i=>Ex2 fun xs x=>An5 (σ.H l=some (.list xs)) (xs.length≤big) (0≤i) (xs[i.toNat]?=some x) (Q x ⟨σ.loc,up σ.H l (.list (xs.eraseIdx i.toNat))⟩)) i) o) vs
 | .lclear=>l1 (onR fun l=>∃ xs,An3 (σ.H l=some (.list xs)) (xs.length≤big) (Q .none ⟨σ.loc,up σ.H l (.list [])⟩)) vs
 | .dget=>l2 (fun o i=>onR (fun l=>onI (fun i=>Ex2 fun es ep=>σ.H l=some (.dict es ep)∧Q ((aget es i).getD .none) σ) i) o) vs
 | .sadd=>l2 (fun o i=>onR (fun l=>onI (fun i=>Ex2 fun T n=>An3 (σ.H l=some (.iset T n)) (n+1<scanBound) (Q .none ⟨σ.loc,up σ.H l (.iset (fun x=>T x||decide (x=i)) (if T i then n else n+1))⟩)) i) o) vs
 | .isspace=>l1 (onS fun x=>Q (.bool (C5 (S (cp x)))) σ) vs
 | .index=>l2 (fun a b=>onS (fun x=>onS (fun y=>Ex2 fun i rest=>occurrences (S (cp x)) (S (cp y)) 0 (cp x).length 1=i::rest∧Q (.int (i:Nat)) σ) b) a) vs
 | .join=>l2 (fun a v=>onS (fun x=>cp x=[]∧∃ xs:List (List Nat),An3 (isSeq σ v (sts xs)) ((xs.map AH).sum≤big) (Q (.str (S xs.flatten)) σ)) a) vs
 | .um u=>callU B k u.f vs σ Q
noncomputable def itP (v:AV) (σ:St) (K:List AV->(Hp->Prop)->St->Prop):Prop:=@AV.casesOn (fun _=>Prop) v (fun _=>False) (fun _=>False) (fun x=>K ((cp x).map fun ch=>.str (S [ch])) (fun _=>True) σ) (fun xs=>K xs (fun _=>True) σ) (fun xs=>K xs (fun _=>True) σ)
 (fun a b c=>Es a b c=true∧K (rangeL a b c) (fun _=>True) σ) (fun _ _ _=>False) (fun _=>False) (fun _ _=>False)
 (fun l=>(∃ xs,σ.H l=some (.list xs)∧K xs (fun H=>H l=some (.list xs)) σ)∨(Ex2 fun es ep=>σ.H l=some (.dict es ep)∧K (es.map fun p=>.int p.1) (fun H=>H l=some (.dict es ep)) σ))
mutual
noncomputable def vE (B:Bx) (k:Nat):X->St->(PA)->Prop
 | .var i,σ,Q=>(match nth σ.loc i with
  | some v=>Q v σ
  | none=>False)
 | .int i,σ,Q=>Q (.int i) σ
 | .str l,σ,Q=>Q (.str (S l)) σ
 | .none,σ,Q=>Q .none σ
 | .bool t,σ,Q=>Q (.bool t) σ
 | .ty s,σ,Q=>Q (.rig (.type s)) σ
 | .bin o a b,σ,Q=>vE B k a σ fun x σ1=>vE B k b σ1 fun y σ2=>binP o x y σ2 Q
 | .cmp o a b,σ,Q=>vE B k a σ fun x σ1=>vE B k b σ1 fun y σ2=>cmpP o x y σ2 fun t σ3=>Q (.bool t) σ3
 | .not a,σ,Q=>vE B k a σ fun x σ1=>truP B k x σ1 fun t σ2=>Q (.bool (!t)) σ2
 | .neg a,σ,Q=>vE B k a σ fun x σ1=>asInt x fun i=>Q (.int (-i)) σ1
 | .and a b,σ,Q=>vE B k a σ fun x σ1=>truP B k x σ1 fun t σ2=>(t=false->Q x σ2)∧(t=true->vE B k b σ2 Q)
 | .or a b,σ,Q=>vE B k a σ fun x σ1=>truP B k x σ1 fun t σ2=>(t=true->Q x σ2)∧(t=false->vE B k b σ2 Q)
 | .ite t a b,σ,Q=>vT B k t σ fun r σ1=>(r=true->vE B k a σ1 Q)∧(r=false->vE B k b σ1 Q)
 | .named i a,σ,Q=>vE B k a σ fun x σ1=>Q x ⟨σ1.loc.set i (some x),σ1.H⟩
 | .sub a b,σ,Q=>vE B k a σ fun x σ1=>vE B k b σ1 fun y σ2=>getP x y σ2 Q
 | .slice a b c,σ,Q=>vP B k a σ fun x σ1=>vP B k b σ1 fun y σ2=>vP B k c σ2 fun z σ3=>Q (.slc x y z) σ3
 | .attr n a,σ,Q=>vE B k a σ fun x σ1=>atP n x σ1 Q
 | .next a,σ,Q=>vE B k a σ fun x σ1=>Ex3 fun li l i=>An3 (x=.ref li) (σ1.H li=some (.iter l i)) (Q (.nxt li) σ1)
 | .call f as,σ,Q=>vL B k as σ fun vs σ1=>callP B k f vs σ1 Q
 | .meth m o as,σ,Q=>vE B k o σ fun x σ1=>mtP m x σ1∧vL B k as σ1 fun vs σ2=>mcallP B k m (x::vs) σ2 Q
 | .methS u o as,σ,Q=>vE B k o σ fun x σ1=>umP u x σ1∧vL B k as σ1 fun vs σ2=>callU B k u.f (x::vs) σ2 Q
 | .list as,σ,Q=>vL B k as σ fun vs σ1=>Nat.ble vs.length big=true∧NewL vs σ1 Q
 | .tup as,σ,Q=>vL B k as σ fun vs σ1=>Nat.ble vs.length big=true∧Q (.tup vs) σ1
 | .dict,σ,Q=>∃ l,σ.H l=Av∧Q (.ref l) ⟨σ.loc,up σ.H l (.dict [] 0)⟩
 | .comp two js elt it cond,σ,Q=>vI B k it σ fun xs _ σ1=>xs.length≤big∧∃ f:AV->Option AV,(∀ x∈xs,match two with
   | false=>vT B k cond ⟨some x::js.map (nth σ1.loc),σ1.H⟩ fun ok σ3=>σ3=⟨some x::js.map (nth σ1.loc),σ1.H⟩∧(ok=true->vE B k elt ⟨some x::js.map (nth σ1.loc),σ1.H⟩ fun v σ4=>σ4=⟨some x::js.map (nth σ1.loc),σ1.H⟩∧f x=some v)∧(ok=false->f x=none)
   | true=>pairP x fun a b=>vT B k cond ⟨some a::some b::js.map (nth σ1.loc),σ1.H⟩ fun ok σ3=>σ3=⟨some a::some b::js.map (nth σ1.loc),σ1.H⟩∧(ok=true->vE B k elt ⟨some a::some b::js.map (nth σ1.loc),σ1.H⟩ fun v σ4=>σ4=⟨some a::some b::js.map (nth σ1.loc),σ1.H⟩∧f x=some v)∧(ok=false->f x=none))∧NewL (xs.filterMap f) σ1 Q
 | _,_,_=>False
noncomputable def vT (B:Bx) (k:Nat):X->St->(PB)->Prop
 | .not a,σ,Q=>vT B k a σ fun t σ1=>Q (!t) σ1
 | .and a b,σ,Q=>vT B k a σ fun t σ1=>(t=true->vT B k b σ1 Q)∧(t=false->Q false σ1)
 | .or a b,σ,Q=>vT B k a σ fun t σ1=>(t=false->vT B k b σ1 Q)∧(t=true->Q true σ1)
 | .cmp o a b,σ,Q=>vE B k a σ fun x σ1=>vE B k b σ1 fun y σ2=>cmpP o x y σ2 Q
 | .chain o p a b c,σ,Q=>vE B k a σ fun x σ1=>vE B k b σ1 fun y σ2=>cmpP o x y σ2 fun t σ3=>(t=false->Q false σ3)∧(t=true->vE B k c σ3 fun z σ4=>cmpP p y z σ4 Q)
 | .bool t,σ,Q=>Q t σ
 | .var i,σ,Q=>(match nth σ.loc i with
  | some v=>truP B k v σ Q
  | none=>False)
 | .attr n a,σ,Q=>vE B k a σ fun x σ1=>atP n x σ1 fun v σ2=>truP B k v σ2 Q
 | .call f as,σ,Q=>vL B k as σ fun vs σ1=>callP B k f vs σ1 fun v σ2=>truP B k v σ2 Q
 | .meth m o as,σ,Q=>vE B k o σ fun x σ1=>mtP m x σ1∧vL B k as σ1 fun vs σ2=>mcallP B k m (x::vs) σ2 fun v σ3=>truP B k v σ3 Q
 | _,_,_=>False
noncomputable def vP (B:Bx) (k:Nat):X->St->(Option Int->St->Prop)->Prop
 | .nil,σ,K=>K none σ
 | .cons a .nil,σ,K=>vE B k a σ fun v σ1=>asInt v fun i=>K (some i) σ1
 | _,_,_=>False
noncomputable def vL (B:Bx) (k:Nat):X->St->(List AV->St->Prop)->Prop
 | .nil,σ,Q=>Q [] σ
 | .cons a as,σ,Q=>vE B k a σ fun v σ1=>vL B k as σ1 fun vs σ2=>Q (v::vs) σ2
 | .star a as,σ,Q=>vE B k a σ fun v σ1=>∃ xs,An3 (isSeq σ1 v xs) (xs.length≤big) (vL B k as σ1 fun vs σ2=>Q (xs++vs) σ2)
 | _,_,_=>False
noncomputable def vI (B:Bx) (k:Nat):X->St->(List AV->(Hp->Prop)->St->Prop)->Prop
 | .rev a,σ,K=>vE B k a σ fun v σ1=>∃ n:Nat,An3 (v=.rng 0 n 1) (n≤big) (K ((A5 n).map fun (i:Nat)=>AV.int ((n:Int) - 1+i*(-1))) (fun _=>True) σ1)
 | .vals a,σ,K=>Ex3 fun l es ep=>vE B k a σ fun v σ1=>v=.ref l∧σ1.H l=some (.dict es ep)∧K (es.map (·.2)) (fun H=>H l=some (.dict es ep)) σ1
 | .var i,σ,K=>(match nth σ.loc i with
  | some v=>itP v σ K
  | none=>False)
 | .call f as,σ,K=>vL B k as σ fun vs σ1=>callP B k f vs σ1 fun v σ2=>itP v σ2 K
 | .attr n a,σ,K=>vE B k a σ fun x σ1=>atP n x σ1 fun v σ2=>itP v σ2 K
 | .tup as,σ,K=>vL B k as σ fun vs σ1=>Nat.ble vs.length big=true∧K vs (fun _=>True) σ1
 | .bin o a b,σ,K=>vE B k a σ fun x σ1=>vE B k b σ1 fun y σ2=>binP o x y σ2 fun v σ3=>itP v σ3 K
 | .sub a b,σ,K=>vE B k a σ fun x σ1=>vE B k b σ1 fun y σ2=>getP x y σ2 fun v σ3=>itP v σ3 K
 | _,_,_=>False
end
noncomputable def vG (B:Bx) (k:Nat) (t:Tg) (v:AV) (σ:St) (Q:St->Prop):Prop:=match t with
 | .fail=>False
 | .name i=>Q ⟨σ.loc.set i (some v),σ.H⟩
 | .pair i j=>pairP v fun a b=>Q ⟨(σ.loc.set i (some a)).set j (some b),σ.H⟩
 | .attr n o=>vE B k o σ fun x σ1=>setP n x v σ1 Q
 | .sub o i=>vE B k o σ fun x σ1=>vE B k i σ1 fun y σ2=>putP x y v σ2 Q
noncomputable def augP (B:Bx) (k:Nat) (t:Tg) (o:Operator) (e:X) (σ:St) (Q:St->Prop):Prop:=match t with
 | .name i=>(match nth σ.loc i with
  | some old=>vE B k e σ fun v σ1=>inpP o old v σ1 fun r σ2=>Q ⟨σ2.loc.set i (some r),σ2.H⟩
  | none=>False)
 | .attr n a=>vE B k a σ fun x σ1=>atP n x σ1 fun old σ2=>vE B k e σ2 fun v σ3=>inpP o old v σ3 fun r σ4=>setP n x r σ4 Q
 | .sub a i=>vE B k a σ fun x σ1=>vE B k i σ1 fun y σ2=>getP x y σ2 fun old σ3=>vE B k e σ3 fun v σ4=>inpP o old v σ4 fun r σ5=>putP x y r σ5 Q
 | _=>False
noncomputable def loopF (Q:PF) (N:St->Prop) (f:Fl) (σ:St):Prop:=match f with
 | .next=>N σ
 | .cont=>N σ
 | .brk=>Q .next σ
 | .ret v=>Q (.ret v) σ
noncomputable def WhileP (T:St->(PB)->Prop) (A C:St->(PF)->Prop) (σ:St) (Q:PF):Prop :=
 Ex2 fun (I:Nat->St->Prop) (n:Nat)=>I n σ∧∀ n σ,I n σ->T σ fun t σ1=>(t=true->A σ1 (loopF Q fun σ2=>∃ m,m<n∧I m σ2))∧(t=false->C σ1 Q)
noncomputable def ForP (g:AV->St->(St->Prop)->Prop) (A C:St->(PF)->Prop) (Q:PF) (xs:List AV) (kp:Hp->Prop) (σ:St):Prop :=
 ∃ I:Nat->St->Prop,An4 (I 0 σ) ((∀ i σ,I i σ->kp σ.H)) ((∀ i x σ,xs[i]?=some x->I i σ->g x σ fun σ1=>A σ1 (loopF Q fun σ2=>I (i+1) σ2))) ((∀ σ,I xs.length σ->C σ Q))
inductive TryE (s d:Nat) (σ:St) (Q:St->Prop) (lj ls ld li:Lb) (js:List AV):Prop where
 | mk (a1:nth σ.loc s=some (.ref ls)) (a2:nth σ.loc d=some (.ref ld)) (ss:List AV) (y:Int) (es:List (Int×AV)) (ep:Nat) (n1:lj≠ls) (n2:li≠ls) (n3:li≠ld) (n4:li≠lj) (n5:ls≠ld) (n6:lj≠ld) (b1:σ.H ls=some (.list (ss++[.int y]))) (b2:ss.length<big)
  (b3:σ.H ld=some (.dict es ep)) (b4:es.length≤big) (b5:(aget es y).isSome=true) (q:∀ ep',Q ⟨σ.loc,up (up (up (up σ.H li .dead) ls (.list ss)) ld (.dict (adel es y) ep')) lj (.list js.dropLast)⟩):TryE s d σ Q lj ls ld li js
inductive Uk (i j s d:Nat) (σ:St) (Q:PF):Prop where
 | mk (lj ls ld:Lb) (js:List AV) (li l:Lb) (p:Nat) (xs:List AV) (a1:nth σ.loc j=some (.ref lj)) (a2:σ.H lj=some (.list js)) (a3:js.length≤big) (a4:js.getLast?=some (.nxt li)) (a5:σ.H li=some (.iter l p)) (a6:σ.H l=some (.list xs))
  (a7:∀ x,xs[p]?=some x->Q .brk ⟨σ.loc.set i (some x),up σ.H li (.iter l (p+1))⟩) (a8:xs[p]?=none->TryE s d σ (Q .next) lj ls ld li js):Uk i j s d σ Q
noncomputable def sqF (N:St->(PF)->Prop) (Q:PF) (f:Fl) (σ:St):Prop:=match f with
 | .next=>N σ Q
 | .brk=>Q .brk σ
 | .cont=>Q .cont σ
 | .ret v=>Q (.ret v) σ
theorem sqB {N:St->(PF)->Prop} {Q:PF} {σ:St}:sqF N Q .brk σ=Q .brk σ:=rfl
theorem sqC {N:St->(PF)->Prop} {Q:PF} {σ:St}:sqF N Q .cont σ=Q .cont σ:=rfl
theorem sqR {N:St->(PF)->Prop} {Q:PF} {σ:St} {v:AV}:sqF N Q (.ret v) σ=Q (.ret v) σ:=rfl
noncomputable def vS (B:Bx) (k:Nat):Y->St->(PF)->Prop
 | .fail,_,_=>False
 | .skip,σ,Q=>Q .next σ
 | .seq a b,σ,Q=>vS B k a σ (sqF (vS B k b) Q)
 | .asg t e,σ,Q=>vE B k e σ fun v σ1=>vG B k t v σ1 fun σ2=>Q .next σ2
 | .asg2 t u e,σ,Q=>vE B k e σ fun v σ1=>vG B k t v σ1 fun σ2=>vG B k u v σ2 fun σ3=>Q .next σ3
 | .aug t o e,σ,Q=>augP B k t o e σ fun σ1=>Q .next σ1
 | .expr e,σ,Q=>vE B k e σ fun _ σ1=>Q .next σ1
 | .ret e,σ,Q=>vE B k e σ fun v σ1=>Q (.ret v) σ1
 | .ite t a b,σ,Q=>vT B k t σ fun r σ1=>(r=true->vS B k a σ1 Q)∧(r=false->vS B k b σ1 Q)
 | .whil t a b,σ,Q=>WhileP (vT B k t) (vS B k a) (vS B k b) σ Q
 | .forr t it a b,σ,Q=>vI B k it σ (ForP (vG B k t) (vS B k a) (vS B k b) Q)
 | .brk,σ,Q=>Q .brk σ
 | .cont,σ,Q=>Q .cont σ
 | .tryN i j s d,σ,Q=>Uk i j s d σ Q
noncomputable def vR (B:Bx) (k:Nat) (b:Y) (σ:St) (Q:PF):Prop:=vS B k b σ Q
section
variable {B:Bx} {k:Nat} {σ:St} {Q:PF} {a b:Y} {t u:Tg} {e:X}
theorem sqN (h:vS B k b σ Q):sqF (vR B k b) Q .next σ:=h
theorem sqE:sqF (vR B k .skip) Q .next σ=Q .next σ:=rfl
theorem vS0:vS B k .skip σ Q=Q .next σ:=rfl
theorem vS1:vS B k (.seq a b) σ Q=vS B k a σ (sqF (vR B k b) Q):=rfl
theorem vS2:vS B k (.asg t e) σ Q=vE B k e σ fun v σ1=>vG B k t v σ1 fun σ2=>Q .next σ2:=rfl
theorem vS3:vS B k (.asg2 t u e) σ Q=vE B k e σ fun v σ1=>vG B k t v σ1 fun σ2=>vG B k u v σ2 fun σ3=>Q .next σ3:=rfl
theorem vS4 {o:Operator}:vS B k (.aug t o e) σ Q=augP B k t o e σ fun σ1=>Q .next σ1:=rfl
theorem vS5:vS B k (.expr e) σ Q=vE B k e σ fun _ σ1=>Q .next σ1:=rfl
theorem vS6:vS B k (.ret e) σ Q=vE B k e σ fun v σ1=>Q (.ret v) σ1:=rfl
theorem vS7:vS B k (.ite e a b) σ Q=vT B k e σ fun r σ1=>(r=true->vS B k a σ1 Q)∧(r=false->vS B k b σ1 Q):=rfl
theorem vS8:vS B k (.whil e a b) σ Q=WhileP (vT B k e) (vR B k a) (vR B k b) σ Q:=rfl
theorem vS9:vS B k (.forr t e a b) σ Q=vI B k e σ (ForP (vG B k t) (vR B k a) (vR B k b) Q):=rfl
theorem vS10:vS B k .brk σ Q=Q .brk σ:=rfl
theorem vS11:vS B k .cont σ Q=Q .cont σ:=rfl
theorem vS12 {i j s d:Nat}:vS B k (.tryN i j s d) σ Q=Uk i j s d σ Q:=rfl
end
end
section
open Builtin Builtin.Str
section
variable {G:Gb} {c:Cx} {σ:St}
theorem Jq (x:Str):S (cp x)=x:=(S_eq x).symm
theorem WV.lenT {xs:List AV} {Q:PA} (hz:xs.length≤big) (q:Q (.int xs.length) σ):WV G c (.rig (.builtin "len")) [.tup xs] σ Q:=fun η s f' vs' R hf hvs=>by
 obtain rfl:=hf.rigE
 obtain ⟨v,rfl,hv⟩:=hvs.E1
 obtain ⟨a,vs,n,rfl,z,r⟩:=hv.tupE
 have hlen:=r.size
 refine len_tuple ⟨_,R.frz _ _ z,rfl,n,rfl⟩ (by unfold big at hz; lia) ?_
 rw [← hlen]; exact .toks R q (.int ..)
theorem WB.itemT {xs:List AV} {x:AV} {k:Int} {Q:PA} (h0:0≤k) (h1:k<big) (hx:xs[k.toNat]?=some x) (q:Q x σ):WB G c VR getItem (.tup xs) (.int k) σ Q:=fun η s a' b' R ha hb=>by
 obtain ⟨_,rfl⟩:=hb.intE
 obtain ⟨a,vs,n,rfl,z,r⟩:=ha.tupE
 obtain ⟨v,e,hv⟩:=HF r hx
 have hl:=(FC.mp e).1
 unfold big at h1
 exact getItem_tuple ⟨_,R.frz _ _ z,rfl,n,rfl⟩ (by lia) (by lia) (HN h0 (by lia)) e (.here R q hv)
theorem NoPyAt.tup {xs:List AV}:NoPyAt G (.tup xs) σ:=NoPyItem.tup.at
theorem NoPyAt.lst {xs:List AV}:NoPyAt G (.lst xs) σ:=NoPyItem.lst.at
theorem W1.augSub {o i value:Expr} {tpos pos:Pos} {op:Operator} {Q:PF}
  (h:WE G c o σ fun ov σ1=>WE G c i σ1 fun iv σ2=>WB G c VR getItem ov iv σ2 fun old σ3=>WE G c value σ3 fun v σ4=>WB G c VR (inplaceOp op) old v σ4 fun r σ5=>WSet G c ov iv r σ5 fun σ6=>Q .next σ6)
  (hi:∀ ov iv new,augStore i ov iv new=(do holding [new,ov,iv] (setItem ov iv new); release [new,ov,iv] []; pure .next)):W1 G c (.AugAssign (.Subscript o i tpos) op value pos) σ Q:=fun η s R =>
 wpAny_AugAssign_SubscriptAny (wb (h η s R) fun ov' ov σ1 η1 s1 h1 ho R1 st1=>wb (h1 η1 s1 R1) fun iv' iv σ2 η2 s2 h2 hiv R2 st2=>wb (h2 η2 s2 ov' iv' R2 (ho.mono st2.le) hiv) fun old' old σ3 η3 s3 h3 hold R3 st3 =>
  wb (h3 η3 s3 R3) fun v' v σ4 η4 s4 h4 hv R4 st4=>wb (h4 η4 s4 old' v' R4 (hold.mono st4.le) hv) fun r' r σ5 η5 s5 h5 hr R5 st5 =>
   wb (h5 η5 s5 ov' iv' r' R5 ((((ho.mono st2.le).mono st3.le).mono st4.le).mono st5.le) (((hiv.mono st3.le).mono st4.le).mono st5.le) hr) fun _ _ σ6 η6 s6 h6 _ R6 st6 =>
    ⟨_,σ6,η6,h6,.next,R6,((((st1.trans st2).trans st3).trans st4).trans st5).trans st6⟩) hi
end
section
variable {B:Bx} {c:Cx} {σ:St}
theorem HQ {a b:AV} {K:Int->Int->Prop} (h:int2 a b K):Ex2 fun x y=>An3 (a=.int x) (b=.int y) (K x y):=by
 obtain ⟨x,rfl,g⟩:=Ib h
 obtain ⟨y,rfl,i⟩:=Ib g
 exact ⟨x,y,rfl,rfl,i⟩
theorem NW {a:AV} {K:Int->Prop} (h:asInt a K):∃ x,a=.int x∧K x:=Ib h
theorem MN {v:AV} {K:AV->AV->Prop} (h:pairP v K):Ex2 fun a b=>v=.tup [a,b]∧K a b:=by
 obtain ⟨xs,rfl,g⟩:=Tf h
 obtain ⟨a,b,rfl,i⟩:=Rv g
 exact ⟨a,b,rfl,i⟩
theorem addS {x y:Str} {Q:PA} (h:(cp x).length+(cp y).length≤big∧Q (.str (S (cp x++cp y))) σ):WB (gg B) c VR (binaryOp .Add) (.str x) (.str y) σ Q:=by
 rw [← Jq x,← Jq y]; exact WB.addS h.1 h.2
theorem iaddS {x y:Str} {Q:PA} (h:(cp x).length+(cp y).length≤big∧Q (.str (S (cp x++cp y))) σ):WB (gg B) c VR (inplaceOp .Add) (.str x) (.str y) σ Q:=by
 rw [← Jq x,← Jq y]; exact WB.iaddS h.1 h.2
theorem addL {v w:AV} {Q:PA} (h:addE v w σ Q):WB (gg B) c VR (binaryOp .Add) v w σ Q:=by
 obtain ⟨xs,ys,h1,h2,h3,h4⟩:=h; exact WB.cat h1 h2 h3 h4
theorem TX {a b:AV} {Q:PA} (h:addP a b σ Q):WB (gg B) c VR (binaryOp .Add) a b σ Q :=
 I3 (M:=fun a=>WB (gg B) c VR (binaryOp .Add) a b σ Q) h (fun x h=>by obtain ⟨y,rfl,g⟩:=Ib h; exact WB.add g) (fun x h=>by obtain ⟨y,rfl,g⟩:=ID h; exact addS g) no (fun _ h=>addL h) (fun _ h=>addL h)
theorem mulL {v:AV} {y:Int} {Q:PA} (h:mulE v y σ Q):WB (gg B) c VR (binaryOp .Mult) v (.int y) σ Q:=by
 obtain ⟨xs,h1,h2,h3,h4,q⟩:=h; exact WB.mulL h1 h2 h3 h4 q
theorem Tw {a b:AV} {Q:PA} (h:mulP a b σ Q):WB (gg B) c VR (binaryOp .Mult) a b σ Q:=by
 obtain ⟨y,rfl,g⟩:=Ib h
 exact I3 (M:=fun a=>WB (gg B) c VR (binaryOp .Mult) a (.int y) σ Q) g (fun x h=>WB.mul h.1 h.2) (fun x h=>by obtain ⟨ch,m,rfl,rfl,h1,h2,q⟩:=h; exact WB.mulS h1 h2 q) no (fun _ h=>mulL h) (fun _ h=>mulL h)
theorem TP {o:Operator} {a b:AV} {Q:PA} (h:binP o a b σ Q):WB (gg B) c VR (binaryOp o) a b σ Q:=by
 cases o with
 | Add=>exact TX h
 | Mult=>exact Tw h
 | Sub=>obtain ⟨x,y,rfl,rfl,h⟩:=HQ h; exact WB.sub h
 | Mod=>obtain ⟨x,y,rfl,rfl,h⟩:=HQ h; exact WB.mod h.1 h.2
 | FloorDiv=>obtain ⟨x,y,rfl,rfl,h⟩:=HQ h; exact WB.fdiv h.1.1 h.1.2 h.2
 | RShift=>obtain ⟨x,y,rfl,rfl,h⟩:=HQ h; exact WB.shr h.1 h.2
 | _=>exact h.elim
theorem Ny {o:Operator} {a b:AV} {Q:PA} (h:inpP o a b σ Q):WB (gg B) c VR (inplaceOp o) a b σ Q:=by
 cases o with
 | Add=>exact I3 (M:=fun a=>WB (gg B) c VR (inplaceOp .Add) a b σ Q) h (fun x h=>by obtain ⟨y,rfl,g⟩:=Ib h; exact WB.iadd g) (fun x h=>by obtain ⟨y,rfl,g⟩:=ID h; exact iaddS g) no no no
 | Sub=>obtain ⟨x,y,rfl,rfl,h⟩:=HQ h; exact WB.isub h
 | FloorDiv=>obtain ⟨x,y,rfl,rfl,h⟩:=HQ h; exact WB.ifdiv h.1.1 h.1.2 h.2
 | _=>exact h.elim
theorem eqL {v w:AV} {Q:PB} (h:eqE v w σ Q):WB (gg B) c VR (compareOp .Eq) v w σ fun v σ'=>∃ t,v=.bool t∧Q t σ':=by
 rcases h with ⟨xs,ys,h1,h2,q⟩ | ⟨xs,ys,h1,h2,h3,h4,q⟩
 ·exact WB.eqI h1 h2 ⟨_,rfl,q⟩
 ·exact WB.eqT h1 h2 h3 h4 ⟨_,rfl,q⟩
theorem neL {v w:AV} {Q:PB} (h:eqE v w σ fun t=>Q !t):WB (gg B) c VR (compareOp .NotEq) v w σ fun v σ'=>∃ t,v=.bool t∧Q t σ':=by
 rcases h with ⟨xs,ys,h1,h2,q⟩ | ⟨xs,ys,h1,h2,h3,h4,q⟩
 ·exact WB.neI h1 h2 ⟨_,rfl,q⟩
 ·exact WB.neT h1 h2 h3 h4 ⟨_,rfl,q⟩
theorem UF {x y:Str} {Q:PA} (h:Q (.bool (cp x==cp y)) σ):WB (gg B) c VR (compareOp .Eq) (.str x) (.str y) σ Q:=by rw [← Jq x,← Jq y]; exact WB.eqS h
theorem U1 {x y:Str} {Q:PA} (h:Q (.bool !(cp x==cp y)) σ):WB (gg B) c VR (compareOp .NotEq) (.str x) (.str y) σ Q:=by rw [← Jq x,← Jq y]; exact WB.neS h
theorem UG {a b:AV} {Q:PB} (h:eqP a b σ Q):WB (gg B) c VR (compareOp .Eq) a b σ fun v σ'=>∃ t,v=.bool t∧Q t σ' :=
 I3 (M:=fun a=>WB (gg B) c VR (compareOp .Eq) a b σ fun v σ'=>∃ t,v=.bool t∧Q t σ') h (fun x h=>by obtain ⟨y,rfl,g⟩:=Ib h; exact WB.eq ⟨_,rfl,g⟩) (fun x h=>by obtain ⟨y,rfl,g⟩:=ID h; exact UF ⟨_,rfl,g⟩) no (fun _ h=>eqL h) (fun _ h=>eqL h)
theorem Tv {a b:AV} {Q:PB} (h:neqP a b σ Q):WB (gg B) c VR (compareOp .NotEq) a b σ fun v σ'=>∃ t,v=.bool t∧Q t σ' :=
 I3 (M:=fun a=>WB (gg B) c VR (compareOp .NotEq) a b σ fun v σ'=>∃ t,v=.bool t∧Q t σ') h (fun x h=>by obtain ⟨y,rfl,g⟩:=Ib h; exact WB.ne ⟨_,rfl,g⟩) (fun x h=>by obtain ⟨y,rfl,h⟩:=ID h; exact U1 ⟨_,rfl,h⟩)
  (fun x h=>by obtain ⟨us,ws,e1,e2,h1,h2,q⟩:=h; rw [e1,e2]; exact WB.neTup h1 h2 ⟨_,rfl,q⟩) (fun _ h=>neL h) (fun _ h=>neL h)
theorem VR.nn {η:Et} {a:AV} {v:Value} (r:VR η a v):isRg a=false->(v==Bt)=false :=
 @VR.casesOn η (fun a v _=>isRg a=false->(v==Bt)=false) a v r (fun _ h=>ft h) (fun _ _ _=>rfl) (fun _ _ _=>rfl) (fun _ _ _=>rfl) (fun _ _ _=>rfl) (fun _ _=>rfl) (fun _ _ _ _ _=>rfl) (fun _ _ _=>rfl) (fun _ _ _=>rfl) (fun _ _=>rfl)
theorem T8 {a b:AV} {K:Bool->Prop} (h:isP a b K):b=.none∧∃ t,(∀ η x',VR η a x'->(x'==Bt)=t)∧K t:=by
 obtain ⟨rfl,g⟩:=(TQ h).resolve_right fun h=>h.2
 refine ⟨rfl,?_⟩
 rcases TQ g with ⟨rfl,i⟩ | ⟨e,i⟩
 ·exact ⟨true,fun η x' r=>by rw [r.rigE]; rfl,i⟩
 ·exact ⟨false,fun η x' r=>r.nn e,i⟩
theorem U9 {a b:AV} {Q:PB} (h:inP a b σ Q):WB (gg B) c VR (compareOp .In) a b σ fun v σ'=>∃ t,v=.bool t∧Q t σ' :=
 I3 (M:=fun a=>WB (gg B) c VR (compareOp .In) a b σ fun v σ'=>∃ t,v=.bool t∧Q t σ') h
  (fun k h=>I3 (M:=fun b=>WB (gg B) c VR (compareOp .In) (.int k) b σ fun v σ'=>∃ t,v=.bool t∧Q t σ') h no no no (fun xs h=>by obtain ⟨xs,h1,q⟩:=h; exact WB.inI h1 ⟨_,rfl,q⟩) (fun l h=>by
   rcases h with ⟨xs,h1,q⟩ | ⟨T,n,h1,h2,q⟩ | ⟨es,ep,h1,q⟩
   ·exact WB.inI (.inr ⟨l,rfl,h1⟩) ⟨_,rfl,q⟩
   ·exact WB.inSet h1 h2 ⟨_,rfl,q⟩
   ·exact WB.inD h1 ⟨_,rfl,q⟩))
  (fun x h=>by obtain ⟨y,rfl,g⟩:=ID h; rw [← Jq x,← Jq y]; exact WB.inS ⟨_,rfl,g⟩) no no no
theorem LQ {o:CmpOp} {a b:AV} {Q:PB} (h:cmpP o a b σ Q):WB (gg B) c VR (compareOp o) a b σ fun v σ'=>∃ t,v=.bool t∧Q t σ':=by
 cases o with
 | Lt=>obtain ⟨x,y,rfl,rfl,h⟩:=HQ h; exact WB.lt ⟨_,rfl,h⟩
 | LtE=>obtain ⟨x,y,rfl,rfl,h⟩:=HQ h; exact WB.le ⟨_,rfl,h⟩
 | Gt=>obtain ⟨x,y,rfl,rfl,h⟩:=HQ h; exact WB.gt ⟨_,rfl,h⟩
 | GtE=>obtain ⟨x,y,rfl,rfl,h⟩:=HQ h; exact WB.ge ⟨_,rfl,h⟩
 | Eq=>exact UG h
 | NotEq=>exact Tv h
 | Is=>obtain ⟨rfl,t,ht,q⟩:=T8 (show isP a b (fun t=>Q t σ) from h); exact WB.is ht ⟨_,rfl,q⟩
 | IsNot=>obtain ⟨rfl,t,ht,q⟩:=T8 (show isP a b (fun t=>Q (!t) σ) from h); exact WB.isNot ht ⟨_,rfl,q⟩
 | In=>exact U9 h
 | NotIn=>exact h.elim
theorem WB.mono {α β:Type} {X:Et->β->α->Prop} {t:Value->Value->Sem α} {a b:AV} {Q Q':β->St->Prop} (h:WB (gg B) c X t a b σ Q) (k:∀ v σ',Q v σ'->Q' v σ'):WB (gg B) c X t a b σ Q':=fun η s a' b' R ha hb =>
 IM (h η s a' b' R ha hb) k
theorem WU.mono {α β:Type} {X:Et->β->α->Prop} {t:Value->Sem α} {a:AV} {Q Q':β->St->Prop} (h:WU (gg B) c X t a σ Q) (k:∀ v σ',Q v σ'->Q' v σ'):WU (gg B) c X t a σ Q':=fun η s a' R ha =>
 IM (h η s a' R ha) k
theorem WV.mono {f:AV} {vs:List AV} {Q Q':PA} (h:WV (gg B) c f vs σ Q) (k:∀ v σ',Q v σ'->Q' v σ'):WV (gg B) c f vs σ Q':=fun η s a' b' R ha hb =>
 IM (h η s a' b' R ha hb) k
theorem Nv {v x:AV} {xs:List AV} {k:Int} {Q:PA} (hl:isL σ v xs) (h:itemL xs k x) (q:Q x σ):WB (gg B) c VR getItem v (.int k) σ Q∧NoPyAt (gg B) v σ:=by
 refine ⟨?_,.list hl⟩
 obtain ⟨h1,⟨h2,h3⟩ | ⟨h2,h3,h4⟩⟩:=h
 ·exact WB.item hl h2 (by unfold big at h1; exact Ag (by assumption) (by decide)) h3 q
 ·exact WB.itemNeg hl h2 h3 (by unfold big at h1; exact Ag (by assumption) (by decide)) h4 q
end
end
section
open Builtin Builtin.Str
theorem mroOf {o:Option ClassData} {m:List Value} (h:o.map (·.mro)=some m):∃ cd,o=some cd∧cd.mro=m:=by
 cases o with
 | none=>cases h
 | some cd=>exact ⟨cd,rfl,Option.some.inj h⟩
section
variable (B:Bx)
noncomputable abbrev KB:Frag:=(gg B).K
theorem Sr (n:At) {C:Addr} (h:n.kd=.inst C):K9 (KB B) C∧NoCls (KB B) C n.nm:=by
 cases n<;>first | (cases h; refine ⟨⟨?_,?_,?_,?_⟩,?_⟩<;>kernel_rfl) | cases h
theorem IA:IF (KB B) CA:=⟨by kernel_rfl,by kernel_rfl,by kernel_rfl,by kernel_rfl,mroOf (by kernel_rfl)⟩
theorem Oi:NoCls (KB B) CA At.isize.nm:=by kernel_rfl
theorem J8:KA (KB B) CA:=⟨by kernel_rfl,by kernel_rfl,by kernel_rfl,mroOf (by kernel_rfl)⟩
theorem SW (n:At) {p:Addr} (h:n.kd=.slot p):Oo (KB B) 40 p n.nm n.ix:=by
 cases n<;>first | (cases h; refine ⟨?_,?_,?_,?_,?_,?_,?_,?_⟩<;>first | (kernel_rfl) | (intro od; kernel_rfl) | decide) | cases h
theorem Jp:findIn (KB B) (.ref CA) "__len__" = some (some (.ref accLenF))∧typeIn (KB B) (.ref accLenF)=some (.type "function")∧findIn (KB B) (.ref CA) "__bool__" = some none:=⟨by kernel_rfl,by kernel_rfl,by kernel_rfl⟩
theorem Oh:findIn (KB B) (.ref CA) "__str__" = some (some (.ref accStrF))∧isFn (KB B) (.ref accStrF)=true:=⟨by kernel_rfl,by kernel_rfl⟩
noncomputable def Um.cl (u:Um):Addr:=match u.cls with
 | some C=>C
 | none=>CA
theorem umK (u:Um):UN (KB B) u.cl u.nm u.f∧fnIn (KB B) u.f=true∧keepIn (KB B) (.ref u.f)=true:=by
 cases u<;>(refine ⟨⟨?_,?_,?_,?_,?_⟩,?_,?_⟩<;>kernel_rfl)
theorem umC (u:Um) {C:Addr} (h:u.cls=some C):K9 (KB B) C:=by
 cases u<;>first | (cases h; refine ⟨?_,?_,?_,?_⟩<;>kernel_rfl) | cases h
theorem On:findIn (KB B) (.ref CA) "append" = some (some (.builtin "list.append"))∧typeIn (KB B) (.builtin "list.append")=some (.type "method_descriptor"):=⟨by kernel_rfl,by kernel_rfl⟩
noncomputable def bltC (K:Frag) (x:Str) (v:Value):Bool:=(nsIn K mainGlobals x==some none)&&(bootBuiltins x==some v)&&!(x==("__name__" : Str))
noncomputable def glbC (K:Frag) (x:Str) (a:Addr):Bool:=(nsIn K mainGlobals x==some (some (.ref a)))&&keepIn K (.ref a)
noncomputable def mkC (K:Frag) (C f:Addr):Bool:=(findIn K (.ref C) "__init__" ==some (some (.ref f)))&&(typeIn K (.ref f)==some (.type "function"))
noncomputable def fnChk (K:Frag) (p:Str×Fn):Bool:=!(p.1==("__debug__" : Str))&&@Fn.casesOn (fun _=>Bool) p.2 (bltC K p.1 Fn.len.v) (bltC K p.1 Fn.range.v) (bltC K p.1 Fn.list.v) (bltC K p.1 Fn.tuple.v) (bltC K p.1 Fn.sum.v) (bltC K p.1 Fn.min.v) (bltC K p.1 Fn.sorted.v) (bltC K p.1 Fn.isinst.v) (bltC K p.1 Fn.iter.v) (bltC K p.1 Fn.set.v) (bltC K p.1 Fn.bool.v) (bltC K p.1 Fn.str.v)
 (fun a=>glbC K p.1 a) (fun C f=>glbC K p.1 C&&(makesIn K C&&mkC K C f)) (fun C f=>glbC K p.1 C&&(makesIn K C&&(mkC K C f&&C==40))) (fun C f=>glbC K p.1 C&&(mkAIn K C&&(mkC K C f&&C==CA)))
theorem TO {K:Frag} {x:Str} {v:Value} (h:bltC K x v=true):An3 (nsIn K mainGlobals x=some none) (bootBuiltins x=some v) (x ≠ "__name__"):=by
 unfold bltC at h
 rw [AF,AF] at h
 obtain ⟨⟨a,b⟩,c⟩:=h
 exact ⟨beq_iff_eq.mp a,beq_iff_eq.mp b,fun q=>by rw [q] at c; exact ff c⟩
theorem N5 {K:Frag} {x:Str} {a:Addr} (h:glbC K x a=true):nsIn K mainGlobals x=some (some (.ref a))∧keepIn K (.ref a)=true:=by
 unfold glbC at h
 rw [AF,beq_iff_eq] at h; exact h
theorem Rh {K:Frag} {C f:Addr} (h:mkC K C f=true):findIn K (.ref C) "__init__" = some (some (.ref f))∧typeIn K (.ref f)=some (.type "function"):=by
 unfold mkC at h
 rw [AF,beq_iff_eq,beq_iff_eq] at h; exact h
theorem UC:fnTab.all (fnChk (KB B))=true:=by kernel_rfl
noncomputable def valV (I:Int->Bool) (S:Str->Bool) (v:Value):Bool:=@Value.casesOn (fun _=>Bool) v false false false (fun _=>false) (fun i _=>I i) (fun _ _=>false) (fun x _=>S x) (fun _ _=>false) (fun _=>false) (fun _=>false) (fun _=>false)
theorem M3 {I:Int->Bool} {S:Str->Bool} {v:Value} (h:valV I S v=true):(Ex2 fun i t=>v=.int i t∧I i=true)∨Ex2 fun x t=>v=.str x t∧S x=true :=
 @Value.casesOn (fun v=>valV I S v=true->(Ex2 fun i t=>v=.int i t∧I i=true)∨Ex2 fun x t=>v=.str x t∧S x=true) v (fun h=>ff h) (fun h=>ff h) (fun h=>ff h) (fun _ h=>ff h) (fun i t h=>.inl ⟨i,t,rfl,h⟩) (fun _ _ h=>ff h) (fun i t h=>.inr ⟨i,t,rfl,h⟩) (fun _ _ h=>ff h) (fun _ h=>ff h) (fun _ h=>ff h) (fun _ h=>ff h) h
noncomputable def valO (I:Int->Bool) (S:Str->Bool) (o:Option (Option Value)):Bool:=(o.bind id).any (valV I S)
theorem PM {I:Int->Bool} {S:Str->Bool} {o:Option (Option Value)} (h:valO I S o=true):∃ v,o=some (some v)∧valV I S v=true:=by
 cases o with
 | none=>exact ff h
 | some o=>cases o with
  | none=>exact ff h
  | some v=>exact ⟨v,rfl,h⟩
noncomputable def intV (o:Option (Option Value)) (j:Int):Bool:=valO (· ==j) (fun _=>false) o
theorem Qm {o:Option (Option Value)} {j:Int} (h:intV o j=true):∃ t,o=some (some (.int j t)):=by
 obtain ⟨v,rfl,h⟩:=PM h
 rcases M3 h with ⟨i,t,rfl,h⟩ | ⟨_,_,_,h⟩
 ·exact ⟨t,by rw [beq_iff_eq.mp h]⟩
 ·exact ff h
noncomputable def strV (o:Option (Option Value)) (l:Str):Bool:=valO (fun _=>false) (· ==l) o
theorem S7 {o:Option (Option Value)} {j:Str} (h:strV o j=true):∃ t,o=some (some (.str j t)):=by
 obtain ⟨v,rfl,h⟩:=PM h
 rcases M3 h with ⟨_,_,_,h⟩ | ⟨i,t,rfl,h⟩
 ·exact ff h
 ·exact ⟨t,by rw [beq_iff_eq.mp h]⟩
theorem OL:∃ t,nsIn (KB B) mainGlobals "_NODE_OUT" = some (some (.int (-1) t)):=Qm (by kernel_rfl)
theorem MV:∃ t,nsIn (KB B) mainGlobals "_NODE_DONE" = some (some (.int (-2) t)):=Qm (by kernel_rfl)
theorem Qr:∃ t,nsIn (KB B) mainGlobals "EMPTYSTRING" = some (some (.str (S []) t)):=S7 (by kernel_rfl)
theorem PN:nsIn (KB B) mainGlobals "tuple" = some none∧bootBuiltins "tuple" = some (.type "tuple"):=⟨by kernel_rfl,by kernel_rfl⟩
theorem MF:nsIn (KB B) mainGlobals "reversed" = some none:=by kernel_rfl
theorem Up:nsIn (KB B) mainGlobals "StopIteration" = some none∧bootBuiltins "StopIteration" = some (.type "StopIteration"):=⟨by kernel_rfl,by kernel_rfl⟩
end
end
section
open Builtin Builtin.Str
section
variable {B:Bx} {c:Cx} {σ:St}
theorem ltB {n:Nat} (h:n≤big):n<2 ^ 60:=Ag h (by decide)
theorem le30 {n:Nat} (h:n≤big):n≤2 ^ 30:=Ab h (by decide)
theorem Qn {v k:AV} {Q:PA} (h:getP v k σ Q):WB (gg B) c VR getItem v k σ Q∧NoPyAt (gg B) v σ :=
 I3 (M:=fun v=>WB (gg B) c VR getItem v k σ Q∧NoPyAt (gg B) v σ) h no
  (fun x h=>⟨by
   rw [← Jq x]
   exact Ub (M:=fun k=>WB (gg B) c VR getItem (.str (S (cp x))) k σ Q) h.2 (fun i e=>by
     rcases e with ⟨h0,ch,hx,q⟩ | ⟨rfl,ch,hx,q⟩
     ·exact WB.itemS h0 h.1 hx q
     ·exact WB.itemSneg h.1 hx q)
    (fun a b d e=>by obtain ⟨m,rfl,rfl,rfl,q⟩:=e; exact WB.strTo h.1 q),.str⟩)
  (fun xs h=>by obtain ⟨i,rfl,h0,h1,x,hx,q⟩:=Ib h; exact ⟨WB.itemT h0 h1 hx q,.tup⟩)
  (fun xs h=>Ub (M:=fun k=>WB (gg B) c VR getItem (.lst xs) k σ Q∧NoPyAt (gg B) (.lst xs) σ) h (fun i h=>by obtain ⟨x,hx,q⟩:=h; exact Nv (.inl rfl) hx q)
   (fun a b d h=>⟨WB.sliceL (.inl rfl) h.1 h.2.1 h.2.2,.lst⟩))
  (fun l h=>Ub (M:=fun k=>WB (gg B) c VR getItem (.ref l) k σ Q∧NoPyAt (gg B) (.ref l) σ) h (fun i h=>by
    rcases h with ⟨xs,x,hl,hx,q⟩ | ⟨es,ep,x,hl,hx,q⟩ | ⟨xs,d,x,hl,h0,hz,hx,q⟩
    ·exact Nv (.inr ⟨l,rfl,hl⟩) hx q
    ·exact ⟨WB.itemD hl hx q,.dict hl⟩
    ·exact ⟨WB.itemA hl (J8 B) h0 (ltB hz) hx q,.acc hl (J8 B)⟩)
   (fun a b d h=>by
    obtain ⟨h0,⟨xs,hl,hz,q⟩ | ⟨xs,d,hl,hz,q⟩⟩:=h
    ·exact ⟨WB.sliceL (.inr ⟨l,rfl,hl⟩) h0 hz q,.list (.inr ⟨l,rfl,hl⟩)⟩
    ·exact ⟨WB.sliceA hl (J8 B) h0 hz q,.acc hl (J8 B)⟩))
theorem PZ {o k v:AV} {Q:St->Prop} (h:putP o k v σ Q):WSet (gg B) c o k v σ Q:=by
 obtain ⟨l,rfl,g⟩:=IY h
 exact Ub (M:=fun k=>WSet (gg B) c (.ref l) k v σ Q) g (fun i h=>by
   rcases h with ⟨xs,hl,h0,h1,hz,q⟩ | ⟨es,ep,hl,hz,q⟩
   ·exact WSet.list hl h0 h1 (ltB hz) q
   ·exact WSet.dict hl hz q)
  (fun lo hi st h=>by
   obtain ⟨xs,ys,d,a,b,rfl,hl,hv,hz,hab,hb,hbd,q⟩:=h
   exact WSet.accSl hl (J8 B) hv hz hab hb hbd q)
theorem TT {n:At} (hk:n.kd=.acc):n=.isize:=by cases n<;>first | rfl | contradiction
theorem TS {n:At} {o:AV} {Q:PA} (h:atP n o σ Q):WU (gg B) c VR (getA n.nm) o σ Q:=by
 obtain ⟨l,rfl,g⟩:=IY h
 cases hk:n.kd with
 | inst C =>
  rw [hk] at g
  obtain ⟨d,es,x,hl,hd,hi,hx,q⟩:=g
  exact WU.inst hl hd hi (Sr B n hk).1 (Sr B n hk).2 hx q
 | acc =>
  rw [hk] at g
  obtain ⟨xs,d,es,x,hl,hd,hi,hx,q⟩:=g
  obtain rfl:=TT hk
  exact WU.acc hl hd hi (IA B) (Oi B) hx q
 | slot p =>
  rw [hk] at g
  obtain ⟨xs,x,hl,hi,hx,q⟩:=g
  exact WU.slot hl hi (SW B n hk) hx q
theorem PU {n:At} {o v:AV} {Q:St->Prop} (h:setP n o v σ Q):WSA (gg B) c o n.nm v σ Q:=by
 obtain ⟨l,rfl,g⟩:=IY h
 cases hk:n.kd with
 | inst C =>
  rw [hk] at g
  obtain ⟨d,es,hl,hd,hz,⟨x,hi,q⟩ | ⟨hi,q⟩⟩:=g
  ·exact WSA.upd hl hd hi (Sr B n hk).1 (Sr B n hk).2 hz q
  ·exact WSA.new hl hd hi (Sr B n hk).1 (Sr B n hk).2 hz q
 | acc =>
  rw [hk] at g
  obtain rfl:=TT hk
  obtain ⟨xs,d,es,hl,hd,hz,⟨x,hi,q⟩ | ⟨hi,q⟩⟩:=g
  ·exact WSA.accUpd hl hd hi (IA B) (Oi B) hz q
  ·exact WSA.accNew hl hd hi (IA B) (Oi B) hz q
 | slot p =>
  rw [hk] at g
  obtain ⟨xs,hl,q⟩:=g
  exact WSA.slot hl (SW B n hk) q
variable {k:Nat}
theorem Ln {v:AV} {Q:PB} (hk:k≤c.k) (hh:c.hd=false) (h:truP B k v σ Q):WU (gg B) c BR truthy v σ Q :=
 @AV.casesOn (fun v=>truP B k v σ Q->WU (gg B) c BR truthy v σ Q) v (fun w h=>QO (M:=fun w=>WU (gg B) c BR truthy (.rig w) σ Q) h (fun h=>WU.tNone h) (fun _ h=>WU.tBool h) no) no
  (fun x h=>by rw [← Jq x]; exact WU.tStr (le30 h.1) h.2) no (fun xs h=>WU.tList (.inl rfl) (ltB h.1) h.2) (fun _ _ _ h=>h.elim) (fun _ _ _ h=>h.elim) no (fun _ _ h=>h.elim)
  (fun l h=>by
   rcases h with ⟨xs,hl,hz,q⟩ | ⟨xs,d,k',hl,hk',w⟩
   ·exact WU.tList (.inr ⟨l,rfl,hl⟩) (ltB hz) q
   ·exact WU.tAcc hl (Jp B).2.2 (Jp B).1 (Jp B).2.1 (Ab hk' hk) hh w) h
theorem NM {f:Addr} {vs:List AV} {Q:PA} (hk:k≤c.k) (hh:c.hd=false) (h:callU B k f vs σ Q):WV (gg B) c (.rig (.ref f)) vs σ Q:=by
 obtain ⟨k',h1,w⟩:=h
 exact WV.of (Ab h1 hk) hh w
theorem Se {v:AV} {Q:PA} (hk:k≤c.k) (hh:c.hd=false) (h:callP B k .len [v] σ Q):WV (gg B) c (.rig (.builtin "len")) [v] σ Q :=
 I3 (M:=fun v=>WV (gg B) c (.rig (.builtin "len")) [v] σ Q) h no (fun x h=>by rw [← Jq x]; exact WV.lenS (le30 h.1) h.2) (fun xs h=>WV.lenT h.1 h.2) (fun xs h=>WV.lenL (.inl rfl) (ltB h.1) h.2) (fun l h=>by
  rcases h with ⟨xs,hl,hz,q⟩ | ⟨xs,d,k',hl,hk',w⟩
  ·exact WV.lenL (.inr ⟨l,rfl,hl⟩) (ltB hz) q
  ·exact WV.lenA hl (Jp B).1 (Jp B).2.1 (Ab hk' hk) hh w)
theorem NN {vs:List AV} {Q:PA} (h:rngP σ Q vs):WV (gg B) c (.rig (.type "range")) vs σ Q:=by
 cases vs with
 | nil=>exact h.elim
 | cons a r =>
  obtain ⟨x,rfl,g⟩:=Ib h
  cases r with
  | nil=>exact WV.range1 g
  | cons b r =>
   obtain ⟨y,rfl,i⟩:=Ib g
   cases r with
   | nil=>exact WV.range2 i
   | cons d r =>
    cases r with
    | nil=>obtain ⟨z,rfl,k⟩:=Ib i; exact WV.range3 k.1 k.2.1 k.2.2
    | cons _ _=>exact i.elim
theorem Sb {x:Str} {f:Fn} {vs:List AV} {Q:PA} (hk:k≤c.k) (hh:c.hd=false) (hf:fnChk (KB B) (x,f)=true) (h:callP B k f vs σ Q):WV (gg B) c (.rig f.v) vs σ Q:=by
 replace hf:=(BS.mp hf).2
 cases f with
 | len=>obtain ⟨v,rfl,g⟩:=Np h; exact Se hk hh g
 | range=>exact NN h
 | list=>obtain ⟨v,rfl,xs,h1,h2,q⟩:=Np h; exact WV.listL h1 h2 q
 | tuple=>obtain ⟨v,rfl,xs,h1,h2,q⟩:=Np h; exact WV.tupleL h1 h2 q
 | sum=>obtain ⟨v,rfl,xs,h1,q⟩:=Np h; exact WV.sumL hh h1 q
 | min =>
  rcases Rw h with ⟨v,rfl,xs,h1,h2,q⟩ | ⟨a,b,rfl,h⟩
  ·exact WV.minL hh h1 h2 q
  ·obtain ⟨x,y,rfl,rfl,h⟩:=HQ h; exact WV.min2 hh h
 | sorted=>obtain ⟨v,rfl,xs,h1,h2,q⟩:=Np h; exact WV.sorted h1 h2 q
 | isinst =>
  obtain ⟨a,b,rfl,g⟩:=Rv h
  obtain ⟨xs,rfl,i⟩:=Tf g
  obtain ⟨t,rfl,rfl,q⟩:=Uj i
  exact WV.isTuple q
 | iter =>
  obtain ⟨v,rfl,g⟩:=Np h
  obtain ⟨l,rfl,xs,li,h1,h2,q⟩:=IY g
  exact WV.iterL h1 h2 q
 | set =>
  cases vs with
  | nil=>obtain ⟨l,h1,q⟩:=h; exact WV.set0 h1 q
  | cons _ _=>exact h.elim
 | bool=>obtain ⟨v,rfl,xs,h1,h2,q⟩:=Np h; exact WV.boolL h1 (ltB h2) q
 | str =>
  obtain ⟨v,rfl,g⟩:=Np h
  obtain ⟨l,rfl,xs,d,k',h1,h2,q⟩:=IY g
  exact WV.strA h1 (Oh B).1 (Oh B).2 (Ab h2 hk) hh q
 | usr a=>exact NM hk hh h
 | mkI C fI =>
  obtain ⟨_,hf⟩:=bAn hf
  obtain ⟨f1,hf⟩:=bAn hf
  obtain ⟨f2,f3⟩:=Rh hf
  obtain ⟨l,d,k',h1,h2,ne,hk',w⟩:=h
  exact WV.make f1 f2 f3 h1 h2 ne (Ab hk' hk) hh w
 | mkS C fI =>
  obtain ⟨_,hf⟩:=bAn hf
  obtain ⟨f1,hf⟩:=bAn hf
  obtain ⟨f2,f3⟩:=Rh (bAn hf).1
  obtain ⟨l,k',h1,hk',w⟩:=h
  exact WV.makeS f1 f2 f3 h1 (Ab hk' hk) hh w
 | mkA C fI =>
  obtain ⟨_,hf⟩:=bAn hf
  obtain ⟨f1,hf⟩:=bAn hf
  obtain ⟨f2,f3⟩:=Rh (bAn hf).1
  obtain rfl:=beq_iff_eq.mp (bAn hf).2
  obtain ⟨v,rfl,l,d,k',h1,h2,ne,hk',w⟩:=Np h
  exact WV.makeA f1 f2 f3 h1 h2 ne (Ab hk' hk) hh w
theorem TB {x:Str} {f:Fn} (hf:fnChk (KB B) (x,f)=true):Kpr (gg B) (.rig f.v):=by
 replace hf:=(BS.mp hf).2
 cases f with
 | len | sum | min | sorted | isinst | iter=>exact .builtin
 | range | list | tuple | set | bool | str=>exact .type
 | usr a=>exact .glob (N5 hf).2
 | _=>exact .glob (N5 (bAn hf).1).2
theorem LL {x:Str} {a:Addr} {pos:Pos} {Q:PA} (h:glbC (KB B) x a=true) (hx:c.env.kindOf x=some .globalImplicit) (hd:(x==("__debug__" : Str))=false) (q:Q (.rig (.ref a)) σ):WE (gg B) c (.Name x pos) σ Q:=WE.glob (N5 h).1 (fun η=>.rig _) q hx hd
theorem TC {x:Str} {v:Value} {pos:Pos} {Q:PA} (h:bltC (KB B) x v=true) (hx:c.env.kindOf x=some .globalImplicit) (hd:(x==("__debug__" : Str))=false) (q:Q (.rig v) σ):WE (gg B) c (.Name x pos) σ Q :=
 let ⟨a,b,n⟩:=TO h
 WE.bltn a b n q hx hd
theorem RK {x:Str} {f:Fn} {pos:Pos} {Q:PA} (hf:fnChk (KB B) (x,f)=true) (hx:c.env.kindOf x=some .globalImplicit) (q:Q (.rig f.v) σ):WE (gg B) c (.Name x pos) σ Q:=by
 obtain ⟨hd,hf⟩:=BS.mp hf
 have hd:=(Bz _).mp hd
 cases f with
 | usr a=>exact LL hf hx hd q
 | mkI C fI=>exact LL (bAn hf).1 hx hd q
 | mkS C fI=>exact LL (bAn hf).1 hx hd q
 | mkA C fI=>exact LL (bAn hf).1 hx hd q
 | _=>exact TC hf hx hd q
theorem umM {u:Um} {o:AV} (h:umP u o σ):WM (gg B) c o u.nm σ (.rig (.ref u.f)) [o]:=by
 unfold umP at h
 obtain ⟨hF,_,_⟩:=umK B u
 have hF1:=hF.fd
 unfold Um.cl at hF1
 cases hc:u.cls with
 | some C =>
  rw [hc] at h hF1
  obtain ⟨l,d,es,rfl,h1,h2,h3⟩:=h
  exact WM.inst h1 h2 (umC B u hc) hF1 hF.ty h3
 | none =>
  rw [hc] at h hF1
  obtain ⟨l,xs,d,es,rfl,h1,h2,h3⟩:=h
  exact WM.acc h1 h2 (IA B) hF1 (.inl hF.ty) h3
theorem umBm {u:Um} {o:AV} {Q:PA} (h:umP u o σ) (q:∀ l,o=.ref l->Q (.bm u.f l) σ):WU (gg B) c VR (getA u.nm) o σ Q:=by
 unfold umP at h
 obtain ⟨hF,_,_⟩:=umK B u
 unfold Um.cl at hF
 cases hc:u.cls with
 | some C =>
  rw [hc] at h hF
  obtain ⟨l,d,es,rfl,h1,h2,h3⟩:=h
  exact WU.bm h1 h2 (umC B u hc) hF h3 (q l rfl)
 | none =>
  rw [hc] at h hF
  obtain ⟨l,xs,d,es,rfl,h1,h2,h3⟩:=h
  exact WU.bmA h1 h2 (IA B) hF h3 (q l rfl)
theorem mt_s {m:Mt} {o:AV} (hk:k≤c.k) (hh:c.hd=false) (h:mtP m o σ):∃ f,An3 (WM (gg B) c o m.nm σ f [o]) (Kpr (gg B) f) (∀ vs σ2 (Q:PA),mcallP B k m (o::vs) σ2 Q->WV (gg B) c f (o::vs) σ2 Q):=by
 cases m with
 | lappend =>
  refine ⟨.rig (.builtin "list.append"),?_,.builtin,fun vs σ2 Q q=>?_⟩
  ·rcases h with ⟨xs,h⟩ | ⟨l,xs,d,es,rfl,h1,h2,h3⟩
   ·exact .append h
   ·exact WM.acc h1 h2 (IA B) (On B).1 (.inr (On B).2) h3
  ·obtain ⟨_,x,e,g⟩:=Rv q
   obtain ⟨l,rfl,⟨xs,h1,h2,q⟩ | ⟨xs,d,h1,h2,q⟩⟩:=IY g
   ·rw [e]; exact WV.append h1 h2 q
   ·rw [e]; exact WV.appendA h1 (J8 B).li h2 q
 | lpop =>
  obtain ⟨xs,h⟩:=h
  refine ⟨.rig (.builtin "list.pop"),.pop h,.builtin,fun vs σ2 Q q=>?_⟩
  generalize o::vs=ws at q ⊢
  rcases Rw q with ⟨_,e,g⟩ | ⟨_,_,e,g⟩
  ·obtain ⟨l,rfl,xs,x,h1,h2,h3,q⟩:=IY g
   rw [e]; exact WV.pop h1 h2 h3 q
  ·obtain ⟨l,rfl,i⟩:=IY g
   obtain ⟨_,rfl,xs,x,h1,h2,h3,h4,q⟩:=Ib i
   rw [e]; exact WV.popAt h1 h2 h3 h4 q
 | lclear =>
  obtain ⟨xs,h⟩:=h
  refine ⟨.rig (.builtin "list.clear"),.clear h,.builtin,fun vs σ2 Q q=>?_⟩
  generalize o::vs=ws at q ⊢
  obtain ⟨_,e,g⟩:=Np q
  obtain ⟨l,rfl,xs,h1,h2,q⟩:=IY g
  rw [e]; exact WV.clear h1 h2 q
 | dget =>
  obtain ⟨l,es,ep,rfl,h⟩:=h
  refine ⟨.rig (.builtin "dict.get"),.dict h F.slot_dict_get F.type_dict_get,.builtin,fun vs σ2 Q q=>?_⟩
  obtain ⟨_,_,e,g⟩:=Rv q
  obtain ⟨l,rfl,i⟩:=IY g
  obtain ⟨_,rfl,es,ep,h1,q⟩:=Ib i
  rw [e]; exact WV.getD h1 q
 | sadd =>
  obtain ⟨l,T,n,rfl,h1,h2⟩:=h
  refine ⟨.rig (.builtin "set.add"),.setAdd h1 h2,.builtin,fun vs σ2 Q q=>?_⟩
  obtain ⟨_,_,e,g⟩:=Rv q
  obtain ⟨l,rfl,i⟩:=IY g
  obtain ⟨_,rfl,T,n,h1,h2,q⟩:=Ib i
  rw [e]; exact WV.setAdd h1 h2 q
 | isspace =>
  obtain ⟨x,rfl,_⟩:=ID h
  refine ⟨.rig (.builtin "str.isspace"),by rw [← Jq x]; exact .isspace,.builtin,fun vs σ2 Q q=>?_⟩
  generalize AV.str x::vs=ws at q ⊢
  obtain ⟨_,e,g⟩:=Np q
  obtain ⟨x,rfl,i⟩:=ID g
  rw [e,← Jq x]; exact WV.isspace i
 | index =>
  obtain ⟨x,rfl,_⟩:=ID h
  refine ⟨.rig (.builtin "str.index"),by rw [← Jq x]; exact .index,.builtin,fun vs σ2 Q q=>?_⟩
  obtain ⟨_,_,e,g⟩:=Rv q
  obtain ⟨x,rfl,i⟩:=ID g
  obtain ⟨y,rfl,i,rest,h1,q⟩:=ID i
  rw [e,← Jq x,← Jq y]; exact WV.index h1 q
 | join =>
  obtain ⟨x,rfl,_⟩:=ID h
  refine ⟨.rig (.builtin "str.join"),by rw [← Jq x]; exact .join,.builtin,fun vs σ2 Q q=>?_⟩
  obtain ⟨_,v,e,g⟩:=Rv q
  obtain ⟨x,rfl,e2,xs,h1,h2,q⟩:=ID g
  rw [e,← Jq x,e2]
  rcases h1 with h1 | rfl
  ·exact WV.joinL h1 h2 q
  ·exact WV.joinT h2 q
 | um u=>exact ⟨.rig (.ref u.f),umM h,.glob (umK B u).2.2,fun vs σ2 Q q=>NM hk hh q⟩
theorem U8 {v:AV} {K:List AV->(Hp->Prop)->St->Prop} (h:itP v σ K):Ex2 fun xs kp=>An3 (Itb (gg B) v xs (fun σ=>kp σ.H)) (kp σ.H) (K xs kp σ) :=
 @AV.casesOn (fun v=>itP v σ K->Ex2 fun xs kp=>An3 (Itb (gg B) v xs (fun σ=>kp σ.H)) (kp σ.H) (K xs kp σ)) v no no (fun x h=>⟨_,_,by have:=Itb.str (G:=gg B) (a:=cp x); rw [Jq] at this; exact this,trivial,h⟩) (fun xs h=>⟨_,_,.tup,trivial,h⟩) (fun xs h=>⟨_,_,.lst,trivial,h⟩)
  (fun a b d h=>⟨_,_,.rng h.1,trivial,h.2⟩) (fun _ _ _ h=>h.elim) no (fun _ _ h=>h.elim) (fun l h=>by
   rcases h with ⟨xs,h1,q⟩ | ⟨es,ep,h1,q⟩
   ·exact ⟨_,_,.ref,h1,q⟩
   ·exact ⟨_,_,.dict,h1,q⟩) h
end
end
section
open Builtin Builtin.Str
structure CDok (k:Nat) (D:CD) (c:Cx):Prop where
 ns:c.ns=D.ns
 kg:∀ x,D.sc.lookup x=some .globalImplicit->c.env.kindOf x=some .globalImplicit
 hh:c.hd=false
 hk:k≤c.k
theorem CD.ix_some {D:CD} {x:Str} {i:Nat} (h:D.ix x=some i):∃ b,D.ns[i]?=some (x,b):=by
 unfold CD.ix at h
 obtain ⟨hl,hp,_⟩:=D0.mp h
 refine ⟨(D.ns[i]).2,?_⟩
 rw [Ac hl]
 congr 1
 exact Prod.ext (beq_iff_eq.mp hp) rfl
theorem CD.is_some {k:Nat} {D:CD} {c:Cx} (ok:CDok k D c) {x:Str} {i:Nat} (h:D.is i x=true):∃ b,c.ns[i]?=some (x,b):=ok.ns▸CD.ix_some (of_decide_eq_true h)
theorem CD.gl_kg {k:Nat} {D:CD} {c:Cx} (ok:CDok k D c) {x:Str} (h:D.gl x=true):c.env.kindOf x=some .globalImplicit:=ok.kg x (of_decide_eq_true h)
theorem Pp (B:Bx) {x:Str} {f:Fn} (h:fnIs x f=true):fnChk (KB B) (x,f)=true:=AX.mp (UC B) _ (Pn h)
theorem Jr {b:Bool} (h:(!b)=true):b=false:=Bz b▸h
theorem U7 {scope:Scope} {env:Env} {x:Str} (h:scope.names.lookup x=some .globalImplicit):(relabel scope env).names.lookup x=some .globalImplicit:=by
 unfold relabel
 dsimp only
 generalize scope.names=names at h
 induction names with
 | nil=>cases h
 | cons p r ih =>
  obtain ⟨n,k⟩:=p
  rw [AM]
  dsimp only
  rw [Bd] at h
  cases hx:x==n with
  | true =>
   rw [hx] at h
   cases h
   rw [if_neg (by simp),Bd,hx]
  | false =>
   rw [hx] at h
   split<;>(rw [Bd,hx]; exact ih h)
theorem HD {o:Expr} {name:Str} {env:Env} {w:Sem Value} (h:plainBase o=true):attributeBase o name env w=w:=by
 have h:=Jr h
 revert h
 cases o with
 | Call g es kw p=>cases g with
  | Name x q=>cases es with
   | nil=>cases kw with
    | nil=>exact fun h=>ft h
    | cons=>exact fun _=>rfl
   | cons=>exact fun _=>rfl
  | _=>exact fun _=>rfl
 | _=>exact fun _=>rfl
theorem star1 {e:Expr} {es:List Expr} {env:Env} (h:isStar e=false):starEach (e::es) env=(false,eval e env)::starEach es env:=by
 revert h
 cases e with
 | Starred=>exact fun h=>ft h
 | _=>exact fun _=>rfl
theorem J0 {es:List Expr} {env:Env} {pos:Pos} (h:noStar es=true):(backTo pos (starEach es env)).any (·.1)=false:=by
 induction es with
 | nil=>rfl
 | cons e r ih =>
  obtain ⟨h1,h2⟩:=bAn h
  rw [star1 (Jr h1)]
  exact ih h2
theorem Me {es:List Expr} {env:Env} {pos:Pos} (h:noStar es=true):(backTo pos (starEach es env)).all (fun x=>!x.1)=true:=by
 induction es with
 | nil=>rfl
 | cons e r ih =>
  obtain ⟨h1,h2⟩:=bAn h
  rw [star1 (Jr h1)]
  exact ih h2
theorem fewS {es:List Expr} {env:Env} {pos:Pos} {n:Nat} {kw} (h:(backTo pos (starEach es env)).all (fun x=>!x.1)=false):methodCallForm n (backTo pos (starEach es env)) kw=false:=by
 unfold methodCallForm; rw [h]; rfl
theorem I0 {it:Expr} {env:Env} (h:noSetE it=true):∀ x,foldedSetIterable it env x=pure x:=fun x=>by
 revert h
 cases it with
 | Set=>exact fun h=>ff h
 | _=>exact fun _=>rfl
theorem WP.mono {G:Gb} {c:Cx} {e:Option Expr} {σ:St} {Q Q':Option Int->St->Prop} (h:WP G c e σ Q) (k:∀ v σ',Q v σ'->Q' v σ'):WP G c e σ Q':=fun η s R=>IM (h η s R) k
theorem WEs.mono {G:Gb} {c:Cx} {pos:Pos} {e:List Expr} {σ:St} {Q Q':List AV->St->Prop} (h:WEs G c pos e σ Q) (k:∀ v σ',Q v σ'->Q' v σ'):WEs G c pos e σ Q':=fun η s R=>IM (h η s R) k
theorem WI.mono {G:Gb} {c:Cx} {e:Expr} {σ:St} {K K':List AV->(St->Prop)->St->Prop} (h:WI G c e σ K) (k:∀ xs Kp σ',K xs Kp σ'->K' xs Kp σ'):WI G c e σ K':=fun η s R =>
 AC (h η s R) (fun _ _ hx=>AC hx (fun _ _ ⟨I,xs,Kp,It,σ1,η1,s1,h',tk,a1,a2,a3,a4,a5,a6,a7,a8,a9,a10,a11⟩=>⟨I,xs,Kp,It,σ1,η1,s1,h',tk,a1,a2,a3,a4,a5,a6,a7,a8,a9,a10,k _ _ _ a11⟩) fun _ _ x=>x) fun _ _ x=>x
noncomputable abbrev KI (K:List AV->(Hp->Prop)->St->Prop):List AV->(St->Prop)->St->Prop:=fun xs Kp σ1=>∃ kp:Hp->Prop,An3 (Kp=(fun σ=>kp σ.H)) (kp σ1.H) (K xs kp σ1)
noncomputable def Plain (e:Expr):Prop:=∀ t l env,swapsWith e t l env=pure false
inductive CI (B:Bx) (c:Cx) (elt:Expr) (gens:List Comprehension) (sc:Scope) (σ:St) (Q:PA):Prop where
 | mk (tgt it:Expr) (ifs:List Expr) (own cap:List Str) (js:List Nat) (e:gens=[⟨tgt,it,ifs,0⟩]) (h1:compOk sc own cap=true) (h2:js.map (c.ns[·]?)=cap.map (fun x=>some (x,true))) (h3:noSetE it=true)
  (h4:WI (gg B) c it σ fun xs Kp σ1=>xs.length≤2 ^ 20∧(∀ σ',σ'.H=σ1.H->Kp σ')∧∃ f:AV->Option AV,(∀ C,∀ x∈xs,Turn (gg B) (ccx c sc C own cap) tgt elt ifs own.length (js.map (lg σ1.loc)) σ1.H f x)∧NewL (xs.filterMap f) σ1 Q):CI B c elt gens sc σ Q
inductive Ue (B:Bx) (k:Nat) (x:X) (D:CD):Expr->Prop where
 | mk (elt:Expr) (gens:List Comprehension) (sc:Scope) (p:Pos) (h:∀ {c σ Q},CDok k D c->vE B k x σ Q->CI B c elt gens sc σ Q):Ue B k x D (.ListComp elt gens sc p)
structure Sn (B:Bx) (k:Nat) (x:X):Prop where
 e:∀ {D c σ e Q},CDok k D c->(chk x).e D e=true->vE B k x σ Q->WE (gg B) c e σ Q
 t:∀ {D c σ e Q},CDok k D c->(chk x).e D e=true->vT B k x σ Q->WT (gg B) c e σ Q
 i:∀ {D c σ e K},CDok k D c->(chk x).e D e=true->vI B k x σ K->WI (gg B) c e σ (KI K)
 l:∀ {D c σ es pos Q},CDok k D c->(chk x).l D es=true->vL B k x σ Q->WEs (gg B) c pos es σ Q
 p:∀ {D c σ o K},CDok k D c->(chk x).p D o=true->vP B k x σ K->WP (gg B) c o σ K
 b:∀ {D c σ op es pos Q},CDok k D c->(chk x).b D op es=true->vE B k x σ Q->WE (gg B) c (.BoolOp op es pos) σ Q
 a:∀ {D c σ op es Q},CDok k D c->(chk x).b D op es=true->vT B k x σ Q->WA (gg B) c op es σ Q
 s:∀ {D e σ Q},(chk x).e D e=true->vE B k x σ Q->Plain e∨Ue B k x D e
 n:(chk x).n=true->∀ {σ Q},vE B k x σ Q->Q .none σ
 tr:(chk x).t=true->∀ {σ Q},vT B k x σ Q->Q true σ
 l0:∀ {D σ Q},(chk x).l D []=true->vL B k x σ Q->Q [] σ
 l1:∀ {D c σ y p Q},CDok k D c->(chk x).l D [.Starred y p]=true->vL B k x σ Q->WE (gg B) c y σ fun v σ1=>∃ xs,An3 (isSeq σ1 v xs) (xs.length≤big) (Q xs σ1)
theorem WA.one {G:Gb} {c:Cx} {op:BoolOp} {e:Expr} {σ:St} {Q:PB} (h:WT G c e σ Q):WA G c op [e] σ Q:=by
 cases op with
 | And=>exact WA.and (WT.mono h fun b σ1 h1=>⟨fun e=>.andNil (e▸h1),fun e=>e▸h1⟩)
 | Or=>exact WA.or (WT.mono h fun b σ1 h1=>⟨fun e=>.orNil (e▸h1),fun e=>e▸h1⟩)
section
variable {B:Bx} {k:Nat}
theorem Sn.of {x:X} {f:CD->Expr->Bool} (hx:chk x=ckE f) (e:∀ {D c σ e Q},CDok k D c->f D e=true->vE B k x σ Q->WE (gg B) c e σ Q) (t:∀ {D c σ e Q},CDok k D c->f D e=true->vT B k x σ Q->WT (gg B) c e σ Q)
  (i:∀ {D c σ e K},CDok k D c->f D e=true->vI B k x σ K->WI (gg B) c e σ (KI K)) (s:∀ {D e σ Q},f D e=true->vE B k x σ Q->Plain e∨Ue B k x D e):Sn B k x where
 e ok h:=e ok (by rw [hx] at h; exact h)
 t ok h:=t ok (by rw [hx] at h; exact h)
 i ok h:=i ok (by rw [hx] at h; exact h)
 l ok h:=by rw [hx] at h; exact ff h
 p ok h:=by rw [hx] at h; exact ff h
 b {D c σ op es pos Q} ok h v:=by
  rw [hx] at h
  exact HY (R:=fun es=>WE (gg B) c (.BoolOp op es pos) σ Q) h fun y hy=>WE.bool1 (e ok hy v)
 a {D c σ op es Q} ok h v:=by
  rw [hx] at h
  exact HY (R:=fun es=>WA (gg B) c op es σ Q) h fun y hy=>WA.one (t ok hy v)
 s h v:=s (by rw [hx] at h; exact h) v
 n h:=by rw [hx] at h; exact ff h
 tr h:=by rw [hx] at h; exact ff h
 l0 h:=by rw [hx] at h; exact ff h
 l1 _ h:=by rw [hx] at h; exact ff h
theorem WI.ofV {c:Cx} {σ:St} {e:Expr} {K:List AV->(Hp->Prop)->St->Prop} (h:WE (gg B) c e σ fun v σ1=>itP v σ1 K):WI (gg B) c e σ (KI K) :=
 WI.of (WE.mono h fun v σ1 h1=>by
  obtain ⟨xs,kp,a1,a2,a3⟩:=U8 h1
  exact ⟨xs,_,a1,a2,kp,rfl,a2,a3⟩)
theorem WT.ofV {D:CD} {c:Cx} {σ:St} (ok:CDok k D c) {e:Expr} {Q:PB} (h:WE (gg B) c e σ fun v σ1=>truP B k v σ1 Q) (he:isTrue e c.env (eval e c.env)=(do let v ← eval e c.env; standAt e.pos; holding [v] (truthy v))):WT (gg B) c e σ Q :=
 WT.val (WE.mono h fun v σ1 h1=>Ln ok.hk ok.hh h1) he
end
end
section
open Builtin Builtin.Str
section
variable {B:Bx} {k:Nat} {x y z:X}
theorem Sn.ofL {f:CD->List Expr->Bool} {q:CD->Option Expr->Bool} (hx:chk x=ckL f q) (l:∀ {D c σ es pos Q},CDok k D c->(chk x).l D es=true->vL B k x σ Q->WEs (gg B) c pos es σ Q) (p:∀ {D c σ o K},CDok k D c->(chk x).p D o=true->vP B k x σ K->WP (gg B) c o σ K) (l0:∀ {D σ Q},(chk x).l D []=true->vL B k x σ Q->Q [] σ) (l1:∀ {D c σ y p Q},CDok k D c->(chk x).l D [.Starred y p]=true->vL B k x σ Q->WE (gg B) c y σ fun v σ1=>∃ xs,An3 (isSeq σ1 v xs) (xs.length≤big) (Q xs σ1)):Sn B k x where
 e _ h:=by rw [hx] at h; exact ff h
 t _ h:=by rw [hx] at h; exact ff h
 i _ h:=by rw [hx] at h; exact ff h
 l:=l
 p:=p
 b _ h:=by rw [hx] at h; exact ff h
 a _ h:=by rw [hx] at h; exact ff h
 s h _:=by rw [hx] at h; exact ff h
 n h:=by rw [hx] at h; exact ff h
 tr h:=by rw [hx] at h; exact ff h
 l0:=l0
 l1:=l1
theorem Sn.ofC {cst:Const->Bool} {g:Str->Bool} {tt nn:Bool} (hx:chk x=ckC cst g tt nn) (e1:∀ {c σ cc kk pos Q},cst cc=true->vE B k x σ Q->WE (gg B) c (.Constant cc kk pos) σ Q)
  (e2:∀ {c σ y pos Q},g y=true->c.env.kindOf y=some .globalImplicit->vE B k x σ Q->WE (gg B) c (.Name y pos) σ Q) (t1:∀ {σ Q},vT B k x σ Q->vE B k x σ fun v σ1=>truP B k v σ1 Q) (i0:∀ {σ K},vI B k x σ K->False)
  (hn:nn=true->∀ {σ Q},vE B k x σ Q->Q .none σ) (ht:tt=true->∀ {σ Q},vT B k x σ Q->Q true σ):Sn B k x:=by
 have el:∀ {D:CD} {e:Expr} {R:Expr->Prop},(chk x).e D e=true->(∀ cc kk p,cst cc=true->R (.Constant cc kk p))->(∀ y p,D.gl y=true->g y=true->R (.Name y p))->R e:=fun {D e R} h k1 k2=>by
  rw [hx] at h
  rcases Bm.mp h with h | h
  ·exact Qe (R:=R) h fun cc kk p h=>k1 cc kk p h
  ·exact Hj (R:=R) h fun y p h=>k2 y p (bAn h).1 (bAn h).2
 have E:∀ {D c σ e Q},CDok k D c->(chk x).e D e=true->vE B k x σ Q->WE (gg B) c e σ Q:=fun {D c σ e Q} ok h v=>el (R:=fun e=>WE (gg B) c e σ Q) h (fun cc kk p h=>e1 h v) fun y p g1 g2=>e2 g2 (CD.gl_kg ok g1) v
 have T:∀ {D c σ e Q},CDok k D c->(chk x).e D e=true->vT B k x σ Q->WT (gg B) c e σ Q:=fun {D c σ e Q} ok h v=>el (R:=fun e=>WT (gg B) c e σ Q) h (fun cc kk p h=>WT.ofV ok (e1 h (t1 v)) rfl) fun y p g1 g2=>WT.ofV ok (e2 g2 (CD.gl_kg ok g1) (t1 v)) rfl
 refine ⟨E,T,fun _ _ v=>(i0 v).elim,fun _ h=>by rw [hx] at h; exact ff h,fun _ h=>by rw [hx] at h; exact ff h,fun {D c σ op es pos Q} ok h v=>?_,fun {D c σ op es Q} ok h v=>?_,fun h _=>.inl (el (R:=Plain) h (fun _ _ _ _ _ _ _=>rfl) fun _ _ _ _ _ _ _=>rfl),fun h=>hn (by rw [hx] at h; exact h),fun h=>ht (by rw [hx] at h; exact h),fun h=>by rw [hx] at h; exact ff h,fun _ h=>by rw [hx] at h; exact ff h⟩
 ·rw [hx] at h
  exact HY (R:=fun es=>WE (gg B) c (.BoolOp op es pos) σ Q) h fun y hy=>WE.bool1 (E (D:=D) ok (by rw [hx]; exact hy) v)
 ·rw [hx] at h
  exact HY (R:=fun es=>WA (gg B) c op es σ Q) h fun y hy=>WA.one (T (D:=D) ok (by rw [hx]; exact hy) v)
theorem Qw {c:Cx} {σ:St} {i:Nat} {x:Str} {b:Bool} {pos:Pos} {Q:PA} (hb:c.ns[i]?=some (x,b)) (h:vE B k (.var i) σ Q):WE (gg B) c (.Name x pos) σ Q:=by
 have h:(match nth σ.loc i with | some v=>Q v σ | none=>False):=h
 cases hv:nth σ.loc i with
 | none=>rw [hv] at h; exact h.elim
 | some v=>rw [hv] at h; exact WE.name hb ((Kk _ _).symm.trans hv) h
theorem SH (i:Nat):Sn B k (.var i):=by
 have el:∀ {D:CD} {c:Cx} {e:Expr} {R:Expr->Prop},CDok k D c->(chk (.var i)).e D e=true->(∀ x p b,c.ns[i]?=some (x,b)->R (.Name x p))->R e:=fun {D c e R} ok h q=>Hj (R:=R) h fun x p h=>let ⟨b,hb⟩:=CD.is_some ok h; q x p b hb
 exact .of rfl (fun {D c σ e Q} ok h v=>el (R:=fun e=>WE (gg B) c e σ Q) ok h fun _ _ _ hb=>Qw hb v) (fun {D c σ e Q} ok h v=>el (R:=fun e=>WT (gg B) c e σ Q) ok h fun _ _ _ hb=>WT.ofV ok (Qw (k:=k) hb v) rfl)
  (fun {D c σ e K} ok h v=>el (R:=fun e=>WI (gg B) c e σ (KI K)) ok h fun _ _ _ hb=>WI.ofV (Qw (k:=k) hb v)) fun h _=>.inl (Hj (R:=Plain) h fun _ _ _ _ _ _=>rfl)
theorem SQ (i:Int):Sn B k (.int i):=.ofC rfl (fun h v=>by obtain rfl:=of_decide_eq_true h; exact WE.int v) (fun {c σ y pos Q} h kg v=>by
  rcases Bm.mp h with h | h
  ·obtain rfl:=of_decide_eq_true (bAn h).1; obtain rfl:=of_decide_eq_true (bAn h).2; obtain ⟨t,ht⟩:=OL B; exact WE.glob ht (fun η=>.int _ _) v kg (by decide +kernel)
  ·obtain rfl:=of_decide_eq_true (bAn h).1; obtain rfl:=of_decide_eq_true (bAn h).2; obtain ⟨t,ht⟩:=MV B; exact WE.glob ht (fun η=>.int _ _) v kg (by decide +kernel)) (fun v=>v.elim) (fun v=>v) (fun h=>ff h) fun h=>ff h
theorem Tj {R:Const->Prop} {K:Str->Bool} {c:Const} (h:oStr c K=true) (k:∀ x,K x=true->R (.str x)):R c:=by
 revert h
 cases c with
 | str x=>exact k x
 | _=>exact fun h=>ff h
theorem SK (l:List Nat):Sn B k (.str l):=.ofC rfl (fun {c σ cc kk pos Q} h v=>Tj (R:=fun cc=>WE (gg B) c (.Constant cc kk pos) σ Q) h fun x h=>by
  obtain rfl:=of_decide_eq_true h
  exact WE.str ((Jq x)▸v)) (fun h kg v=>by
  obtain rfl:=of_decide_eq_true (bAn h).1; obtain rfl:=of_decide_eq_true (bAn h).2; obtain ⟨t,ht⟩:=Qr B; exact WE.glob ht (fun η=>.str _ _) v kg (by decide +kernel)) (fun v=>v.elim) (fun v=>v) (fun h=>ff h) fun h=>ff h
theorem QA:Sn B k .none:=.ofC rfl (fun h v=>by obtain rfl:=of_decide_eq_true h; exact WE.none v) (fun h=>ff h) (fun v=>v.elim) (fun v=>v) (fun _=>fun v=>v) fun h=>ff h
theorem QI (b:Bool):Sn B k (.bool b):=.ofC rfl (fun h v=>by obtain rfl:=of_decide_eq_true h; exact WE.bool v) (fun h=>ff h) (fun v=>v) (fun v=>v) (fun h=>ff h) fun h=>by subst h; exact fun v=>v
theorem Uq (s:String):Sn B k (.ty s):=.ofC rfl (fun h=>ff h) (fun h kg v=>by
  obtain rfl:=of_decide_eq_true (bAn h).1; obtain rfl:=of_decide_eq_true (bAn h).2; exact WE.bltn (PN B).1 (PN B).2 (by decide +kernel) v kg (by decide +kernel)) (fun v=>v.elim) (fun v=>v) (fun h=>ff h) fun h=>ff h
theorem SU {o:Operator} (a:Sn B k x) (b:Sn B k y):Sn B k (.bin o x y):=by
 have E:∀ {D c σ e Q},CDok k D c->(chk (.bin o x y)).e D e=true->vE B k (.bin o x y) σ Q->WE (gg B) c e σ Q:=fun {D c σ e Q} ok h v=>Qg (R:=fun e=>WE (gg B) c e σ Q) h fun l o' r p h=>by
  obtain ⟨h1,h2,h3⟩:=Ju h
  obtain rfl:=of_decide_eq_true h1
  exact WE.binop (WE.mono (a.e ok h2 v) fun v σ1 w=>WE.mono (b.e ok h3 w) fun w σ2 z=>TP z)
 exact .of rfl E (fun _ _ v=>v.elim) (fun ok h v=>WI.ofV (E ok h v)) fun h _=>.inl (Qg (R:=Plain) h fun _ _ _ _ _ _ _ _=>rfl)
theorem WB.ofT {c:Cx} {σ:St} {o:CmpOp} {a b:AV} {Q:PA} (h:cmpP o a b σ fun t σ3=>Q (.bool t) σ3):WB (gg B) c VR (compareOp o) a b σ Q :=
 WB.mono (LQ h) fun v σ' ⟨t,e,q⟩=>e▸q
theorem SR {o:CmpOp} (a:Sn B k x) (b:Sn B k y):Sn B k (.cmp o x y):=by
 have el:∀ {D:CD} {e:Expr} {R:Expr->Prop},(chk (.cmp o x y)).e D e=true->(∀ l r p,(chk x).e D l=true->behindInMarks o r=false->(chk y).e D r=true->R (.Compare l [o] [r] p))->R e:=fun {D e R} h q=>L7 (R:=R) h fun l os rs p h=>by
  obtain ⟨h1,h2,h3⟩:=Ju h
  rw [of_decide_eq_true h1]
  exact HY (R:=fun rs=>R (.Compare l [o] rs p)) h3 fun r h=>q l r p h2 (Jr (bAn h).1) (bAn h).2
 exact .of rfl (fun {D c σ e Q} ok h v=>el (R:=fun e=>WE (gg B) c e σ Q) h fun l r p h1 hm h2=>WE.cmp (WE.mono (a.e ok h1 v) fun v σ1 w=>WE.mono (b.e ok h2 w) fun w σ2 z=>WB.ofT z) hm)
  (fun {D c σ e Q} ok h v=>el (R:=fun e=>WT (gg B) c e σ Q) h fun l r p h1 hm h2=>WT.cmp (WE.mono (a.e ok h1 v) fun v σ1 w=>WE.mono (b.e ok h2 w) fun w σ2 z=>LQ z) hm) (fun _ _ v=>v.elim) fun h _=>.inl (L7 (R:=Plain) h fun _ _ _ _ _ _ _ _=>rfl)
theorem O7 {o p:CmpOp} (a:Sn B k x) (b:Sn B k y) (d:Sn B k z):Sn B k (.chain o p x y z) :=
 .of rfl (fun _ _ v=>v.elim) (fun {D c σ e Q} ok h v=>L7 (R:=fun e=>WT (gg B) c e σ Q) h fun l os rs q h=>by
  obtain ⟨h1,h2,h3⟩:=Ju h
  rw [of_decide_eq_true h1]
  exact KE (R:=fun rs=>WT (gg B) c (.Compare l [o,p] rs q) σ Q) h3 fun r s h=>by
   obtain ⟨g1,g2,g3⟩:=Ju h
   exact WT.chain (WE.mono (a.e ok h2 v) fun v σ1 w1=>WE.mono (b.e ok g2 w1) fun w σ2 w2=>WB.mono (LQ w2) fun v' σ3 ⟨t,e,w3,w4⟩=>⟨t,e,w3,fun ht=>WE.mono (d.e ok g3 (w4 ht)) fun z σ4 w5=>LQ w5⟩) (Jr g1) rfl) (fun _ _ v=>v.elim)
  fun h _=>.inl (L7 (R:=Plain) h fun _ _ _ _ _ _ _ _=>rfl)
theorem SM (a:Sn B k x):Sn B k (.not x):=by
 have el:∀ {D:CD} {e:Expr} {R:Expr->Prop},(chk (.not x)).e D e=true->(∀ l p,(chk x).e D l=true->R (.UnaryOp .Not l p))->R e:=fun {D e R} h q=>Kj (R:=R) h fun u l p h=>by
  rw [of_decide_eq_true (bAn h).1]; exact q l p (bAn h).2
 exact .of rfl (fun {D c σ e Q} ok h v=>el (R:=fun e=>WE (gg B) c e σ Q) h fun l p h=>WE.una (WE.mono (a.e ok h v) fun v σ1 h1=>WU.not (Ln ok.hk ok.hh h1))) (fun {D c σ e Q} ok h v=>el (R:=fun e=>WT (gg B) c e σ Q) h fun l p h=>WT.not (a.t ok h v)) (fun _ _ v=>v.elim)
  fun h _=>.inl (Kj (R:=Plain) h fun _ _ _ _ _ _ _=>rfl)
theorem WU.negI {c:Cx} {σ:St} {a:AV} {Q:PA} (h:asInt a fun i=>Q (.int (-i)) σ):WU (gg B) c VR (unaryOp .USub) a σ Q:=by
 obtain ⟨x,rfl,q⟩:=NW h; exact WU.neg q
theorem SO (a:Sn B k x):Sn B k (.neg x) :=
 .of rfl (fun {D c σ e Q} ok h v=>Kj (R:=fun e=>WE (gg B) c e σ Q) h fun u l p h=>by
  rw [of_decide_eq_true (bAn h).1]; exact WE.una (WE.mono (a.e ok (bAn h).2 v) fun v σ1 h1=>WU.negI h1)) (fun _ _ v=>v.elim) (fun _ _ v=>v.elim) fun h _=>.inl (Kj (R:=Plain) h fun _ _ _ _ _ _ _=>rfl)
theorem ne_c {α:Type} {R:List α->Prop} {l:List α} (h:(!l.isEmpty)=true) (q:∀ x r,R (x::r)):R l:=by
 cases l with
 | nil=>exact ff h
 | cons x r=>exact q x r
theorem PT (o:BoolOp) (a:Sn B k x) (b:Sn B k y) (hz:chk z=ckB o (chk x) (chk y)) (e1:∀ {c σ Q e r s pos},vE B k z σ Q->(∀ {Q},vE B k x σ Q->WE (gg B) c e σ Q)->(∀ {σ Q},vE B k y σ Q->WE (gg B) c (.BoolOp o (r::s) pos) σ Q)->k≤c.k->c.hd=false->WE (gg B) c (.BoolOp o (e::r::s) pos) σ Q)
  (t1:∀ {c σ Q e r},vT B k z σ Q->(∀ {Q},vT B k x σ Q->WT (gg B) c e σ Q)->(∀ {σ Q},vT B k y σ Q->WA (gg B) c o r σ Q)->WA (gg B) c o (e::r) σ Q) (i0:∀ {σ K},vI B k z σ K->False):Sn B k z:=by
 have A:∀ {D c σ op es Q},CDok k D c->ckF o (chk x) (chk y) D op es=true->vT B k z σ Q->WA (gg B) c op es σ Q:=fun {D c σ op es Q} ok h v=>by
  rw [of_decide_eq_true (bAn h).1]
  exact IZ (R:=fun es=>WA (gg B) c o es σ Q) (bAn h).2 fun e r h=>t1 v (fun w=>a.t ok (bAn (bAn h).1).1 w) fun w=>b.a ok (bAn h).2 w
 have Bb:∀ {D c σ op es pos Q},CDok k D c->ckF o (chk x) (chk y) D op es=true->vE B k z σ Q->WE (gg B) c (.BoolOp op es pos) σ Q:=fun {D c σ op es pos Q} ok h v=>by
  rw [of_decide_eq_true (bAn h).1]
  refine IZ (R:=fun es=>WE (gg B) c (.BoolOp o es pos) σ Q) (bAn h).2 fun e r h=>?_
  have h2:=(bAn h).2
  revert h2
  exact ne_c (R:=fun r=>(chk y).b D o r=true->WE (gg B) c (.BoolOp o (e::r) pos) σ Q) (bAn (bAn h).1).2 fun r s h2=>e1 v (fun w=>a.e ok (bAn (bAn h).1).1 w) (fun w=>b.b ok h2 w) ok.hk ok.hh
 exact {
     e:=fun {D c σ e Q} ok h v=>by rw [hz] at h; exact Ja (R:=fun e=>WE (gg B) c e σ Q) h fun op es p h=>Bb (D:=D) ok h v
     t:=fun {D c σ e Q} ok h v=>by rw [hz] at h; exact Ja (R:=fun e=>WT (gg B) c e σ Q) h fun op es p h=>WT.boolop (A (D:=D) ok h v)
     i:=fun _ _ v=>(i0 v).elim
     l:=fun _ h=>by rw [hz] at h; exact ff h
     p:=fun _ h=>by rw [hz] at h; exact ff h
     b:=fun {D c σ op es pos Q} ok h v=>by
      rw [hz] at h
      exact (Bm.mp h).elim (fun h=>Bb ok h v) fun h=>HY (R:=fun es=>WE (gg B) c (.BoolOp op es pos) σ Q) h fun e h=>WE.bool1 (Ja (R:=fun e=>WE (gg B) c e σ Q) h fun op es p h=>Bb (D:=D) ok h v)
     a:=fun {D c σ op es Q} ok h v=>by
      rw [hz] at h
      exact (Bm.mp h).elim (fun h=>A ok h v) fun h=>HY (R:=fun es=>WA (gg B) c op es σ Q) h fun e h=>WA.one (Ja (R:=fun e=>WT (gg B) c e σ Q) h fun op es p h=>WT.boolop (A (D:=D) ok h v))
     s:=fun h _=>by rw [hz] at h; exact .inl (Ja (R:=Plain) h fun _ _ _ _ _ _ _=>rfl)
     n:=fun h=>by rw [hz] at h; exact ff h
     tr:=fun h=>by rw [hz] at h; exact ff h
     l0:=fun h=>by rw [hz] at h; exact ff h
     l1:=fun _ h=>by rw [hz] at h; exact ff h }
theorem SV (a:Sn B k x) (b:Sn B k y):Sn B k (.and x y):=PT .And a b rfl (fun v w1 w2 hk hh=>WE.and (WE.mono (w1 v) fun v σ1 h1=>WU.mono (Ln hk hh h1) fun b σ2 ⟨h2,h3⟩=>⟨h2,fun e=>w2 (h3 e)⟩))
 (fun v w1 w2=>WA.and (WT.mono (w1 v) fun b σ1 ⟨h1,h2⟩=>⟨fun e=>w2 (h1 e),h2⟩)) fun v=>v
theorem Ur (a:Sn B k x) (b:Sn B k y):Sn B k (.or x y):=PT .Or a b rfl (fun v w1 w2 hk hh=>WE.or (WE.mono (w1 v) fun v σ1 h1=>WU.mono (Ln hk hh h1) fun b σ2 ⟨h2,h3⟩=>⟨h2,fun e=>w2 (h3 e)⟩))
 (fun v w1 w2=>WA.or (WT.mono (w1 v) fun b σ1 ⟨h1,h2⟩=>⟨fun e=>w2 (h1 e),h2⟩)) fun v=>v
theorem SP (a:Sn B k x) (b:Sn B k y) (d:Sn B k z):Sn B k (.ite x y z) :=
 .of rfl (fun {D c σ e Q} ok h v=>Qd (R:=fun e=>WE (gg B) c e σ Q) h fun l r s p h=>by
  obtain ⟨h1,h2,h3⟩:=Ju h
  exact WE.ifexp (WT.mono (a.t ok h1 v) fun t σ1 ⟨w1,w2⟩=>⟨fun e=>b.e ok h2 (w1 e),fun e=>d.e ok h3 (w2 e)⟩)) (fun _ _ v=>v.elim) (fun _ _ v=>v.elim) fun h _=>.inl (Qd (R:=Plain) h fun _ _ _ _ _ _ _ _=>rfl)
theorem O5 {i:Nat} (a:Sn B k x):Sn B k (.named i x) :=
 .of rfl (fun {D c σ e Q} ok h v=>L6 (R:=fun e=>WE (gg B) c e σ Q) h fun t l p h=>Hj (R:=fun t=>WE (gg B) c (.NamedExpr t l p) σ Q) (bAn h).1 fun y q h1=>by
  obtain ⟨b,hb⟩:=CD.is_some ok h1
  exact WE.named (WE.mono (a.e ok (bAn h).2 v) fun v σ1 h1=>WG.name hb h1)) (fun _ _ v=>v.elim) (fun _ _ v=>v.elim) fun h _=>.inl (L6 (R:=Plain) h fun _ _ _ _ _ _ _=>rfl)
theorem S6 (i:Expr) (a b:Value):∃ l,subscripted i false a b=operate l (getItem a b):=by
 cases i with
 | Slice a b d=>cases d<;>exact ⟨_,rfl⟩
 | _=>exact ⟨_,rfl⟩
theorem SJ (a:Sn B k x) (b:Sn B k y):Sn B k (.sub x y):=by
 have E:∀ {D c σ e Q},CDok k D c->(chk (.sub x y)).e D e=true->vE B k (.sub x y) σ Q->WE (gg B) c e σ Q:=fun {D c σ e Q} ok h v=>I8 (R:=fun e=>WE (gg B) c e σ Q) h fun l r p h =>
  WE.subS (WE.mono (a.e ok (bAn h).1 v) fun v σ1 w=>WE.mono (b.e ok (bAn h).2 w) fun w σ2 z=>Qn z) (S6 r)
 exact .of rfl E (fun _ _ v=>v.elim) (fun ok h v=>WI.ofV (E ok h v)) fun h _=>.inl (I8 (R:=Plain) h fun _ _ _ _ _ _ _=>rfl)
theorem O4 (a:Sn B k x) (b:Sn B k y) (d:Sn B k z):Sn B k (.slice x y z) :=
 .of rfl (fun {D c σ e Q} ok h v=>L5 (R:=fun e=>WE (gg B) c e σ Q) h fun l r s p h=>by
  obtain ⟨h1,h2,h3⟩:=Ju h
  exact WE.slice (WP.mono (a.p ok h1 v) fun a σ1 w1=>WP.mono (b.p ok h2 w1) fun b σ2 w2=>d.p ok h3 w2)) (fun _ _ v=>v.elim) (fun _ _ v=>v.elim) fun h _=>.inl (L5 (R:=Plain) h fun _ _ _ _ _ _ _ _=>rfl)
theorem QJ {n:At} (a:Sn B k x):Sn B k (.attr n x):=by
 have el:∀ {D:CD} {e:Expr} {R:Expr->Prop},(chk (.attr n x)).e D e=true->(∀ o p,plainBase o=true->(chk x).e D o=true->R (.Attribute o n.nm p))->R e:=fun {D e R} h q=>HA (R:=R) h fun o m p h=>by
  obtain ⟨h1,h2,h3⟩:=Ju h
  rw [of_decide_eq_true h1]; exact q o p h2 h3
 have E:∀ {D:CD} {c:Cx} {σ:St} {o:Expr} {p:Pos} {Q:PA},CDok k D c->plainBase o=true->(chk x).e D o=true->vE B k (.attr n x) σ Q->WE (gg B) c (.Attribute o n.nm p) σ Q:=fun ok h1 h2 v=>WE.attr (WE.mono (a.e ok h2 v) fun v σ1 h1=>TS h1) (HD h1)
 exact .of rfl (fun {D c σ e Q} ok h v=>el (R:=fun e=>WE (gg B) c e σ Q) h fun o p h1 h2=>E ok h1 h2 v) (fun {D c σ e Q} ok h v=>el (R:=fun e=>WT (gg B) c e σ Q) h fun o p h1 h2=>WT.ofV ok (E ok h1 h2 v) rfl)
  (fun {D c σ e K} ok h v=>el (R:=fun e=>WI (gg B) c e σ (KI K)) h fun o p h1 h2=>WI.ofV (E ok h1 h2 v)) fun h _=>.inl (HA (R:=Plain) h fun _ _ _ _ _ _ _=>rfl)
theorem QB (a:Sn B k x):Sn B k (.next x) :=
 .of rfl (fun {D c σ e Q} ok h v=>HA (R:=fun e=>WE (gg B) c e σ Q) h fun o m p h=>by
  obtain ⟨h1,h2,h3⟩:=Ju h
  rw [of_decide_eq_true h1]
  exact WE.attr (WE.mono (a.e ok h3 v) fun v σ1 ⟨li,l,i,e,h1,h2⟩=>e▸WU.next h1 h2) (HD h2)) (fun _ _ v=>v.elim) (fun _ _ v=>v.elim) fun h _=>.inl (HA (R:=Plain) h fun _ _ _ _ _ _ _=>rfl)
theorem QH {f:Fn} (a:Sn B k x):Sn B k (.call f x):=by
 have E:∀ {D c σ e Q},CDok k D c->(chk (.call f x)).e D e=true->vE B k (.call f x) σ Q->WE (gg B) c e σ Q:=fun {D c σ e Q} ok h v=>Hx (R:=fun e=>WE (gg B) c e σ Q) h fun g es kw p h=>by
  obtain ⟨h1,h2,h3,h4⟩:=Su h
  refine HP (R:=fun kw=>WE (gg B) c (.Call g es kw p) σ Q) h1 (Hj (R:=fun g=>WE (gg B) c (.Call g es [] p) σ Q) h2 fun x p0 hx=>?_)
  have hf:=Pp B (bAn hx).2
  exact WE.call (RK hf (CD.gl_kg ok (bAn hx).1) ⟨TB hf,WEs.mono (a.l ok h4 v) fun vs σ1 h=>Sb ok.hk ok.hh hf h⟩) rfl (J0 h3)
 exact .of rfl E (fun {D c σ e Q} ok h v=>WT.ofV ok (E ok h v) (Hx (R:=fun e=>isTrue e c.env (eval e c.env)=(do let v ← eval e c.env; standAt e.pos; holding [v] (truthy v))) h fun _ _ _ _ _=>rfl)) (fun ok h v=>WI.ofV (E ok h v)) fun h _=>.inl (Hx (R:=Plain) h fun _ _ _ _ _ _ _ _=>rfl)
theorem QC {m:Mt} (o:Sn B k x) (a:Sn B k y):Sn B k (.meth m x y):=by
 have E:∀ {D c σ e Q},CDok k D c->(chk (.meth m x y)).e D e=true->vE B k (.meth m x y) σ Q->WE (gg B) c e σ Q:=fun {D c σ e Q} ok h v=>Hx (R:=fun e=>WE (gg B) c e σ Q) h fun g es kw p h=>by
  obtain ⟨h1,h2,h3,h4⟩:=Su h
  refine HP (R:=fun kw=>WE (gg B) c (.Call g es kw p) σ Q) h1 (HA (R:=fun g=>WE (gg B) c (.Call g es [] p) σ Q) h4 fun b n ap h=>?_)
  obtain ⟨g1,g2,g3⟩:=Ju (bAn h).1
  obtain ⟨g4,g5⟩:=bAn (bAn h).2
  rw [of_decide_eq_true g1]
  refine WE.meth (WE.mono (o.e ok g4 v) fun v σ1 ⟨w1,w2⟩=>?_) (HD g2) g3 h3 (J0 h2) (Me h2)
  obtain ⟨f,a1,a2,a3⟩:=mt_s ok.hk ok.hh w1
  exact ⟨f,[v],a1,a2,WEs.mono (a.l ok g5 w2) fun vs σ2 h=>a3 vs σ2 Q h⟩
 exact .of rfl E (fun {D c σ e Q} ok h v=>WT.ofV ok (E ok h v) (Hx (R:=fun e=>isTrue e c.env (eval e c.env)=(do let v ← eval e c.env; standAt e.pos; holding [v] (truthy v))) h fun _ _ _ _ _=>rfl)) (fun _ _ v=>v.elim) fun h _=>.inl (Hx (R:=Plain) h fun _ _ _ _ _ _ _ _=>rfl)
theorem QD (a:Sn B k x):Sn B k (.list x) :=
 .of rfl (fun {D c σ e Q} ok h v=>MO (R:=fun e=>WE (gg B) c e σ Q) h fun es p h=>WE.list (WEs.mono (a.l ok h v) fun vs σ1 h1=>⟨EN h1.1,h1.2⟩)) (fun _ _ v=>v.elim) (fun _ _ v=>v.elim) fun h _=>.inl (MO (R:=Plain) h fun _ _ _ _ _ _=>rfl)
theorem SI (a:Sn B k x):Sn B k (.tup x):=by
 have E:∀ {D c σ e Q},CDok k D c->(chk (.tup x)).e D e=true->vE B k (.tup x) σ Q->WE (gg B) c e σ Q:=fun {D c σ e Q} ok h v=>Jy (R:=fun e=>WE (gg B) c e σ Q) h fun es kk p h=>WE.tuple (WEs.mono (a.l ok h v) fun vs σ1 h1=>⟨EN h1.1,h1.2⟩)
 exact .of rfl E (fun _ _ v=>v.elim) (fun ok h v=>WI.ofV (E ok h v)) fun h _=>.inl (Jy (R:=Plain) h fun _ _ _ _ _ _ _=>rfl)
theorem QE:Sn B k .dict :=
 .of rfl (fun {D c σ e Q} ok h v=>MQ (R:=fun e=>WE (gg B) c e σ Q) h fun ks vs p h=>HP (R:=fun ks=>WE (gg B) c (.Dict ks vs p) σ Q) (bAn h).1 (HP (R:=fun vs=>WE (gg B) c (.Dict [] vs p) σ Q) (bAn h).2 (let ⟨l,h1,h2⟩:=v; WE.dict0 h1 h2))) (fun _ _ v=>v.elim) (fun _ _ v=>v.elim)
  fun h _=>.inl (MQ (R:=Plain) h fun _ _ _ _ _ _ _=>rfl)
theorem SL (a:Sn B k x):Sn B k (.rev x) :=
 .of rfl (fun _ _ v=>v.elim) (fun _ _ v=>v.elim) (fun {D c σ e K} ok h v=>Hx (R:=fun e=>WI (gg B) c e σ (KI K)) h fun g es kw p h=>by
  obtain ⟨h1,h2,h3⟩:=Ju h
  refine HP (R:=fun kw=>WI (gg B) c (.Call g es kw p) σ (KI K)) h1 (Hj (R:=fun g=>WI (gg B) c (.Call g es [] p) σ (KI K)) h2 fun x p0 hx=>HY (R:=fun es=>WI (gg B) c (.Call (.Name x p0) es [] p) σ (KI K)) h3 fun e h=>?_)
  have kg:=CD.gl_kg ok (bAn hx).1
  obtain rfl:=of_decide_eq_true (bAn hx).2
  have hs:=Jr (bAn h).1
  exact WI.revRange (WE.mono (a.e ok (bAn h).2 v) fun v σ1 ⟨n,a1,a2,a3⟩=>⟨n,a1,a2,_,rfl,trivial,a3⟩) (MF B) kg rfl (star1 hs) (by rw [star1 hs]; rfl)) fun h _=>.inl (Hx (R:=Plain) h fun _ _ _ _ _ _ _ _=>rfl)
theorem Q8 (a:Sn B k x):Sn B k (.vals x) :=
 .of rfl (fun _ _ v=>v.elim) (fun _ _ v=>v.elim) (fun {D c σ e K} ok h v=>Hx (R:=fun e=>WI (gg B) c e σ (KI K)) h fun g es kw p h=>by
  obtain ⟨h1,h2,h3⟩:=Ju h
  refine HP (R:=fun kw=>WI (gg B) c (.Call g es kw p) σ (KI K)) h1 (HP (R:=fun es=>WI (gg B) c (.Call g es [] p) σ (KI K)) h2 (HA (R:=fun g=>WI (gg B) c (.Call g [] [] p) σ (KI K)) h3 fun o m ap h=>?_))
  obtain ⟨g1,g2,g3,g4⟩:=Su h
  rw [of_decide_eq_true g1]
  obtain ⟨l,es,ep,v⟩:=v
  exact WI.values (WE.mono (a.e ok g4 v) fun v σ1 ⟨a1,a2,a3⟩=>⟨a1,a2,_,rfl,a2,a3⟩) (HD g2) g3) fun h _=>.inl (Hx (R:=Plain) h fun _ _ _ _ _ _ _ _=>rfl)
theorem SN:Sn B k .nil:=.ofL rfl (fun {D c σ es pos Q} ok h v=>HP (R:=fun es=>WEs (gg B) c pos es σ Q) h (WEs.nil v)) (fun {D c σ o K} ok h v=>MU (R:=fun o=>WP (gg B) c o σ K) h (.none v)) (fun _ v=>v) fun _ h=>ff h
theorem Q9 (a:Sn B k x) (b:Sn B k y):Sn B k (.star x y):=.ofL rfl (fun {D c σ es pos Q} ok h v=>IZ (R:=fun es=>WEs (gg B) c pos es σ Q) h fun e r h=>KP (R:=fun e=>WEs (gg B) c pos (e::r) σ Q) h fun e p h =>
  WEs.star (WE.mono (a.e ok (bAn h).1 v) fun v σ1 ⟨xs,h1,h2,h3⟩=>⟨xs,h1,h2,b.l ok (bAn h).2 h3⟩) rfl) (fun _ h=>ff h) (fun h=>ff h) fun {D c σ y p Q} ok h v=>WE.mono (a.e ok (bAn h).1 v) fun v σ1 ⟨xs,h1,h2,h3⟩=>⟨xs,h1,h2,(AL xs)▸b.l0 (bAn h).2 h3⟩
theorem QF (a:Sn B k x) (b:Sn B k y):Sn B k (.cons x y):=.ofL rfl (fun {D c σ es pos Q} ok h v=>IZ (R:=fun es=>WEs (gg B) c pos es σ Q) h fun e r h=>by
  obtain ⟨h1,h2,h3⟩:=Ju h
  exact WEs.cons (WE.mono (a.e ok h2 v) fun v σ1 h1=>b.l ok h3 h1) (star1 (Jr h1))) (fun {D c σ o K} ok h v=>by
  refine KQ (R:=fun o=>WP (gg B) c o σ K) (bAn h).2 fun e hq=>?_
  cases y with
  | nil=>exact .some (WE.mono (a.e ok hq v) fun v σ1 h1=>NW h1)
  | _=>exact v.elim) (fun h=>ff h) fun _ h=>ff h
theorem CDok.comp {D:CD} {c:Cx} (ok:CDok k D c) {sc:Scope} {own cap:List Str} {C:Addr}:CDok k ⟨own.map (·,false)++cap.map (·,true),sc.names⟩ (ccx c sc C own cap) :=
 ⟨rfl,fun x h=>U7 h,ok.hh,ok.hk⟩
noncomputable def compTurn (B:Bx) (k:Nat) (elt cond:X) (l0:List (Option AV)) (H:Hp) (y:Option AV):Prop:=vT B k cond ⟨l0,H⟩ fun ok σ3=>σ3=⟨l0,H⟩∧(ok=true->vE B k elt ⟨l0,H⟩ fun v σ4=>σ4=⟨l0,H⟩∧y=some v)∧(ok=false->y=none)
theorem MB {elt cond:X} (S1:Sn B k elt) (S2:Sn B k cond) {D:CD} {c2:Cx} (ok:CDok k D c2) {el:Expr} {ifs:List Expr} {m:Nat} {capv:List (Option AV)} {H:Hp} {f:AV->Option AV} {x:AV} {target:Expr} (l0:List (Option AV)) (hm:l0.length=m)
  (hel:(chk elt).e D el=true) (hif:((ifs.isEmpty&&(chk cond).t)||one ifs ((chk cond).e D))=true)
  (hg:∀ lo:List (Option AV),lo.length=m->∀ Q:St->Prop,Q ⟨l0++capv,H⟩->WG (gg B) c2 target x ⟨lo++capv,H⟩ Q) (h:compTurn B k elt cond (l0++capv) H (f x)):Turn (gg B) c2 target el ifs m capv H f x:=fun lo hlo=>by
 refine hg lo hlo _ ?_
 have T:∀ {Q:PB},vT B k cond ⟨l0++capv,H⟩ Q->WTs (gg B) c2 ifs ⟨l0++capv,H⟩ Q:=fun {Q} v=>by
  rcases Bm.mp hif with h | h
  ·exact HP (R:=fun ifs=>WTs (gg B) c2 ifs ⟨l0++capv,H⟩ Q) (bAn h).1 (.nil (S2.tr (bAn h).2 v))
  ·exact HY (R:=fun ifs=>WTs (gg B) c2 ifs ⟨l0++capv,H⟩ Q) h fun e h=>.one (S2.t ok h v)
 exact fun η s R=>IM (T h η s R) fun b σ' ⟨e,h1,h2⟩=>by
  subst e
  exact ⟨fun e=>WE.mono (S1.e ok hel (h1 e)) fun v σ4 ⟨e4,e5⟩=>by subst e4; exact ⟨e5,rfl,l0,hm,rfl⟩,fun e=>⟨h2 e,rfl,l0,hm,rfl⟩⟩
theorem len2 {α:Type} {l:List α} (h:l.length=2):∃ a b,l=[a,b]:=by
 cases l with
 | nil=>cases h
 | cons a l =>
  obtain ⟨b,rfl⟩:=Gu.mp (Nat.succ.inj h)
  exact ⟨a,b,rfl⟩
noncomputable def TgtP (B:Bx) (c2:Cx) (m:Nat) (x:AV) (l0:List (Option AV)) (tgt:Expr):Prop:=l0.length=m∧∀ (capv:List (Option AV)) (H:Hp) (lo:List (Option AV)),lo.length=m->∀ Q:St->Prop,Q ⟨l0++capv,H⟩->WG (gg B) c2 tgt x ⟨lo++capv,H⟩ Q
theorem tgt1 {c2:Cx} {tgt:Expr} {own:List Str} {x:AV} {r:List (Str×Bool)} (h:tgNames false tgt own=true) (hns:c2.ns=own.map (·,false)++r):TgtP B c2 own.length x [some x] tgt :=
 Hj (R:=TgtP B c2 own.length x [some x]) h fun y p e=>by
  obtain rfl:=of_decide_eq_true e
  refine ⟨rfl,fun capv H lo hlo Q q=>?_⟩
  obtain ⟨z,rfl⟩:=Gu.mp hlo
  exact WG.name (i:=0) (by rw [hns]; rfl) q
theorem tgt2 {c2:Cx} {tgt:Expr} {own:List Str} {a b:AV} {r:List (Str×Bool)} (hh:c2.hd=false) (h:tgNames true tgt own=true) (hns:c2.ns=own.map (·,false)++r):TgtP B c2 own.length (.tup [a,b]) [some a,some b] tgt :=
 Jy (R:=TgtP B c2 own.length (.tup [a,b]) [some a,some b]) h fun es kk r h=>KE (R:=fun es=>TgtP B c2 own.length (.tup [a,b]) [some a,some b] (.Tuple es kk r)) h fun t u h =>
  Hj (R:=fun t=>TgtP B c2 own.length (.tup [a,b]) [some a,some b] (.Tuple [t,u] kk r)) h fun y p h=>Hj (R:=fun u=>TgtP B c2 own.length (.tup [a,b]) [some a,some b] (.Tuple [.Name y p,u] kk r)) h fun y' p' e=>by
   obtain rfl:=of_decide_eq_true e
   refine ⟨rfl,fun capv H lo hlo Q q=>?_⟩
   obtain ⟨z,w,rfl⟩:=len2 hlo
   exact WG.tup2 hh (WG.name (i:=0) (by rw [hns]; rfl) (WG.name (i:=1) (by rw [hns]; rfl) q)) rfl
theorem Lr {tw:Bool} {js:List Nat} (S1:Sn B k x) (S2:Sn B k y) (S3:Sn B k z) {D:CD} {c:Cx} {σ:St} (ok:CDok k D c) {el:Expr} {gens:List Comprehension} {sc:Scope} {Q:PA} (h:ckComp tw js (chk x) (chk y) (chk z) D el gens sc=true) (v:vE B k (.comp tw js x y z) σ Q):CI B c el gens sc σ Q :=
 HY (R:=fun gens=>CI B c el gens sc σ Q) h fun g h=>by
  obtain ⟨tgt,it,ifs,as⟩:=g
  obtain ⟨g1,g2⟩:=bAn h
  obtain ⟨h1,h2,h3,h4⟩:=Su g1
  obtain ⟨h5,h6,h7,h8⟩:=Su g2
  obtain rfl:=of_decide_eq_true h5
  refine ⟨tgt,it,ifs,_,_,js,rfl,h2,(by rw [ok.ns]; exact of_decide_eq_true h3),h4,WI.mono (S2.i ok h7 v) fun xs Kp σ1 w=>?_⟩
  obtain ⟨kp,rfl,e2,hz,f,ht',hq⟩:=w
  refine ⟨hz,fun σ' e=>by show kp σ'.H; rw [e]; exact e2,f,fun C x hx=>?_,hq⟩
  rw [show js.map (lg σ1.loc)=js.map (nth σ1.loc) from Cq fun j _=>(Kk _ _).symm]
  have tx:=ht' x hx
  have ok2:=CDok.comp ok (sc:=sc) (own:=ownOf tw tgt) (cap:=freeOf sc) (C:=C)
  cases tw with
  | false=>exact MB S1 S3 ok2 [some x] (tgt1 (B:=B) (x:=x) (c2:=ccx c sc C (ownOf false tgt) (freeOf sc)) h1 rfl).1 h6 h8 ((tgt1 (c2:=ccx c sc C (ownOf false tgt) (freeOf sc)) h1 rfl).2 _ _) tx
  | true =>
   obtain ⟨a,b,rfl,tx⟩:=MN tx
   exact MB S1 S3 ok2 [some a,some b] (tgt2 (B:=B) (a:=a) (b:=b) (c2:=ccx c sc C (ownOf true tgt) (freeOf sc)) ok2.hh h1 rfl).1 h6 h8 ((tgt2 (c2:=ccx c sc C (ownOf true tgt) (freeOf sc)) ok2.hh h1 rfl).2 _ _) tx
theorem CI.e {c:Cx} {el:Expr} {gens:List Comprehension} {sc:Scope} {p:Pos} {σ:St} {Q:PA} (hh:c.hd=false) (h:CI B c el gens sc σ Q):WE (gg B) c (.ListComp el gens sc p) σ Q:=by
 obtain ⟨tgt,it,ifs,own,cap,js,rfl,h1,h2,h3,h4⟩:=h
 exact WE.comp own cap js hh h1 h2 h4 (I0 h3)
theorem QG {tw:Bool} {js:List Nat} (S1:Sn B k x) (S2:Sn B k y) (S3:Sn B k z):Sn B k (.comp tw js x y z) :=
 .of rfl (fun {D c σ e Q} ok h v=>MR (R:=fun e=>WE (gg B) c e σ Q) h fun el gens sc p h=>(Lr S1 S2 S3 ok h v).e ok.hh) (fun _ _ v=>v.elim) (fun _ _ v=>v.elim) fun {D e σ Q} h _=>MR (R:=fun e=>Plain e∨Ue B k (.comp tw js x y z) D e) h fun el gens sc p h=>.inr ⟨el,gens,sc,p,fun ok v=>Lr S1 S2 S3 ok h v⟩
theorem O6 {u:Um} (o:Sn B k x) (a:Sn B k y):Sn B k (.methS u x y) :=
 .of rfl (fun {D c σ e Q} ok h v=>Hx (R:=fun e=>WE (gg B) c e σ Q) h fun g es kw p h=>by
  obtain ⟨h1,h2,h3⟩:=Ju h
  refine HP (R:=fun kw=>WE (gg B) c (.Call g es kw p) σ Q) h1 (HA (R:=fun g=>WE (gg B) c (.Call g es [] p) σ Q) h3 fun b n ap h=>?_)
  obtain ⟨g1,g2⟩:=bAn (bAn h).1
  obtain ⟨g4,g5⟩:=bAn (bAn h).2
  rw [of_decide_eq_true g1]
  have call:∀ {l σ2 vs},callU B k u.f (.ref l::vs) σ2 Q->WV (gg B) c (.bm u.f l) vs σ2 Q:=fun ⟨k',b1,b2⟩=>WV.bmOf (Ab b1 ok.hk) ok.hh b2
  revert g5
  rcases Bm.mp h2 with q | q
  ·refine HY (R:=fun es=>(chk y).l D es=true->WE (gg B) c (.Call (.Attribute b u.nm ap) es [] p) σ Q) q fun s hs=>KP (R:=fun s=>(chk y).l D [s]=true->WE (gg B) c (.Call (.Attribute b u.nm ap) [s] [] p) σ Q) hs fun s ps _ g5=>?_
   refine WE.methS1 (WE.mono (o.e ok g4 v) fun v σ1 ⟨w1,w2⟩=>umBm w1 fun l e=>⟨.bm (umK B u).2.1,?_⟩) (HD g2) rfl (fewS rfl) rfl
   subst e
   exact WE.mono (a.l1 ok g5 w2) fun v σ2 ⟨xs,a1,a2,a3⟩=>⟨xs,a1,a2,call a3⟩
  ·refine KE (R:=fun es=>(chk y).l D es=true->WE (gg B) c (.Call (.Attribute b u.nm ap) es [] p) σ Q) q fun e s hs=>KP (R:=fun s=>(chk y).l D [e,s]=true->WE (gg B) c (.Call (.Attribute b u.nm ap) [e,s] [] p) σ Q) (bAn hs).2 fun s ps _ g5=>?_
   have s1:=star1 (env:=c.env) (es:=[.Starred s ps]) (Jr (bAn hs).1)
   refine WE.methS (WE.mono (o.e ok g4 v) fun v σ1 ⟨w1,w2⟩=>umBm w1 fun l e'=>⟨.bm (umK B u).2.1,?_⟩) (HD g2) s1 rfl (fewS (by rw [s1]; rfl)) rfl
   subst e'
   exact WEs.mono (a.l ok g5 w2) fun vs σ2 h=>call h) (fun _ _ v=>v.elim) (fun _ _ v=>v.elim) fun h _=>.inl (Hx (R:=Plain) h fun _ _ _ _ _ _ _ _=>rfl)
theorem sX (x:X):Sn B k x:=by
 induction x with
 | fail=>exact .of rfl (fun _ _ v=>v.elim) (fun _ _ v=>v.elim) (fun _ _ v=>v.elim) fun _ v=>v.elim
 | var i=>exact SH i
 | int i=>exact SQ i
 | str l=>exact SK l
 | none=>exact QA
 | bool b=>exact QI b
 | ty s=>exact Uq s
 | bin o a b h1 h2=>exact SU h1 h2
 | cmp o a b h1 h2=>exact SR h1 h2
 | chain o p a b c h1 h2 h3=>exact O7 h1 h2 h3
 | not a h=>exact SM h
 | neg a h=>exact SO h
 | and a b h1 h2=>exact SV h1 h2
 | or a b h1 h2=>exact Ur h1 h2
 | ite t a b h1 h2 h3=>exact SP h1 h2 h3
 | named i a h=>exact O5 h
 | sub a b h1 h2=>exact SJ h1 h2
 | slice a b c h1 h2 h3=>exact O4 h1 h2 h3
 | attr n a h=>exact QJ h
 | call f as h=>exact QH h
 | meth m o as h1 h2=>exact QC h1 h2
 | methS u o as h1 h2=>exact O6 h1 h2
 | list as h=>exact QD h
 | tup as h=>exact SI h
 | dict=>exact QE
 | comp tw js elt it cond h1 h2 h3=>exact QG h1 h2 h3
 | next a h=>exact QB h
 | rev a h=>exact SL h
 | vals a h=>exact Q8 h
 | nil=>exact SN
 | cons a as h1 h2=>exact QF h1 h2
 | star a as h1 h2=>exact Q9 h1 h2
end
end
section
open Builtin Builtin.Str
structure CDs (k:Nat) (D:CD) (c:Cx):Prop extends CDok k D c where
 fe:∃ fo,c.fe=c.env::fo
theorem WG.mono {G:Gb} {c:Cx} {t:Expr} {v:AV} {σ:St} {Q Q':St->Prop} (h:WG G c t v σ Q) (k:∀ σ',Q σ'->Q' σ'):WG G c t v σ Q':=fun η s v' R hv=>IM (h η s v' R hv) fun _=>k
section
variable {B:Bx} {k:Nat} {D:CD}
theorem TY (t:Tg) {c:Cx} {σ:St} {e:Expr} {v:AV} {Q:St->Prop} (ok:CDok k D c) (h:chkT t D e=true) (w:vG B k t v σ Q):WG (gg B) c e v σ Q:=by
 cases t with
 | fail=>exact ff h
 | name i=>exact Hj (R:=fun e=>WG (gg B) c e v σ Q) h fun x p h=>let ⟨b,hb⟩:=CD.is_some ok h; WG.name hb w
 | pair i j =>
  obtain ⟨x,y,rfl,q⟩:=MN w
  exact Jy (R:=fun e=>WG (gg B) c e (.tup [x,y]) σ Q) h fun es kk p h=>KE (R:=fun es=>WG (gg B) c (.Tuple es kk p) (.tup [x,y]) σ Q) h fun a b h=>by
   obtain ⟨h1,h2⟩:=bAn h
   exact Hj (R:=fun a=>WG (gg B) c (.Tuple [a,b] kk p) (.tup [x,y]) σ Q) h1 fun x1 p1 h1=>Hj (R:=fun b=>WG (gg B) c (.Tuple [.Name x1 p1,b] kk p) (.tup [x,y]) σ Q) h2 fun x2 p2 h2 =>
    let ⟨b1,hb1⟩:=CD.is_some ok h1; let ⟨b2,hb2⟩:=CD.is_some ok h2; WG.tup2 ok.hh (WG.name hb1 (WG.name hb2 q)) rfl
 | attr n o =>
  exact HA (R:=fun e=>WG (gg B) c e v σ Q) h fun b m p h=>by
   rw [of_decide_eq_true (bAn h).1]
   exact WG.attr (WE.mono ((sX o).e ok (bAn h).2 w) fun o σ1 h1=>PU h1)
 | sub o i=>exact I8 (R:=fun e=>WG (gg B) c e v σ Q) h fun a b p h=>WG.sub (WE.mono ((sX o).e ok (bAn h).1 w) fun o σ1 h1=>WE.mono ((sX i).e ok (bAn h).2 h1) fun i σ2 h2=>PZ h2)
theorem Uo {R:Expr->Prop} {t:Tg} {e:Expr} (h:chkT t D e=true) (k1:∀ x p,R (.Name x p)) (k2:∀ es kk p,R (.Tuple es kk p)) (k3:∀ o m p,R (.Attribute o m p)) (k4:∀ o i p,R (.Subscript o i p)):R e:=by
 cases t with
 | fail=>exact ff h
 | name i=>exact Hj (R:=R) h fun x p _=>k1 x p
 | pair i j=>exact Jy (R:=R) h fun x p q _=>k2 x p q
 | attr n o=>exact HA (R:=R) h fun x p q _=>k3 x p q
 | sub o i=>exact I8 (R:=R) h fun x p q _=>k4 x p q
theorem KG {t:Tg} {e:Expr} (h:chkT t D e=true) (r:List Expr) (env:Env):assignEach (e::r) env=(false,assign e env)::assignEach r env:=Uo (R:=fun e=>assignEach (e::r) env=(false,assign e env)::assignEach r env) h (fun _ _=>rfl) (fun _ _ _=>rfl) (fun _ _ _=>rfl) fun _ _ _=>rfl
theorem Rb {v:Expr} (h:isTup v=false) (ts:List Expr) (kk:Nat) (p:Pos) (env:Env):swappedStores [.Tuple ts kk p] v env=pure Av:=by
 revert h
 cases v with
 | Tuple=>exact fun h=>ft h
 | _=>exact fun _=>rfl
theorem Qz {t:Tg} {a v:Expr} (h:chkT t D a=true) (h2:(!isTup a||!isTup v)=true) (env:Env):swappedStores [a] v env=pure Av :=
 Uo (R:=fun a=>(!isTup a||!isTup v)=true->swappedStores [a] v env=pure Av) h (fun _ _ _=>rfl) (fun _ _ _ h=>Rb (Jr h) _ _ _ _) (fun _ _ _ _=>rfl) (fun _ _ _ _=>rfl) h2
theorem Ox {t:Tg} {a b v:Expr} (h:chkT t D a=true) (env:Env):swappedStores [a,b] v env=pure Av :=
 Uo (R:=fun a=>swappedStores [a,b] v env=pure Av) h (fun _ _=>rfl) (fun _ _ _=>rfl) (fun _ _ _=>rfl) fun _ _ _=>rfl
structure Ss (B:Bx) (k:Nat) (y:Y):Prop where
 s:∀ {D c σ st Q},CDs k D c->(chkS y).s D st=true->vS B k y σ Q->W1 (gg B) c st σ Q
 l:∀ {D c σ ss Q},CDs k D c->(chkS y).l D ss=true->vS B k y σ Q->WS (gg B) c ss σ Q
theorem Ss.of {y:Y} {f:CD->Stmt->Bool} (hy:chkS y=ckS f) (s:∀ {D c σ st Q},CDs k D c->(chkS y).s D st=true->vS B k y σ Q->W1 (gg B) c st σ Q):Ss B k y:=⟨s,fun _ h=>by rw [hy] at h; exact ff h⟩
theorem SG (t:Tg) (e:X):Ss B k (.asg t e):=.of rfl fun {D c σ st Q} ok h w=>MS (R:=fun st=>W1 (gg B) c st σ Q) h fun ts v p h=>by
 obtain ⟨h1,h2⟩:=bAn h
 refine HY (R:=fun ts=>W1 (gg B) c (.Assign ts v p) σ Q) h1 fun a h=>?_
 obtain ⟨g1,g2⟩:=bAn h
 have ok':=ok.toCDok
 have plain:swapsWith v (some a) p.line c.env=pure false->W1 (gg B) c (.Assign [a] v p) σ Q:=fun hs=>W1.asg (WE.mono ((sX e).e ok' h2 w) fun v σ1 h1=>TY t ok' g1 h1) hs (Qz g1 g2 _) (KG g1 _ _)
 rcases (sX (B:=B) (k:=k) e).s h2 w with pl | cs
 ·exact plain (pl _ _ _)
 ·obtain ⟨elt,gens,sc,p',hc⟩:=cs
  cases t with
  | name i =>
   revert plain
   refine Hj (R:=fun a=>(swapsWith (.ListComp elt gens sc p') (some a) p.line c.env=pure false->W1 (gg B) c (.Assign [a] (.ListComp elt gens sc p') p) σ Q)->W1 (gg B) c (.Assign [a] (.ListComp elt gens sc p') p) σ Q) g1 fun y py hy plain=>?_
   obtain ⟨b,hb⟩:=CD.is_some ok' hy
   obtain ⟨tgt,it,ifs,own,cap,js,rfl,a1,a2,a3,a4⟩:=hc ok' w
   obtain ⟨t,ht⟩:∃ t,swapsWith (.ListComp elt [⟨tgt,it,ifs,0⟩] sc p') (some (.Name y py)) p.line c.env=pure t:=⟨_,rfl⟩
   cases t with
   | false=>exact plain ht
   | true=>exact W1.asgComp own cap js ok.hh a1 a2 hb a4 (I0 a3) ht
  | fail=>exact ff g1
  | pair i j=>exact plain (Jy (R:=fun a=>swapsWith (.ListComp elt gens sc p') (some a) p.line c.env=pure false) g1 fun _ _ _ _=>rfl)
  | attr n o=>exact plain (HA (R:=fun a=>swapsWith (.ListComp elt gens sc p') (some a) p.line c.env=pure false) g1 fun _ _ _ _=>rfl)
  | sub o i=>exact plain (I8 (R:=fun a=>swapsWith (.ListComp elt gens sc p') (some a) p.line c.env=pure false) g1 fun _ _ _ _=>rfl)
theorem Q6 (t u:Tg) (e:X):Ss B k (.asg2 t u e):=.of rfl fun {D c σ st Q} ok h w=>MS (R:=fun st=>W1 (gg B) c st σ Q) h fun ts v p h=>by
 obtain ⟨h1,h2⟩:=bAn h
 refine KE (R:=fun ts=>W1 (gg B) c (.Assign ts v p) σ Q) h1 fun a b h=>?_
 have g1:=(bAn (bAn h).1).1
 have g2:=(bAn (bAn h).2).1
 have ok':=ok.toCDok
 exact W1.asg2 (WE.mono ((sX e).e ok' h2 w) fun v σ1 h1=>WG.mono (TY t ok' g1 h1) fun σ2 h2=>TY u ok' g2 h2) (by rw [KG g1,KG g2]; rfl) (Ox g1 _)
theorem SE (t:Tg) (o:Operator) (e:X):Ss B k (.aug t o e):=.of rfl fun {D c σ st Q} ok h w=>Tt (R:=fun st=>W1 (gg B) c st σ Q) h fun a o' v p h=>by
 obtain ⟨h1,h2,h3,h4⟩:=Su h
 obtain rfl:=of_decide_eq_true h1
 have ok':=ok.toCDok
 cases t with
 | fail=>exact ff h3
 | pair i j=>exact w.elim
 | name i =>
  exact Hj (R:=fun a=>W1 (gg B) c (.AugAssign a o' v p) σ Q) h3 fun x px hx=>by
   obtain ⟨b,hb⟩:=CD.is_some ok' hx
   have w:(match nth σ.loc i with | some old=>vE B k e σ fun v σ1=>inpP o' old v σ1 fun r σ2=>Q .next ⟨σ2.loc.set i (some r),σ2.H⟩ | none=>False):=w
   cases hv:nth σ.loc i with
   | none=>rw [hv] at w; exact w.elim
   | some old=>rw [hv] at w; exact W1.augName hb ((Kk _ _).symm.trans hv) (WE.mono ((sX e).e ok' h4 w) fun v σ1 h1=>Ny h1)
 | attr n x =>
  exact HA (R:=fun a=>W1 (gg B) c (.AugAssign a o' v p) σ Q) h3 fun b m px h=>by
   rw [of_decide_eq_true (bAn h).1]
   exact W1.augAttr (WE.mono ((sX x).e ok' (bAn h).2 w) fun ov σ1 h1=>WU.mono (TS h1) fun old σ2 h2=>WE.mono ((sX e).e ok' h4 h2) fun v σ3 h3=>WB.mono (Ny h3) fun r σ4 h4=>PU h4)
 | sub x i =>
  revert h2
  refine I8 (R:=fun a=>noSliceT a=true->W1 (gg B) c (.AugAssign a o' v p) σ Q) h3 fun a b px h h2=>?_
  refine W1.augSub (WE.mono ((sX x).e ok' (bAn h).1 w) fun ov σ1 h1=>WE.mono ((sX i).e ok' (bAn h).2 h1) fun iv σ2 h2=>WB.mono (Qn h2).1 fun old σ3 h3=>WE.mono ((sX e).e ok' h4 h3) fun v σ4 h4=>WB.mono (Ny h4) fun r σ5 h5=>PZ h5) fun ov iv new=>?_
  have h2:oSlice b (fun _ _ _=>true)=false:=Jr h2
  revert h2
  cases b with
  | Slice=>exact fun h=>ft h
  | _=>exact fun _=>rfl
theorem Q5 (e:X):Ss B k (.expr e):=.of rfl fun {D c σ st Q} ok h w=>MP (R:=fun st=>W1 (gg B) c st σ Q) h fun v p h=>by
 obtain ⟨h1,h2⟩:=bAn h
 refine W1.expr (WE.mono ((sX e).e ok.toCDok h2 w) fun v σ1 h1=>h1) ?_
 rcases (sX (B:=B) (k:=k) e).s h2 w with pl | cs
 ·exact pl _ _ _
 ·cases cs; exact ff h1
theorem W1.ret0 {G:Gb} {c:Cx} {σ:St} {pos:Pos} {Q:PF} (q:Q (.ret .none) σ):W1 G c (.Return Av pos) σ Q:=fun η s R=>wpAny_Return_none (.here R q (.ret (.rig _)))
theorem S9 (e:X):Ss B k (.ret e):=.of rfl fun {D c σ st Q} ok h w=>To (R:=fun st=>W1 (gg B) c st σ Q) h fun v p h=>by
 rcases Bm.mp h with h | h
 ·exact MU (R:=fun v=>W1 (gg B) c (.Return v p) σ Q) (bAn h).1 (W1.ret0 ((sX e).n (bAn h).2 w))
 ·exact KQ (R:=fun v=>W1 (gg B) c (.Return v p) σ Q) h fun v h=>W1.ret ((sX e).e ok.toCDok h w)
theorem SA {a b:Y} (t:X) (h1:Ss B k a) (h2:Ss B k b):Ss B k (.ite t a b):=.of rfl fun {D c σ st Q} ok h w=>Uz (R:=fun st=>W1 (gg B) c st σ Q) h fun v x y p h=>by
 obtain ⟨g1,g2,g3⟩:=Ju h
 exact W1.ite (WT.mono ((sX t).t ok.toCDok g1 w) fun t σ1 ⟨w1,w2⟩=>⟨fun e=>h1.l ok g2 (w1 e),fun e=>h2.l ok g3 (w2 e)⟩)
theorem O0 {a b:Y} (t:X) (h1:Ss B k a) (h2:Ss B k b):Ss B k (.whil t a b):=.of rfl fun {D c σ st Q} ok h w=>OK (R:=fun st=>W1 (gg B) c st σ Q) h fun v x y p h=>by
 obtain ⟨g1,g2,g3⟩:=Ju h
 obtain ⟨I,m,h0,turn⟩:=w
 exact W1.while_ I m h0 fun m σ hI=>WT.mono ((sX t).t ok.toCDok g1 (turn m σ hI)) fun t σ1 ⟨w1,w2⟩=>⟨fun e=>WS.mono (h1.l ok g2 (w1 e)) fun f σ2 h3=>by cases f<;>exact h3,fun e=>h2.l ok g3 (w2 e)⟩
theorem SD {a b:Y} (t:Tg) (i:X) (h1:Ss B k a) (h2:Ss B k b):Ss B k (.forr t i a b):=.of rfl fun {D c σ st Q} ok h w=>Tq (R:=fun st=>W1 (gg B) c st σ Q) h fun v e x y p h=>by
 obtain ⟨g1,g2⟩:=bAn (bAn h).1
 obtain ⟨g3,g4,g5⟩:=Ju (bAn h).2
 have ok':=ok.toCDok
 refine W1.for_ ok.hh (WI.mono ((sX i).i ok' g3 w) fun xs Kp σ1 ⟨kp,e1,e2,I,h0,w1,w2,w3⟩=>?_) (I0 g1)
 subst e1
 exact ⟨I,h0,w1,fun i x σ hx hI=>WG.mono (TY t ok' g2 (w2 i x σ hx hI)) fun σ2 h4=>WS.mono (h1.l ok g4 h4) fun f σ3 h5=>by cases f<;>exact h5,fun σ hI=>h2.l ok g5 (w3 σ hI)⟩
theorem Qc {R:Expr->Prop} {K:Str->Bool} {e:Expr} (h:oPop e K=true) (q:∀ x p0 ap p,K x=true->(ap.endLine==p.line)=true->R (.Call (.Attribute (.Name x p0) "pop" ap) [] [] p)):R e :=
 Hx (R:=R) h fun g es kw p h=>by
  obtain ⟨h1,h2,h3⟩:=Ju h
  exact HP (R:=fun es=>R (.Call g es kw p)) h1 (HP (R:=fun kw=>R (.Call g [] kw p)) h2 (HA (R:=fun g=>R (.Call g [] [] p)) h3 fun o m ap h=>by
   obtain ⟨g1,g2,g3⟩:=Ju h
   rw [of_decide_eq_true g1]
   exact Hj (R:=fun o=>R (.Call (.Attribute o "pop" ap) [] [] p)) g3 fun x p0 h=>q x p0 ap p h g2))
theorem QY {R:Expr->Prop} {K:Str->Bool} {e:Expr} (h:oLast e K=true) (q:∀ x p0 k p1 p2 p3 p,K x=true->R (.Call (.Subscript (.Name x p0) (.UnaryOp .USub (.Constant (.int 1) k p1) p2) p3) [] [] p)):R e :=
 Hx (R:=R) h fun g es kw p h=>by
  obtain ⟨h1,h2,h3⟩:=Ju h
  exact HP (R:=fun es=>R (.Call g es kw p)) h1 (HP (R:=fun kw=>R (.Call g [] kw p)) h2 (I8 (R:=fun g=>R (.Call g [] [] p)) h3 fun o i p3 h=>Hj (R:=fun o=>R (.Call (.Subscript o i p3) [] [] p)) (bAn h).1 fun x p0 hx =>
   Kj (R:=fun i=>R (.Call (.Subscript (.Name x p0) i p3) [] [] p)) (bAn h).2 fun u n p2 h=>by
    rw [of_decide_eq_true (bAn h).1]
    exact Qe (R:=fun n=>R (.Call (.Subscript (.Name x p0) (.UnaryOp .USub n p2) p3) [] [] p)) (bAn h).2 fun c k p1 h=>by rw [of_decide_eq_true h]; exact q x p0 k p1 p2 p3 p hx))
theorem Tp {R:ExceptHandler->Prop} {K:Option Expr->Option Str->List Stmt->Bool} {h:ExceptHandler} (w:oHnd h K=true) (q:∀ t n b p,K t n b=true->R (.ExceptHandler t n b p)):R h:=by
 cases h; exact q _ _ _ _ w
theorem RW {j s d:Nat} {R:List ExceptHandler->Prop} {hs:List ExceptHandler} (h:ckHnd j s d D hs=true) (q:∀ sn dn zn r1 r2 t0 t1 ap t2 t3 t4 u0 ar u u3,D.is s sn=true->D.is d dn=true->D.is j zn=true->D.gl "StopIteration" = true->(ap.endLine==t2.line)=true->(ar.endLine==u.line)=true →
   R [.ExceptHandler (some (.Name "StopIteration" r1)) Av [.Delete [.Subscript (.Name dn t0) (.Call (.Attribute (.Name sn t1) "pop" ap) [] [] t2) t3] t4,.Expr (.Call (.Attribute (.Name zn u0) "pop" ar) [] [] u) u3] r2]):R hs :=
 HY (R:=R) h fun h w=>Tp (R:=fun h=>R [h]) w fun t n b r2 w=>by
  obtain ⟨h1,h2,h3⟩:=Ju w
  refine MU (R:=fun n=>R [.ExceptHandler t n b r2]) h1 (KQ (R:=fun t=>R [.ExceptHandler t Av b r2]) h2 fun t h2=>Hj (R:=fun t=>R [.ExceptHandler (some t) Av b r2]) h2 fun x r1 h2=>?_)
  obtain ⟨g1,g2⟩:=bAn h2
  obtain rfl:=of_decide_eq_true g1
  exact KE (R:=fun b=>R [.ExceptHandler (some (.Name "StopIteration" r1)) Av b r2]) h3 fun u v h=>Tr (R:=fun u=>R [.ExceptHandler (some (.Name "StopIteration" r1)) Av [u,v] r2]) (bAn h).1 fun ts t4 h4=>HY (R:=fun ts=>R [.ExceptHandler (some (.Name "StopIteration" r1)) Av [.Delete ts t4,v] r2]) h4 fun t h4 =>
   I8 (R:=fun t=>R [.ExceptHandler (some (.Name "StopIteration" r1)) Av [.Delete [t] t4,v] r2]) h4 fun a k t3 h4=>Hj (R:=fun a=>R [.ExceptHandler (some (.Name "StopIteration" r1)) Av [.Delete [.Subscript a k t3] t4,v] r2]) (bAn h4).1 fun dn t0 hd =>
    Qc (R:=fun k=>R [.ExceptHandler (some (.Name "StopIteration" r1)) Av [.Delete [.Subscript (.Name dn t0) k t3] t4,v] r2]) (bAn h4).2 fun sn t1 ap t2 hs l1=>MP (R:=fun v=>R [.ExceptHandler (some (.Name "StopIteration" r1)) Av [.Delete [.Subscript (.Name dn t0) (.Call (.Attribute (.Name sn t1) "pop" ap) [] [] t2) t3] t4,v] r2]) (bAn h).2 fun e u3 h =>
     Qc (R:=fun e=>R [.ExceptHandler (some (.Name "StopIteration" r1)) Av [.Delete [.Subscript (.Name dn t0) (.Call (.Attribute (.Name sn t1) "pop" ap) [] [] t2) t3] t4,.Expr e u3] r2]) h fun zn u0 ar u hz l2=>q sn dn zn r1 r2 t0 t1 ap t2 t3 t4 u0 ar u u3 hs hd hz g2 l1 l2
theorem RV {i j s d:Nat} {R:List Stmt->List ExceptHandler->Prop} {b:List Stmt} {hs:List ExceptHandler} (h:ckTry i j s d D b hs=true)
  (q:∀ x y q0 q1 q2 p0 k0 p1 p2 p3 p,D.is i x=true->D.is j y=true->ckHnd j s d D hs=true->R [.Assign [.Name x q0] (.Call (.Subscript (.Name y p0) (.UnaryOp .USub (.Constant (.int 1) k0 p1) p2) p3) [] [] p) q1,.Break q2] hs):R b hs :=
 KE (R:=fun b=>R b hs) (bAn h).1 fun a v h1=>Qf (R:=fun v=>R [a,v] hs) (bAn h1).1 fun q2 _=>MS (R:=fun a=>R [a,.Break q2] hs) (bAn h1).2 fun ts e q1 h1=>HY (R:=fun ts=>R [.Assign ts e q1,.Break q2] hs) (bAn h1).1 fun t ht=>Hj (R:=fun t=>R [.Assign [t] e q1,.Break q2] hs) ht fun x q0 hx =>
  QY (R:=fun e=>R [.Assign [.Name x q0] e q1,.Break q2] hs) (bAn h1).2 fun y p0 k0 p1 p2 p3 p hy=>q x y q0 q1 q2 p0 k0 p1 p2 p3 p hx hy (bAn h).2
theorem JL {l:List (Option AV)} {i:Nat} {v:AV} (h:nth l i=some v):lg l i=some v:=(Kk _ _).symm.trans h
theorem T6 {c:Cx} {σ:St} {j:Nat} {y:Str} {by_:Bool} {p0 p1 p2 p3:Pos} {k0:Nat} {lj:Lb} {js:List AV} {v:AV} (nj:c.ns[j]?=some (y,by_)) (a1:nth σ.loc j=some (.ref lj)) (a2:σ.H lj=some (.list js)) (a3:js.length≤big) (a4:js.getLast?=some v) :
  WE (gg B) c (.Subscript (.Name y p0) (.UnaryOp .USub (.Constant (.int 1) k0 p1) p2) p3) σ fun w σ'=>w=v∧σ'=σ:=by
 have jl':1≤js.length:=by
  cases js with
  | nil=>cases a4
  | cons=>exact AB (A4 _)
 refine WE.sub (WE.name nj (JL a1) (WE.una (WE.int (WU.neg ?_)))) (fun a b=>rfl)
 refine ⟨WB.itemNeg (xs:=js) (.inr ⟨lj,rfl,a2⟩) (by decide) (FZ (Be.mpr jl')) (ltB a3) (x:=v) ?_ ⟨rfl,rfl⟩,.list (.inr ⟨lj,rfl,a2⟩)⟩
 rw [Dm] at a4
 rw [← a4]; exact congrArg (js[·]?) (Jb _)
theorem S8 (i j s d:Nat):Ss B k (.tryN i j s d):=.of rfl fun {D c σ st Q} ok h w=>Ti (R:=fun st=>W1 (gg B) c st σ Q) h fun b hs oe fb p h=>by
 obtain ⟨h1,h2,h3⟩:=Ju h
 refine HP (R:=fun oe=>W1 (gg B) c (.Try b hs oe fb p) σ Q) h1 (HP (R:=fun fb=>W1 (gg B) c (.Try b hs [] fb p) σ Q) h2 (RV (R:=fun b hs=>W1 (gg B) c (.Try b hs [] [] p) σ Q) h3 fun x y q0 q1 q2 p0 k0 p1 p2 p3 p5 hx hy h=>?_))
 have ok':=ok.toCDok
 obtain ⟨bi,ni⟩:=CD.is_some ok' hx
 obtain ⟨bj,nj⟩:=CD.is_some ok' hy
 obtain ⟨fo,hfe⟩:=ok.fe
 obtain ⟨lj,ls,ld,js,li,l,pp,xs,a1,a2,a3,a4,a5,a6,a7,a8⟩:=w
 refine RW (R:=fun hs=>W1 (gg B) c (.Try [.Assign [.Name x q0] (.Call (.Subscript (.Name y p0) (.UnaryOp .USub (.Constant (.int 1) k0 p1) p2) p3) [] [] p5) q1,.Break q2] hs [] [] p) σ Q) h fun sn dn zn r1 r2 t0 t1 ap t2 t3 t4 u0 ar u u3 hs hd hz hg l1 l2=>?_
 obtain ⟨bs,ns⟩:=CD.is_some ok' hs
 obtain ⟨bd,nd⟩:=CD.is_some ok' hd
 obtain ⟨bz,nz⟩:=CD.is_some ok' hz
 refine W1.tryNext ok.hh hfe ni (li:=li) (T6 nj a1 a2 a3 a4) rfl (Up B).1 (CD.gl_kg ok' hg) a5 a6 a7 fun hn e=>?_
 obtain ⟨b1,b2,ss,y,es,ep,m1,m2,m3,m4,m5,m6,c1,c2,c3,c4,c5,q⟩:=a8 hn
 exact RO (c:=c.mk' e) (lj:=lj) (ls:=ls) (ld:=ld) (js:=js) (ss:=ss) (y:=y) (es:=es) (ep:=ep) nz ns nd (JL a1) (JL b1) (JL b2) m1 m5 m6 ((Ha _ _ (Dc m4)).trans a2) a3 (by rintro rfl; cases a4) ((Ha _ _ (Dc m2)).trans c1) (by unfold big at c2; omega) ((Ha _ _ (Dc m3)).trans c3) c4 c5 l1 l2 q
theorem sY (y:Y):Ss B k y:=by
 induction y with
 | fail=>exact .of rfl fun _ _ w=>w.elim
 | skip=>exact ⟨fun _ h=>ff h,fun {D c σ ss Q} ok h w=>HP (R:=fun ss=>WS (gg B) c ss σ Q) h (WS.nil w)⟩
 | seq a b h1 h2=>exact ⟨fun _ h=>ff h,fun {D c σ ss Q} ok h w=>IZ (R:=fun ss=>WS (gg B) c ss σ Q) h fun s r h=>WS.cons (W1.mono (h1.s ok (bAn h).1 w) fun f σ1 h3=>by cases f<;>first | exact h2.l ok (bAn h).2 h3 | exact h3)⟩
 | asg t e=>exact SG t e
 | asg2 t u e=>exact Q6 t u e
 | aug t o e=>exact SE t o e
 | expr e=>exact Q5 e
 | ret e=>exact S9 e
 | ite t a b h1 h2=>exact SA t h1 h2
 | whil t a b h1 h2=>exact O0 t h1 h2
 | forr t i a b h1 h2=>exact SD t i h1 h2
 | brk=>exact .of rfl fun {D c σ st Q} ok h w=>Qf (R:=fun st=>W1 (gg B) c st σ Q) h fun _ _=>W1.brk w
 | cont=>exact .of rfl fun {D c σ st Q} ok h w=>QZ (R:=fun st=>W1 (gg B) c st σ Q) h fun _ _=>W1.cont w
 | tryN i j s d=>exact S8 i j s d
end
end
section
open Builtin Builtin.Str
theorem Oa {α:Type} {p:α->Bool} {o:Option α} (h:o.any p=true):∃ x,o=some x∧p x=true:=by
 cases o with
 | none=>exact ff h
 | some x=>exact ⟨x,rfl,h⟩
noncomputable def dF (d:Data):Option FuncData:=@Data.casesOn (fun _=>Option FuncData) d none (fun _=>none) (fun _ _=>none) (fun _ _=>none) (fun _ _ _=>none) (fun _ _=>none) (fun _=>none) some (fun _=>none) (fun _=>none) none
theorem dF_s {d:Data} {fd:FuncData} (h:dF d=some fd):d=.func fd:=by
 cases d with
 | func f=>exact congrArg Data.func (Option.some.inj h)
 | _=>exact ns h
noncomputable def dW (d:Data):Option (Array Value):=@Data.casesOn (fun _=>Option (Array Value)) d none (fun _=>none) (fun _ _=>none) (fun _ _=>none) (fun _ _ _=>none) (fun _ _=>none) (fun _=>none) (fun _=>none) (fun _=>none) some none
theorem dW_s {d:Data} {ws:Array Value} (h:dW d=some ws):d=.fields ws:=by
 cases d with
 | fields f=>exact congrArg GV (Option.some.inj h)
 | _=>exact ns h
noncomputable def vRf (v:Value):Option Addr:=@Value.casesOn (fun _=>Option Addr) v none none none (fun _=>none) (fun _ _=>none) (fun _ _=>none) (fun _ _=>none) (fun _ _=>none) (fun _=>none) (fun _=>none) some
theorem Ui {v:Value} {a:Addr} (h:vRf v=some a):v=.ref a:=by
 cases v with
 | ref f=>exact congrArg Value.ref (Option.some.inj h)
 | _=>exact ns h
noncomputable def bS (b:FuncBody):Option (List Stmt):=@FuncBody.casesOn (fun _=>Option (List Stmt)) b some fun _=>none
theorem bS_s {b:FuncBody} {l:List Stmt} (h:bS b=some l):b=.stmts l:=by
 cases b with
 | stmts f=>exact congrArg FuncBody.stmts (Option.some.inj h)
 | expr _=>exact ns h
noncomputable def fdAt (K:Frag) (f:Addr):FuncData:=((K.lookup f).bind fun o=>dF o.data).getD default
noncomputable def bodyOf (fd:FuncData):List Stmt:=(bS fd.body).getD []
noncomputable def codeChk (K:Frag) (fd:FuncData):Bool:=(vRf fd.code).any fun cd=>(K.lookup cd).any fun o=>!(o.cls==.none)&&(dW o.data).any fun ws=>(ws[1]?).any (valV (fun _=>false) (· ==fd.qualname))
noncomputable def fnBase (K:Frag) (f:Addr):Bool:=((K.lookup f).any fun o=>(dF o.data).isSome&&!(o.cls==.none))&&codeChk K (fdAt K f)&&(bS (fdAt K f).body).isSome&&((fdAt K f).globals==mainGlobals)&&((fdAt K f).builtins==builtinsNs)
theorem nn_s {v:Value} (h:(!(v==.none))=true):v≠.none:=fun q=>by rw [q] at h; exact ff h
theorem NG {K:Frag} {fd:FuncData} (h:codeChk K fd=true):Ex4 fun cd oc' vs t=>An5 (fd.code=.ref cd) (K.lookup cd=some oc') (oc'.cls≠.none) (oc'.data=.fields vs) (vs[1]?=some (.str fd.qualname t)):=by
 obtain ⟨cd,e1,h⟩:=Oa h
 obtain ⟨o,e2,h⟩:=Oa h
 rw [AF] at h
 obtain ⟨h1,h⟩:=h
 obtain ⟨ws,e3,h⟩:=Oa h
 obtain ⟨v,e4,h⟩:=Oa h
 rcases M3 h with ⟨_,_,_,q⟩ | ⟨x,t,rfl,q⟩
 ·exact ff q
 ·exact ⟨cd,o,ws,t,Ui e1,e2,nn_s h1,dW_s e3,by rw [e4,beq_iff_eq.mp q]⟩
theorem H8 {K:Frag} {f:Addr} (h:fnBase K f=true):Ex3 fun oc od osl=>An6 (K.lookup f=some ⟨oc,od,.func (fdAt K f),osl⟩) (oc≠.none) ((Ex4 fun cd oc' vs t=>An5 ((fdAt K f).code=.ref cd) (K.lookup cd=some oc') (oc'.cls≠.none) (oc'.data=.fields vs) (vs[1]?=some (.str (fdAt K f).qualname t)))) ((fdAt K f).body=.stmts (bodyOf (fdAt K f))) ((fdAt K f).globals=mainGlobals) ((fdAt K f).builtins=builtinsNs):=by
 unfold fnBase at h
 simp only [AF,beq_iff_eq] at h
 obtain ⟨⟨⟨⟨h1,h2⟩,h3⟩,h4⟩,h5⟩:=h
 obtain ⟨o,e,h1⟩:=Oa h1
 obtain ⟨fd,e2⟩:=Do.mp (BS.mp h1).1
 obtain ⟨b,e3⟩:=Do.mp h3
 have ef:fdAt K f=fd:=by unfold fdAt; rw [e]; show (dF o.data).getD default=fd; rw [e2]; rfl
 obtain ⟨oc,od,d,osl⟩:=o
 refine ⟨oc,od,osl,?_,nn_s (BS.mp h1).2,NG h2,?_,h4,h5⟩
 ·rw [e,ef,show d=.func fd from dF_s e2]
 ·unfold bodyOf; rw [e3]; exact bS_s e3
section
variable {B:Bx}
theorem WC.ir {k:Nat} {f:Addr} {ns:List (Str×Bool)} {args:List AV} {H:Hp} {Q:AV->Hp->Prop} {ab:List (Str×AV)} {ir:Y} (hb:fnBase (KB B) f=true) (hcl:(fdAt (KB B) f).closure=[]) (hok:fnOk (fdAt (KB B) f) ns=true)
  (hir:(chkS ir).l ⟨ns,(fdAt (KB B) f).scope.names⟩ (bodyOf (fdAt (KB B) f))=true) (hbind:WBind (gg B) (fdAt (KB B) f) args ab) (hab:ab.map (·.1)=(ns.take ab.length).map (·.1))
  (h:vS B k ir ⟨loc0 ab ns,H⟩ fun fl σ'=>Q (retv fl) σ'.H):WC (gg B) (k+2) (.ref f) args H Q:=by
 obtain ⟨oc,od,osl,h1,h2,h3,h4,h5,h6⟩:=H8 hb
 refine WC.def h1 h2 h3 h4 hcl h5 h6 hok hbind hab fun A fe L=>?_
 exact (sY ir).l (k:=k) (c:=fcx (fdAt (KB B) f) f ns A fe L k) (D:=⟨ns,(fdAt (KB B) f).scope.names⟩) ⟨⟨rfl,fun x e=>e,rfl,Ak _⟩,fe,rfl⟩ hir h
theorem WBind.peeked {G:Gb} {fd:FuncData} {args:List AV} {ab:List (Str×AV)} (h:∀ η args',VRs η args args'->∃ binds,(∀ S,peek G.K S (bindArgs fd ⟨args',[]⟩)=some binds)∧IE η ab binds):WBind G fd args ab:=fun c η σ s args' A E Q R hv k=>by
 obtain ⟨binds,h1,h2⟩:=h η args' hv
 exact kp_binds R.K h1 _ _ _ _ (k binds η s.heap s.toks R (.refl ..) h2)
theorem WBind.d1 {G:Gb} {fd:FuncData} {a1:AV} {x1 x2:Str} (h:∀ v1 S,peek G.K S (bindArgs fd ⟨[v1],[]⟩)=some [(x1,v1),(x2,.none)]):WBind G fd [a1] [(x1,a1),(x2,.none)]:=WBind.peeked fun η args' hv=>by
 obtain ⟨v,rfl,r⟩:=hv.E1
 exact ⟨_,h v,.cons r (.cons (.rig _) .nil)⟩
theorem WBind.p2 {G:Gb} {fd:FuncData} {a1 a2:AV} {x1 x2:Str} (h:∀ v1 v2 S,peek G.K S (bindArgs fd ⟨[v1,v2],[]⟩)=some [(x1,v1),(x2,v2)]):WBind G fd [a1,a2] [(x1,a1),(x2,a2)]:=WBind.peeked fun η args' hv=>by
 obtain ⟨v,u,rfl,r1,r2⟩:=hv.E2
 exact ⟨_,h v u,.cons r1 (.cons r2 .nil)⟩
theorem WBind.star1 {G:Gb} {fd:FuncData} {a1:AV} {as:List AV} {x1 x2:Str} (hz:as.length≤2 ^ 20) (h:∀ v1 vs,bindArgs fd ⟨v1::vs,[]⟩=newTuple vs >>=fun t=>pure [(x1,v1),(x2,t)]):WBind G fd (a1::as) [(x1,a1),(x2,.tup as)]:=fun c η σ s args' A E Q R hv k=>by
 obtain ⟨v,vs,rfl,h1,h2⟩:=hv.consE
 rw [h]
 refine Aa (wpAny_newTuple (Ad ?_) (by rw [← h2.length]; unfold sizeLine; exact Ab (by assumption) (by decide)))
 obtain ⟨R',st'⟩:=R.addZ (tk:=s.toks) (o:=tupO vs.toArray 0) Ho H9 (Ah _ rfl)
 have le:=Et.leZ R (o:=tupO vs.toArray 0) (H9 (h:=s.heap))
 exact k _ _ _ s.toks R' (st' _) (.cons (h1.mono le) (.cons (.tup (if_pos rfl) (by rw [GP]; exact h2.mono le)) .nil))
theorem WBind.star2 {G:Gb} {fd:FuncData} {a1 a2:AV} {as:List AV} {x1 x2 x3:Str} (hz:as.length≤2 ^ 20) (h:∀ v1 v2 vs,bindArgs fd ⟨v1::v2::vs,[]⟩=newTuple vs >>=fun t=>pure [(x1,v1),(x2,v2),(x3,t)]):WBind G fd (a1::a2::as) [(x1,a1),(x2,a2),(x3,.tup as)]:=fun c η σ s args' A E Q R hv k=>by
 obtain ⟨v,vs,rfl,h1,h2⟩:=hv.consE
 obtain ⟨v2,vs,rfl,h4,h3⟩:=h2.consE
 rw [h]
 refine Aa (wpAny_newTuple (Ad ?_) (by rw [← h3.length]; unfold sizeLine; exact Ab (by assumption) (by decide)))
 obtain ⟨R',st'⟩:=R.addZ (tk:=s.toks) (o:=tupO vs.toArray 0) Ho H9 (Ah _ rfl)
 have le:=Et.leZ R (o:=tupO vs.toArray 0) (H9 (h:=s.heap))
 exact k _ _ _ s.toks R' (st' _) (.cons (h1.mono le) (.cons (h4.mono le) (.cons (.tup (if_pos rfl) (by rw [GP]; exact h3.mono le)) .nil)))
end
end
section
open Builtin Builtin.Str
structure Fr0 (B:Bx) (f:Addr) (ns:List (Str×Bool)) (ir:Y):Prop where
 b:fnBase (KB B) f=true
 c:(fdAt (KB B) f).closure=[]
 o:fnOk (fdAt (KB B) f) ns=true
 i:(chkS ir).l ⟨ns,(fdAt (KB B) f).scope.names⟩ (bodyOf (fdAt (KB B) f))=true
theorem Fr0.wc {B:Bx} {k:Nat} {f:Addr} {ns:List (Str×Bool)} {ir:Y} (F:Fr0 B f ns ir) {args:List AV} {H:Hp} {Q:AV->Hp->Prop} {ab:List (Str×AV)} (hbind:WBind (gg B) (fdAt (KB B) f) args ab) (hab:ab.map (·.1)=(ns.take ab.length).map (·.1))
  (h:vS B k ir ⟨loc0 ab ns,H⟩ fun fl σ'=>Q (retv fl) σ'.H):WC (gg B) (k+2) (.ref f) args H Q:=WC.ir F.b F.c F.o F.i hbind hab h
noncomputable abbrev snm (x:String) (b:Bool):Str×Bool:=(A8 x,b)
noncomputable abbrev niInitN:List (Str×Bool):=[snm "self" false,snm "node" false]
noncomputable abbrev niInitY:Y:=(.seq (.asg (.attr .node (.var 0)) (.var 1)) (.seq (.asg (.attr .npred (.var 0)) (.int 0)) (.seq (.asg (.attr .succs (.var 0)) (.list .nil)) .skip)))
theorem Re (B:Bx):Fr0 B 36 niInitN niInitY:=⟨by kernel_rfl,by kernel_rfl,by kernel_rfl,by kernel_rfl⟩
noncomputable abbrev tsInitN:List (Str×Bool):=[snm "self" false,snm "graph" false,snm "node" false,snm "predecessors" false]
noncomputable abbrev tsInitY:Y:=(.seq (.asg (.attr .node2info (.var 0)) .dict) (.seq (.asg (.attr .ready (.var 0)) .none) (.seq (.asg (.attr .passed (.var 0)) (.int 0)) (.seq (.asg (.attr .finished (.var 0)) (.int 0)) (.seq (.ite (.cmp .IsNot (.var 1) .none) (.seq (.forr (.pair 2 3) .fail (.seq (.expr (.methS .add (.var 0) (.cons (.var 2) (.star (.var 3) .nil)))) .skip) .skip) .skip) .skip) .skip)))))
theorem Qx (B:Bx):Fr0 B 73 tsInitN tsInitY:=⟨by kernel_rfl,by kernel_rfl,by kernel_rfl,by kernel_rfl⟩
noncomputable abbrev gnN:List (Str×Bool):=[snm "self" false,snm "node" false,snm "result" false]
noncomputable abbrev gnY:Y:=(.seq (.ite (.cmp .Is (.named 2 (.meth .dget (.attr .node2info (.var 0)) (.cons (.var 1) .nil))) .none) (.seq (.asg2 (.sub (.attr .node2info (.var 0)) (.var 1)) (.name 2) (.call (.mkS 40 36) (.cons (.var 1) .nil))) .skip) .skip) (.seq (.ret (.var 2)) .skip))
theorem gnF (B:Bx):Fr0 B 80 gnN gnY:=⟨by kernel_rfl,by kernel_rfl,by kernel_rfl,by kernel_rfl⟩
noncomputable abbrev addN:List (Str×Bool):=[snm "self" false,snm "node" false,snm "predecessors" false,snm "nodeinfo" false,snm "pred" false,snm "pred_info" false]
noncomputable abbrev addY:Y:=(.seq (.ite (.cmp .IsNot (.attr .ready (.var 0)) .none) (.seq .fail .skip) .skip) (.seq (.asg (.name 3) (.meth (.um .gn) (.var 0) (.cons (.var 1) .nil))) (.seq (.aug (.attr .npred (.var 3)) .Add (.call .len (.cons (.var 2) .nil))) (.seq (.forr (.name 4) (.var 2) (.seq (.asg (.name 5) (.meth (.um .gn) (.var 0) (.cons (.var 4) .nil))) (.seq (.expr (.meth .lappend (.attr .succs (.var 5)) (.cons (.var 1) .nil))) .skip)) .skip) .skip))))
theorem addF (B:Bx):Fr0 B 87 addN addY:=⟨by kernel_rfl,by kernel_rfl,by kernel_rfl,by kernel_rfl⟩
noncomputable abbrev prepN:List (Str×Bool):=[snm "self" false,snm "cycle" false]
noncomputable abbrev prepY:Y:=(.seq (.ite (.cmp .IsNot (.attr .ready (.var 0)) .none) (.seq .fail .skip) .skip) (.seq (.asg (.attr .ready (.var 0)) (.comp false [] (.attr .node (.var 0)) (.vals (.attr .node2info (.var 0))) (.cmp .Eq (.attr .npred (.var 0)) (.int 0)))) (.seq (.asg (.name 1) (.meth (.um .cyc) (.var 0) .nil)) (.seq (.ite (.var 1) (.seq .fail .skip) .skip) .skip))))
theorem Uw (B:Bx):Fr0 B 92 prepN prepY:=⟨by kernel_rfl,by kernel_rfl,by kernel_rfl,by kernel_rfl⟩
noncomputable abbrev readyN:List (Str×Bool):=[snm "self" false,snm "result" false,snm "n2i" false,snm "node" false]
noncomputable abbrev readyY:Y:=(.seq (.ite (.cmp .Is (.attr .ready (.var 0)) .none) (.seq .fail .skip) .skip) (.seq (.asg (.name 1) (.call .tuple (.cons (.attr .ready (.var 0)) .nil))) (.seq (.asg (.name 2) (.attr .node2info (.var 0))) (.seq (.forr (.name 3) (.var 1) (.seq (.asg (.attr .npred (.sub (.var 2) (.var 3))) (.int (-1))) .skip) .skip) (.seq (.expr (.meth .lclear (.attr .ready (.var 0)) .nil)) (.seq (.aug (.attr .passed (.var 0)) .Add (.call .len (.cons (.var 1) .nil))) (.seq (.ret (.var 1)) .skip)))))))
theorem Tb (B:Bx):Fr0 B 99 readyN readyY:=⟨by kernel_rfl,by kernel_rfl,by kernel_rfl,by kernel_rfl⟩
noncomputable abbrev activeN:List (Str×Bool):=[snm "self" false]
noncomputable abbrev activeY:Y:=(.seq (.ite (.cmp .Is (.attr .ready (.var 0)) .none) (.seq .fail .skip) .skip) (.seq (.ret (.or (.cmp .Lt (.attr .finished (.var 0)) (.attr .passed (.var 0))) (.call .bool (.cons (.attr .ready (.var 0)) .nil)))) .skip))
theorem Sj (B:Bx):Fr0 B 106 activeN activeY:=⟨by kernel_rfl,by kernel_rfl,by kernel_rfl,by kernel_rfl⟩
noncomputable abbrev doneN:List (Str×Bool):=[snm "self" false,snm "nodes" false,snm "n2i" false,snm "node" false,snm "nodeinfo" false,snm "stat" false,snm "successor" false,snm "successor_info" false]
noncomputable abbrev doneY:Y:=(.seq (.ite (.cmp .Is (.attr .ready (.var 0)) .none) (.seq .fail .skip) .skip) (.seq (.asg (.name 2) (.attr .node2info (.var 0))) (.seq (.forr (.name 3) (.var 1) (.seq (.ite (.cmp .Is (.named 4 (.meth .dget (.var 2) (.cons (.var 3) .nil))) .none) (.seq .fail .skip) .skip) (.seq (.asg (.name 5) (.attr .npred (.var 4))) (.seq (.ite (.cmp .NotEq (.var 5) (.int (-1))) (.seq (.ite (.cmp .GtE (.var 5) (.int 0)) (.seq .fail .skip) (.seq (.ite (.cmp .Eq (.var 5) (.int (-2))) (.seq .fail .skip) (.seq .fail .skip)) .skip)) .skip) .skip) (.seq (.asg (.attr .npred (.var 4)) (.int (-2))) (.seq (.forr (.name 6) (.attr .succs (.var 4)) (.seq (.asg (.name 7) (.sub (.var 2) (.var 6))) (.seq (.aug (.attr .npred (.var 7)) .Sub (.int 1)) (.seq (.ite (.cmp .Eq (.attr .npred (.var 7)) (.int 0)) (.seq (.expr (.meth .lappend (.attr .ready (.var 0)) (.cons (.var 6) .nil))) .skip) .skip) .skip))) .skip) (.seq (.aug (.attr .finished (.var 0)) .Add (.int 1)) .skip)))))) .skip) .skip)))
theorem doneF (B:Bx):Fr0 B 120 doneN doneY:=⟨by kernel_rfl,by kernel_rfl,by kernel_rfl,by kernel_rfl⟩
noncomputable abbrev cycN:List (Str×Bool):=[snm "self" false,snm "n2i" false,snm "stack" false,snm "itstack" false,snm "seen" false,snm "node2stacki" false,snm "node" false]
noncomputable abbrev cycY:Y:=(.seq (.asg (.name 1) (.attr .node2info (.var 0))) (.seq (.asg (.name 2) (.list .nil)) (.seq (.asg (.name 3) (.list .nil)) (.seq (.asg (.name 4) (.call .set .nil)) (.seq (.asg (.name 5) .dict) (.seq (.forr (.name 6) (.var 1) (.seq (.ite (.cmp .In (.var 6) (.var 4)) (.seq .cont .skip) .skip) (.seq (.whil (.bool true) (.seq (.ite (.cmp .In (.var 6) (.var 4)) (.seq (.ite (.cmp .In (.var 6) (.var 5)) (.seq (.ret (.bin .Add (.sub (.var 2) (.slice (.cons (.sub (.var 5) (.var 6)) .nil) .nil .nil)) (.list (.cons (.var 6) .nil)))) .skip) .skip) .skip) (.seq (.expr (.meth .sadd (.var 4) (.cons (.var 6) .nil))) (.seq (.expr (.meth .lappend (.var 3) (.cons (.next (.call .iter (.cons (.attr .succs (.sub (.var 1) (.var 6))) .nil))) .nil))) (.seq (.asg (.sub (.var 5) (.var 6)) (.call .len (.cons (.var 2) .nil))) (.seq (.expr (.meth .lappend (.var 2) (.cons (.var 6) .nil))) .skip))))) (.seq (.whil (.var 2) (.seq (.tryN 6 3 2 5) .skip) (.seq .brk .skip)) .skip)) .skip) .skip)) .skip) (.seq (.ret .none) .skip)))))))
theorem cycF (B:Bx):Fr0 B 127 cycN cycY:=⟨by kernel_rfl,by kernel_rfl,by kernel_rfl,by kernel_rfl⟩
noncomputable abbrev vfInitN:List (Str×Bool):=[snm "self" false,snm "headerlen" false,snm "maxlen" false,snm "continuation_ws" false,snm "splitchars" false]
noncomputable abbrev vfInitY:Y:=(.seq (.asg (.attr .maxlen (.var 0)) (.var 2)) (.seq (.asg (.attr .cws (.var 0)) (.var 3)) (.seq (.asg (.attr .cwslen (.var 0)) (.call .len (.cons (.var 3) .nil))) (.seq (.asg (.attr .splits (.var 0)) (.var 4)) (.seq (.asg (.attr .lines (.var 0)) (.list .nil)) (.seq (.asg (.attr .cur (.var 0)) (.call (.mkA 298 235) (.cons (.var 1) .nil))) .skip))))))
theorem Qv (B:Bx):Fr0 B 155 vfInitN vfInitY:=⟨by kernel_rfl,by kernel_rfl,by kernel_rfl,by kernel_rfl⟩
noncomputable abbrev nlN:List (Str×Bool):=[snm "self" false,snm "end_of_line" false]
noncomputable abbrev nlY:Y:=(.seq (.asg (.name 1) (.meth (.um .apop) (.attr .cur (.var 0)) .nil)) (.seq (.ite (.cmp .NotEq (.var 1) (.tup (.cons (.str [32]) (.cons (.str []) .nil)))) (.seq (.expr (.methS .push (.attr .cur (.var 0)) (.star (.var 1) .nil))) .skip) .skip) (.seq (.ite (.cmp .Gt (.call .len (.cons (.attr .cur (.var 0)) .nil)) (.int 0)) (.seq (.ite (.and (.meth (.um .ows) (.attr .cur (.var 0)) .nil) (.attr .lines (.var 0))) (.seq (.aug (.sub (.attr .lines (.var 0)) (.neg (.int 1))) .Add (.call .str (.cons (.attr .cur (.var 0)) .nil))) .skip) (.seq (.expr (.meth .lappend (.attr .lines (.var 0)) (.cons (.call .str (.cons (.attr .cur (.var 0)) .nil)) .nil))) .skip)) .skip) .skip) (.seq (.expr (.meth (.um .reset) (.attr .cur (.var 0)) .nil)) .skip))))
theorem nlF (B:Bx):Fr0 B 176 nlN nlY:=⟨by kernel_rfl,by kernel_rfl,by kernel_rfl,by kernel_rfl⟩
noncomputable abbrev chunkN:List (Str×Bool):=[snm "self" false,snm "fws" false,snm "string" false,snm "ch" false,snm "i" false,snm "prevpart" false,snm "part" false,snm "remainder" false]
noncomputable abbrev chunkY:Y:=(.seq (.expr (.meth (.um .push) (.attr .cur (.var 0)) (.cons (.var 1) (.cons (.var 2) .nil)))) (.seq (.ite (.cmp .Gt (.call .len (.cons (.attr .cur (.var 0)) .nil)) (.attr .maxlen (.var 0))) (.seq (.forr (.name 3) (.attr .splits (.var 0)) (.seq (.forr (.name 4) (.call .range (.cons (.bin .Sub (.meth (.um .pc) (.attr .cur (.var 0)) .nil) (.int 1)) (.cons (.int 0) (.cons (.neg (.int 1)) .nil)))) (.seq (.ite (.meth .isspace (.var 3) .nil) (.seq (.asg (.name 1) (.sub (.sub (.attr .cur (.var 0)) (.var 4)) (.int 0))) (.seq (.ite (.and (.var 1) (.cmp .Eq (.sub (.var 1) (.int 0)) (.var 3))) (.seq .brk .skip) .skip) .skip)) .skip) (.seq (.asg (.name 5) (.sub (.sub (.attr .cur (.var 0)) (.bin .Sub (.var 4) (.int 1))) (.int 1))) (.seq (.ite (.and (.var 5) (.cmp .Eq (.sub (.var 5) (.neg (.int 1))) (.var 3))) (.seq .brk .skip) .skip) .skip))) (.seq .cont .skip)) (.seq .brk .skip)) (.seq (.asg (.pair 1 6) (.meth (.um .apop) (.attr .cur (.var 0)) .nil)) (.seq (.ite (.cmp .Gt (.attr .isize (.attr .cur (.var 0))) (.int 0)) (.seq (.expr (.meth (.um .nl) (.var 0) .nil)) (.seq (.ite (.not (.var 1)) (.seq (.asg (.name 1) (.str [32])) .skip) .skip) .skip)) .skip) (.seq (.expr (.meth (.um .push) (.attr .cur (.var 0)) (.cons (.var 1) (.cons (.var 6) .nil)))) (.seq (.ret .none) .skip))))) (.seq (.asg (.name 7) (.meth (.um .popf) (.attr .cur (.var 0)) (.cons (.var 4) .nil))) (.seq (.expr (.meth .lappend (.attr .lines (.var 0)) (.cons (.call .str (.cons (.attr .cur (.var 0)) .nil)) .nil))) (.seq (.expr (.meth (.um .reset) (.attr .cur (.var 0)) (.cons (.var 7) .nil))) .skip)))) .skip) .skip))
theorem TL (B:Bx):Fr0 B 211 chunkN chunkY:=⟨by kernel_rfl,by kernel_rfl,by kernel_rfl,by kernel_rfl⟩
noncomputable abbrev apushN:List (Str×Bool):=[snm "self" false,snm "fws" false,snm "string" false]
noncomputable abbrev apushY:Y:=(.seq (.expr (.meth .lappend (.var 0) (.cons (.tup (.cons (.var 1) (.cons (.var 2) .nil))) .nil))) .skip)
theorem TU (B:Bx):Fr0 B 242 apushN apushY:=⟨by kernel_rfl,by kernel_rfl,by kernel_rfl,by kernel_rfl⟩
noncomputable abbrev popfN:List (Str×Bool):=[snm "self" false,snm "i" false,snm "popped" false]
noncomputable abbrev popfY:Y:=(.seq (.asg (.name 2) (.sub (.var 0) (.slice (.cons (.var 1) .nil) .nil .nil))) (.seq (.asg (.sub (.var 0) (.slice (.cons (.var 1) .nil) .nil .nil)) (.list .nil)) (.seq (.ret (.var 2)) .skip)))
theorem Ux (B:Bx):Fr0 B 250 popfN popfY:=⟨by kernel_rfl,by kernel_rfl,by kernel_rfl,by kernel_rfl⟩
noncomputable abbrev resetN:List (Str×Bool):=[snm "self" false,snm "startval" false]
noncomputable abbrev resetY:Y:=(.seq (.ite (.cmp .Is (.var 1) .none) (.seq (.asg (.name 1) (.list .nil)) .skip) .skip) (.seq (.asg (.sub (.var 0) (.slice .nil .nil .nil)) (.var 1)) (.seq (.asg (.attr .isize (.var 0)) (.int 0)) .skip)))
theorem PX (B:Bx):Fr0 B 280 resetN resetY:=⟨by kernel_rfl,by kernel_rfl,by kernel_rfl,by kernel_rfl⟩
noncomputable abbrev owsN:List (Str×Bool):=[snm "self" false]
noncomputable abbrev owsY:Y:=(.seq (.ret (.and (.cmp .Eq (.attr .isize (.var 0)) (.int 0)) (.or (.not (.var 0)) (.meth .isspace (.call .str (.cons (.var 0) .nil)) .nil)))) .skip)
theorem owsF (B:Bx):Fr0 B 287 owsN owsY:=⟨by kernel_rfl,by kernel_rfl,by kernel_rfl,by kernel_rfl⟩
noncomputable abbrev hpopN:List (Str×Bool):=[snm "heap" false,snm "lastelt" false,snm "returnitem" false]
noncomputable abbrev hpopY:Y:=(.seq (.asg (.name 1) (.meth .lpop (.var 0) .nil)) (.seq (.ite (.var 0) (.seq (.asg (.name 2) (.sub (.var 0) (.int 0))) (.seq (.asg (.sub (.var 0) (.int 0)) (.var 1)) (.seq (.expr (.call (.usr 330) (.cons (.var 0) (.cons (.int 0) .nil)))) (.seq (.ret (.var 2)) .skip)))) .skip) (.seq (.ret (.var 1)) .skip)))
theorem UA (B:Bx):Fr0 B 309 hpopN hpopY:=⟨by kernel_rfl,by kernel_rfl,by kernel_rfl,by kernel_rfl⟩
noncomputable abbrev heapifyN:List (Str×Bool):=[snm "x" false,snm "n" false,snm "i" false]
noncomputable abbrev heapifyY:Y:=(.seq (.asg (.name 1) (.call .len (.cons (.var 0) .nil))) (.seq (.forr (.name 2) (.rev (.call .range (.cons (.bin .FloorDiv (.var 1) (.int 2)) .nil))) (.seq (.expr (.call (.usr 330) (.cons (.var 0) (.cons (.var 2) .nil)))) .skip) .skip) .skip))
theorem Pi (B:Bx):Fr0 B 316 heapifyN heapifyY:=⟨by kernel_rfl,by kernel_rfl,by kernel_rfl,by kernel_rfl⟩
noncomputable abbrev sdownN:List (Str×Bool):=[snm "heap" false,snm "startpos" false,snm "pos" false,snm "newitem" false,snm "parentpos" false,snm "parent" false]
noncomputable abbrev sdownY:Y:=(.seq (.asg (.name 3) (.sub (.var 0) (.var 2))) (.seq (.whil (.cmp .Gt (.var 2) (.var 1)) (.seq (.asg (.name 4) (.bin .RShift (.bin .Sub (.var 2) (.int 1)) (.int 1))) (.seq (.asg (.name 5) (.sub (.var 0) (.var 4))) (.seq (.ite (.cmp .Lt (.var 3) (.var 5)) (.seq (.asg (.sub (.var 0) (.var 2)) (.var 5)) (.seq (.asg (.name 2) (.var 4)) (.seq .cont .skip))) .skip) (.seq .brk .skip)))) .skip) (.seq (.asg (.sub (.var 0) (.var 2)) (.var 3)) .skip)))
theorem SY (B:Bx):Fr0 B 323 sdownN sdownY:=⟨by kernel_rfl,by kernel_rfl,by kernel_rfl,by kernel_rfl⟩
noncomputable abbrev supN:List (Str×Bool):=[snm "heap" false,snm "pos" false,snm "endpos" false,snm "startpos" false,snm "newitem" false,snm "childpos" false,snm "rightpos" false]
noncomputable abbrev supY:Y:=(.seq (.asg (.name 2) (.call .len (.cons (.var 0) .nil))) (.seq (.asg (.name 3) (.var 1)) (.seq (.asg (.name 4) (.sub (.var 0) (.var 1))) (.seq (.asg (.name 5) (.bin .Add (.bin .Mult (.int 2) (.var 1)) (.int 1))) (.seq (.whil (.cmp .Lt (.var 5) (.var 2)) (.seq (.asg (.name 6) (.bin .Add (.var 5) (.int 1))) (.seq (.ite (.and (.cmp .Lt (.var 6) (.var 2)) (.not (.cmp .Lt (.sub (.var 0) (.var 5)) (.sub (.var 0) (.var 6))))) (.seq (.asg (.name 5) (.var 6)) .skip) .skip) (.seq (.asg (.sub (.var 0) (.var 1)) (.sub (.var 0) (.var 5))) (.seq (.asg (.name 1) (.var 5)) (.seq (.asg (.name 5) (.bin .Add (.bin .Mult (.int 2) (.var 1)) (.int 1))) .skip))))) .skip) (.seq (.asg (.sub (.var 0) (.var 1)) (.var 4)) (.seq (.expr (.call (.usr 323) (.cons (.var 0) (.cons (.var 3) (.cons (.var 1) .nil))))) .skip)))))))
theorem supF (B:Bx):Fr0 B 330 supN supY:=⟨by kernel_rfl,by kernel_rfl,by kernel_rfl,by kernel_rfl⟩
noncomputable abbrev lCellsN:List (Str×Bool):=[snm "script" false,snm "base" false,snm "cells" false,snm "k" false]
noncomputable abbrev lCellsY:Y:=(.seq (.asg (.name 2) (.call .list (.cons (.var 1) .nil))) (.seq (.forr (.name 3) (.call .range (.cons (.call .len (.cons (.var 0) .nil)) .nil)) (.seq (.aug (.sub (.var 2) (.bin .Mod (.var 3) (.call .len (.cons (.var 2) .nil)))) .Add (.sub (.var 0) (.var 3))) .skip) .skip) (.seq (.ret (.var 2)) .skip)))
theorem Ru (B:Bx):Fr0 B 337 lCellsN lCellsY:=⟨by kernel_rfl,by kernel_rfl,by kernel_rfl,by kernel_rfl⟩
noncomputable abbrev lOrderN:List (Str×Bool):=[snm "number" false,snm "signs" false,snm "order" false,snm "k" false]
noncomputable abbrev lOrderY:Y:=(.seq (.asg (.name 1) (.list (.cons (.str [59]) (.cons (.str [44]) (.cons (.str [32]) (.cons (.str [9]) .nil)))))) (.seq (.asg (.name 2) (.str [])) (.seq (.forr (.name 3) (.tup (.cons (.int 4) (.cons (.int 3) (.cons (.int 2) (.cons (.int 1) .nil))))) (.seq (.aug (.name 2) .Add (.meth .lpop (.var 1) (.cons (.bin .Mod (.var 0) (.var 3)) .nil))) (.seq (.aug (.name 0) .FloorDiv (.var 3)) .skip)) .skip) (.seq (.ret (.sub (.var 2) (.slice .nil (.cons (.bin .Sub (.int 4) (.bin .Mod (.var 0) (.int 2))) .nil) .nil))) .skip))))
theorem Rt (B:Bx):Fr0 B 344 lOrderN lOrderY:=⟨by kernel_rfl,by kernel_rfl,by kernel_rfl,by kernel_rfl⟩
noncomputable abbrev lRanksN:List (Str×Bool):=[snm "marks" false,snm "order" true,snm "ranks" false,snm "k" false,snm "end" false,snm "white" false,snm "near" false]
noncomputable abbrev lRanksY:Y:=(.seq (.asg (.name 2) .dict) (.seq (.forr (.name 3) (.call .range (.cons (.call .len (.cons (.var 0) .nil)) .nil)) (.seq (.asg (.pair 4 5) (.sub (.var 0) (.var 3))) (.seq (.asg (.name 6) (.comp false [1] (.meth .index (.var 1) (.cons (.var 0) .nil)) (.tup (.cons (.var 4) (.cons (.sub (.var 5) (.slice .nil (.cons (.int 1) .nil) .nil)) .nil))) (.and (.cmp .NotEq (.var 0) (.str [])) (.cmp .In (.var 0) (.var 1))))) (.seq (.ite (.cmp .NotEq (.var 6) (.list .nil)) (.seq (.asg (.sub (.var 2) (.bin .Add (.var 3) (.int 1))) (.call .min (.cons (.var 6) .nil))) .skip) .skip) .skip))) .skip) (.seq (.ret (.var 2)) .skip)))
theorem Rr (B:Bx):Fr0 B 349 lRanksN lRanksY:=⟨by kernel_rfl,by kernel_rfl,by kernel_rfl,by kernel_rfl⟩
noncomputable abbrev lSorterN:List (Str×Bool):=[snm "ranks" true,snm "sorter" false,snm "place" true,snm "needs" false]
noncomputable abbrev lSorterY:Y:=(.seq (.asg (.name 1) (.call (.mkI 137 73) .nil)) (.seq (.forr (.name 2) (.var 0) (.seq (.asg (.name 3) (.comp false [2,0] (.var 0) (.var 0) (.and (.cmp .Gt (.var 0) (.var 1)) (.cmp .LtE (.sub (.var 2) (.var 0)) (.sub (.var 2) (.var 1)))))) (.seq (.expr (.methS .add (.var 1) (.cons (.var 2) (.star (.sub (.var 3) (.slice (.cons (.int 1) .nil) .nil .nil)) .nil)))) (.seq (.expr (.methS .add (.var 1) (.cons (.var 2) (.star (.sub (.var 3) (.slice .nil (.cons (.int 1) .nil) .nil)) .nil)))) .skip))) .skip) (.seq (.expr (.meth (.um .prep) (.var 1) .nil)) (.seq (.ret (.var 1)) .skip))))
theorem OW (B:Bx):Fr0 B 354 lSorterN lSorterY:=⟨by kernel_rfl,by kernel_rfl,by kernel_rfl,by kernel_rfl⟩
noncomputable abbrev lChunksN:List (Str×Bool):=[snm "marks" false,snm "stems" true,snm "ends" true,snm "whites" true]
noncomputable abbrev lChunksY:Y:=(.seq (.asg (.name 1) (.list (.cons (.str [59,97]) (.cons (.str [44,98]) (.cons (.str [32,99]) (.cons (.str [9,100]) (.cons (.str [59,101]) (.cons (.str [44,102]) (.cons (.str [32,103]) (.cons (.str [9,104]) .nil)))))))))) (.seq (.asg (.name 2) (.bin .Add (.comp true [] (.var 0) (.var 0) (.bool true)) (.list (.cons (.str []) .nil)))) (.seq (.asg (.name 3) (.bin .Add (.list (.cons (.str []) .nil)) (.comp true [] (.var 1) (.var 0) (.bool true)))) (.seq (.ret (.comp false [2,1,3] (.tup (.cons (.sub (.var 3) (.var 0)) (.cons (.bin .Add (.sub (.var 2) (.var 0)) (.sub (.var 1) (.var 0))) .nil))) (.call .range (.cons (.call .len (.cons (.var 2) .nil)) .nil)) (.bool true))) .skip))))
theorem Pb (B:Bx):Fr0 B 359 lChunksN lChunksY:=⟨by kernel_rfl,by kernel_rfl,by kernel_rfl,by kernel_rfl⟩
noncomputable abbrev lFoldedN:List (Str×Bool):=[snm "chunks" false,snm "order" false,snm "many" true,snm "fws" false,snm "part" false,snm "size" false,snm "lines" false,snm "told" false]
noncomputable abbrev lFoldedY:Y:=(.seq (.asg (.name 5) (.call .sum (.cons (.comp true [] (.bin .Add (.call .len (.cons (.var 0) .nil)) (.call .len (.cons (.var 1) .nil))) (.var 0) (.bool true)) .nil))) (.seq (.asg (.name 6) (.call (.mkI 214 155) (.cons (.int 0) (.cons (.var 5) (.cons (.str [32]) (.cons (.var 1) .nil)))))) (.seq (.forr (.pair 3 4) (.var 0) (.seq (.expr (.meth (.um .chunk) (.var 6) (.cons (.var 3) (.cons (.var 4) .nil)))) .skip) .skip) (.seq (.asg (.name 7) (.list .nil)) (.seq (.forr (.name 4) (.bin .Add (.list (.cons (.bin .Mult (.str [122]) (.bin .Add (.var 5) (.int 1))) .nil)) (.bin .Mult (.list (.cons (.str []) .nil)) (.var 2))) (.seq (.expr (.meth (.um .chunk) (.var 6) (.cons (.str []) (.cons (.var 4) .nil)))) (.seq (.expr (.meth .lappend (.var 7) (.cons (.call .len (.cons (.attr .lines (.var 6)) .nil)) .nil))) .skip)) .skip) (.seq (.ite (.cmp .NotEq (.var 7) (.comp false [2] (.call .min (.cons (.bin .Add (.var 0) (.int 1)) (.cons (.var 1) .nil))) (.call .range (.cons (.bin .Add (.var 2) (.int 1)) .nil)) (.bool true))) (.seq (.ret (.list .nil)) .skip) .skip) (.seq (.expr (.meth (.um .nl) (.var 6) .nil)) (.seq (.ret (.attr .lines (.var 6))) .skip))))))))
theorem Pa (B:Bx):Fr0 B 364 lFoldedN lFoldedY:=⟨by kernel_rfl,by kernel_rfl,by kernel_rfl,by kernel_rfl⟩
noncomputable abbrev lPartedN:List (Str×Bool):=[snm "chunks" false,snm "cuts" false,snm "texts" true,snm "bounds" true,snm "rows" false]
noncomputable abbrev lPartedY:Y:=(.seq (.asg (.name 2) (.comp true [] (.bin .Add (.var 0) (.var 1)) (.var 0) (.bool true))) (.seq (.asg (.name 3) (.bin .Add (.bin .Add (.list (.cons (.int 0) .nil)) (.var 1)) (.list (.cons (.call .len (.cons (.var 2) .nil)) .nil)))) (.seq (.asg (.name 4) (.comp false [3,2] (.meth .join (.str []) (.cons (.sub (.var 2) (.slice (.cons (.sub (.var 1) (.bin .Sub (.var 0) (.int 1))) .nil) (.cons (.sub (.var 1) (.var 0)) .nil) .nil)) .nil)) (.call .range (.cons (.int 1) (.cons (.call .len (.cons (.var 3) .nil)) .nil))) (.bool true))) (.seq (.ret (.bin .Add (.sub (.var 4) (.slice .nil (.cons (.neg (.int 1)) .nil) .nil)) (.list (.cons (.bin .Add (.sub (.var 4) (.neg (.int 1))) (.bin .Mult (.str [122]) (.bin .Add (.call .len (.cons (.meth .join (.str []) (.cons (.var 2) .nil)) .nil)) (.int 1)))) .nil)))) .skip))))
theorem OY (B:Bx):Fr0 B 369 lPartedN lPartedY:=⟨by kernel_rfl,by kernel_rfl,by kernel_rfl,by kernel_rfl⟩
noncomputable abbrev lRecordsN:List (Str×Bool):=[snm "heap" false,snm "cuts" false,snm "kept" false,snm "key" false,snm "place" false]
noncomputable abbrev lRecordsY:Y:=(.seq (.expr (.call (.usr 316) (.cons (.var 0) .nil))) (.seq (.asg (.name 1) (.list .nil)) (.seq (.asg (.name 2) (.list .nil)) (.seq (.whil (.var 0) (.seq (.asg (.name 3) (.call (.usr 309) (.cons (.var 0) .nil))) (.seq (.asg (.name 4) (.bin .Sub (.int 15) (.bin .Mod (.var 3) (.int 16)))) (.seq (.ite (.or (.cmp .Eq (.var 1) (.list .nil)) (.cmp .Gt (.var 4) (.sub (.var 1) (.neg (.int 1))))) (.seq (.expr (.meth .lappend (.var 1) (.cons (.var 4) .nil))) .skip) (.seq (.expr (.meth .lappend (.var 2) (.cons (.var 3) .nil))) .skip)) .skip))) .skip) (.seq (.ret (.tup (.cons (.var 1) (.cons (.sub (.var 2) (.slice .nil .nil (.cons (.neg (.int 1)) .nil))) .nil)))) .skip)))))
theorem Ni (B:Bx):Fr0 B 376 lRecordsN lRecordsY:=⟨by kernel_rfl,by kernel_rfl,by kernel_rfl,by kernel_rfl⟩
noncomputable abbrev lFreedN:List (Str×Bool):=[snm "sorter" false,snm "cuts" false,snm "later" false,snm "single" false,snm "bounds" true,snm "k" true]
noncomputable abbrev lFreedY:Y:=(.seq (.ite (.not (.var 3)) (.seq (.expr (.methS .done (.var 0) (.star (.var 1) .nil))) (.seq (.ret (.cmp .Eq (.call .sorted (.cons (.meth (.um .ready) (.var 0) .nil) .nil)) (.var 2))) .skip)) .skip) (.seq (.asg (.name 4) (.bin .Add (.list (.cons (.int 0) .nil)) (.var 1))) (.seq (.forr (.name 5) (.call .range (.cons (.call .len (.cons (.var 1) .nil)) (.cons (.int 0) (.cons (.neg (.int 1)) .nil)))) (.seq (.expr (.meth (.um .done) (.var 0) (.cons (.sub (.var 4) (.var 5)) .nil))) (.seq (.ite (.cmp .NotEq (.call .sorted (.cons (.meth (.um .ready) (.var 0) .nil) .nil)) (.comp false [4,5] (.var 0) (.var 2) (.chain .Lt .Lt (.sub (.var 1) (.bin .Sub (.var 2) (.int 1))) (.var 0) (.sub (.var 1) (.var 2))))) (.seq (.ret (.bool false)) .skip) .skip) .skip)) .skip) (.seq (.ret (.bool true)) .skip))))
theorem Nk (B:Bx):Fr0 B 381 lFreedN lFreedY:=⟨by kernel_rfl,by kernel_rfl,by kernel_rfl,by kernel_rfl⟩
noncomputable abbrev lRunN:List (Str×Bool):=[snm "sorter" false,snm "cuts" true,snm "heap" false,snm "marks" true,snm "order" false,snm "single" false,snm "chunks" false,snm "later" false]
noncomputable abbrev lRunY:Y:=(.seq (.asg (.name 5) (.bool true)) (.seq (.whil (.cmp .NotEq (.var 1) (.list .nil)) (.seq (.asg (.name 6) (.call (.usr 359) (.cons (.var 3) .nil))) (.seq (.ite (.or (.not (.meth (.um .active) (.var 0) .nil)) (.cmp .NotEq (.call (.usr 364) (.cons (.var 6) (.cons (.var 4) (.cons (.call .len (.cons (.var 1) .nil)) .nil)))) (.call (.usr 369) (.cons (.var 6) (.cons (.var 1) .nil))))) (.seq (.ret (.bool false)) .skip) .skip) (.seq (.asg (.pair 7 2) (.call (.usr 376) (.cons (.var 2) .nil))) (.seq (.ite (.not (.call (.usr 381) (.cons (.var 0) (.cons (.var 1) (.cons (.var 7) (.cons (.var 5) .nil)))))) (.seq (.ret (.bool false)) .skip) .skip) (.seq (.asg (.name 3) (.comp false [1,3] (.ite (.cmp .In (.bin .Add (.var 0) (.int 1)) (.var 1)) (.tup (.cons (.str []) (.cons (.str []) .nil))) (.sub (.var 2) (.var 0))) (.call .range (.cons (.call .len (.cons (.var 3) .nil)) .nil)) (.bool true))) (.seq (.asg (.name 1) (.var 7)) (.seq (.asg (.name 5) (.not (.var 5))) .skip))))))) .skip) (.seq (.asg (.name 6) (.call (.usr 359) (.cons (.var 3) .nil))) (.seq (.ret (.and (.not (.meth (.um .active) (.var 0) .nil)) (.cmp .Eq (.call (.usr 364) (.cons (.var 6) (.cons (.var 4) (.cons (.int 0) .nil)))) (.call (.usr 369) (.cons (.var 6) (.cons (.list .nil) .nil)))))) .skip))))
theorem U6 (B:Bx):Fr0 B 386 lRunN lRunY:=⟨by kernel_rfl,by kernel_rfl,by kernel_rfl,by kernel_rfl⟩
noncomputable abbrev lawN:List (Str×Bool):=[snm "script" false,snm "cells" false,snm "order" false,snm "marks" false,snm "ranks" true,snm "sorter" false,snm "cuts" false,snm "heap" false,snm "group" false]
noncomputable abbrev lawY:Y:=(.seq (.asg (.name 1) (.call (.usr 337) (.cons (.var 0) (.cons (.list (.cons (.int 0) (.cons (.int 1) (.cons (.int 5) (.cons (.int 9) (.cons (.int 7) (.cons (.int 3) (.cons (.int 2) (.cons (.int 6) .nil))))))))) .nil)))) (.seq (.asg (.name 2) (.call (.usr 344) (.cons (.sub (.var 1) (.int 0)) .nil))) (.seq (.asg (.name 3) (.comp false [] (.tup (.cons (.sub (.list (.cons (.str []) (.cons (.str [59]) (.cons (.str [44]) .nil)))) (.bin .Mod (.var 0) (.int 3))) (.cons (.sub (.list (.cons (.str []) (.cons (.str [32]) (.cons (.str [9]) (.cons (.str [32,9]) .nil))))) (.bin .Mod (.bin .FloorDiv (.var 0) (.int 3)) (.int 4))) .nil))) (.sub (.var 1) (.slice (.cons (.int 1) .nil) .nil .nil)) (.bool true))) (.seq (.asg (.name 4) (.call (.usr 349) (.cons (.var 3) (.cons (.var 2) .nil)))) (.seq (.asg (.name 5) (.call (.usr 354) (.cons (.var 4) .nil))) (.seq (.asg (.pair 6 7) (.call (.usr 376) (.cons (.comp false [4] (.bin .Sub (.bin .Add (.bin .Mult (.int 16) (.sub (.var 1) (.var 0))) (.int 15)) (.var 0)) (.var 4) (.bool true)) .nil))) (.seq (.asg (.name 8) (.meth (.um .ready) (.var 5) .nil)) (.seq (.ite (.or (.not (.call .isinst (.cons (.var 8) (.cons (.ty "tuple") .nil)))) (.cmp .NotEq (.call .sorted (.cons (.var 8) .nil)) (.var 6))) (.seq (.ret (.bool false)) .skip) .skip) (.seq (.ret (.call (.usr 386) (.cons (.var 5) (.cons (.var 6) (.cons (.var 7) (.cons (.var 3) (.cons (.var 2) .nil))))))) .skip)))))))))
theorem Ua (B:Bx):Fr0 B 391 lawN lawY:=⟨by kernel_rfl,by kernel_rfl,by kernel_rfl,by kernel_rfl⟩
end
section
noncomputable def sdn (x:Int) (st:Nat):Nat->Nat->List Int->List Int
 | 0,pos,xs=>xs.set pos x
 | n+1,pos,xs=>if st<pos then (if x<xs[(pos - 1) / 2]?.getD 0 then sdn x st n ((pos - 1) / 2) (xs.set pos (xs[(pos - 1) / 2]?.getD 0)) else xs.set pos x) else xs.set pos x
noncomputable def lc (pos:Nat) (xs:List Int):Nat:=if 2*pos+2<xs.length∧¬xs[2*pos+1]?.getD 0<xs[2*pos+2]?.getD 0 then 2*pos+2 else 2*pos+1
noncomputable def dn:Nat->Nat->List Int->Nat×List Int
 | 0,pos,xs=>(pos,xs)
 | n+1,pos,xs=>if 2*pos+1<xs.length then dn n (lc pos xs) (xs.set pos (xs[lc pos xs]?.getD 0)) else (pos,xs)
noncomputable abbrev at' (xs:List Int) (i:Nat):Int:=xs[i]?.getD 0
structure PE (s p:Nat) (xs:List Int):Prop where
 a:∀ i,0<i->i<xs.length->s≤(i - 1) / 2->i≠p->(i - 1) / 2≠p->at' xs ((i - 1) / 2)≤at' xs i
 b:s<p->∀ i,0<i->i<xs.length->(i - 1) / 2=p->at' xs ((p - 1) / 2)≤at' xs i
 d:Ex2 fun k q:Nat=>q<2 ^ k∧p+1=2 ^ k*(s+1)+q
noncomputable def HeapFrom (s:Nat) (xs:List Int):Prop:=∀ i,0<i->i<xs.length->s≤(i - 1) / 2->at' xs ((i - 1) / 2)≤at' xs i
theorem Mb (x:Int) (st n pos:Nat) (xs:List Int):sdn x st (n+1) pos xs=if st<pos then (if x<xs[(pos - 1) / 2]?.getD 0 then sdn x st n ((pos - 1) / 2) (xs.set pos (xs[(pos - 1) / 2]?.getD 0)) else xs.set pos x) else xs.set pos x:=rfl
theorem Uc (n pos:Nat) (xs:List Int):dn (n+1) pos xs=if 2*pos+1<xs.length then dn n (lc pos xs) (xs.set pos (xs[lc pos xs]?.getD 0)) else (pos,xs):=rfl
theorem HB (xs:List Int) (i j:Nat) (x:Int) (h:i<xs.length):at' (xs.set i x) j=if j=i then x else at' xs j:=by
 unfold at'
 rw [List.getElem?_set]
 by_cases e:i=j
 ·subst e; rw [if_pos rfl,if_pos h,if_pos rfl]; rfl
 ·rw [if_neg e,if_neg (Dc e)]
theorem NA {s p:Nat} (d:Ex2 fun (k q:Nat)=>q<2 ^ k∧p+1=2 ^ k*(s+1)+q) (h:s<p):s≤(p - 1) / 2∧Ex2 fun (k q:Nat)=>q<2 ^ k∧(p - 1) / 2+1=2 ^ k*(s+1)+q:=by
 obtain ⟨k,q,h1,h2⟩:=d
 cases k with
 | zero =>
  obtain rfl:=Nat.lt_one_iff.mp h1
  rw [Nat.pow_zero,Nat.one_mul,Nat.add_zero] at h2
  exact absurd h (by rw [Nat.succ.inj h2]; exact Cm _)
 | succ k =>
  have e:(p - 1) / 2+1=(p+1) / 2:=N4 (Ag (A4 _) h)
  have e2:(p+1) / 2=2 ^ k*(s+1)+q / 2:=by rw [h2,Nat.pow_succ,Nat.mul_assoc,Nat.mul_left_comm]; exact Nat.mul_add_div (by decide) _ _
  have h3:q / 2<2 ^ k:=by rw [Gp] at h1; exact Nat.div_lt_of_lt_mul h1
  have h4:s+1≤2 ^ k*(s+1):=B9 _ (Nat.two_pow_pos k)
  exact ⟨EE (by rw [show ((p - 1) / 2).succ=_ from e.trans e2]; exact Ab h4 (A3 ..)),k,q / 2,h3,by rw [e,e2]⟩
theorem NB {s p c:Nat} (d:Ex2 fun (k q:Nat)=>q<2 ^ k∧p+1=2 ^ k*(s+1)+q) (h:c=2*p+1∨c=2*p+2):s<c∧Ex2 fun (k q:Nat)=>q<2 ^ k∧c+1=2 ^ k*(s+1)+q:=by
 obtain ⟨k,q,h1,h2⟩:=d
 have h4:s≤p:=EE (Ab (B9 _ (Nat.two_pow_pos k)) (EF (A1 h2.symm)))
 have h5:2*(p+1)=2 ^ (k+1)*(s+1)+2*q:=by rw [h2,Nat.mul_add,← Nat.mul_assoc,Gp,Nat.mul_comm 2]
 have h6:2*(q+1)≤2 ^ (k+1):=by rw [Gp]; exact CL 2 h1
 rcases h with rfl | rfl
 ·exact ⟨B1 (Ab h4 (B9 _ (by decide))),k+1,2*q,AA h6,h5⟩
 ·exact ⟨B1 (AK (Ab h4 (B9 _ (by decide)))),k+1,2*q+1,h6,congrArg (· + 1) h5⟩
theorem JH {x:Int} {s p:Nat} {xs:List Int} (hp:p<xs.length) (H:PE s p xs) (hx:∀ i,0<i->i<xs.length->(i - 1) / 2=p->x≤at' xs i) (nd:¬(s<p∧x<at' xs ((p - 1) / 2))):HeapFrom s (xs.set p x):=fun i h0 hi hs=>by
 rw [Aq] at hi
 rw [HB _ _ _ _ hp,HB _ _ _ _ hp]
 by_cases e1:i=p
 ·subst e1
  rw [if_pos rfl,if_neg (AE (Hw h0))]
  exact BE.mp fun h=>nd ⟨Ag hs (Hw h0),h⟩
 ·rw [if_neg e1]
  by_cases e2:(i - 1) / 2=p
  ·rw [if_pos e2]; exact hx i h0 hi e2
  ·rw [if_neg e2]; exact H.a i h0 hi hs e1 e2
theorem O9 {x:Int} {s:Nat} (n:Nat):∀ (p:Nat) (xs:List Int),p≤n->p<xs.length->PE s p xs->(∀ i,0<i->i<xs.length->(i - 1) / 2=p->x≤at' xs i)->HeapFrom s (sdn x s n p xs):=by
 induction n with
 | zero=>exact fun p xs hn hp H hx=>JH hp H hx fun h=>absurd (An h.1 hn) (CX _)
 | succ n ih =>
   intro p xs hn hp H hx
   rw [Mb]
   by_cases h1:s<p
   ·rw [if_pos h1]
    by_cases h2:x<xs[(p - 1) / 2]?.getD 0
    ·rw [if_pos h2]
     obtain ⟨d1,d2⟩:=NA H.d h1
     have hpp:(p - 1) / 2<p:=Hw (Cp h1)
     have hq:s<(p - 1) / 2->((p - 1) / 2 - 1) / 2≠p:=fun h=>AE (BK (Hw (Cp h)) hpp)
     have par:s<(p - 1) / 2->at' xs (((p - 1) / 2 - 1) / 2)≤at' xs ((p - 1) / 2):=fun h=>H.a _ (Cp h) (BK hpp hp) (NA d2 h).1 (AE hpp) (hq h)
     refine ih ((p - 1) / 2) _ (B2 (An hpp hn)) (by rw [Aq]; exact BK hpp hp) ⟨fun i h0 hi hs e1 e2=>?_,fun h i h0 hi e=>?_,d2⟩ fun i h0 hi e=>?_
     ·rw [Aq] at hi
      rw [HB _ _ _ _ hp,HB _ _ _ _ hp]
      by_cases e3:i=p
      ·subst e3; exact absurd rfl e2
      ·rw [if_neg e3]
       by_cases e4:(i - 1) / 2=p
       ·rw [if_pos e4]; exact H.b h1 i h0 hi e4
       ·rw [if_neg e4]; exact H.a i h0 hi hs e3 e4
     ·rw [Aq] at hi
      rw [HB _ _ _ _ hp,HB _ _ _ _ hp,if_neg (hq h)]
      have:=par h
      by_cases e3:i=p
      ·rw [if_pos e3]; exact this
      ·rw [if_neg e3]
       have h5:=H.a i h0 hi (Ab d1 (A1 e.symm)) e3 fun q=>absurd (e.symm.trans q) (AE hpp)
       rw [e] at h5
       exact Bw this h5
     ·rw [Aq] at hi
      rw [HB _ _ _ _ hp]
      by_cases e3:i=p
      ·rw [if_pos e3]; exact Bf h2
      ·rw [if_neg e3]
       have h5:=H.a i h0 hi (Ab d1 (A1 e.symm)) e3 fun q=>absurd (e.symm.trans q) (AE hpp)
       rw [e] at h5
       exact Bf (B8 h2 h5)
    ·rw [if_neg h2]; exact JH hp H hx fun h=>h2 h.2
   ·rw [if_neg h1]; exact JH hp H hx fun h=>h1 h.1
theorem LP {xs:List Int} {p q:Nat} {x:Int} (hp:p<xs.length) (hq:q<xs.length) (ne:p≠q) (a:Int):((xs.set p (at' xs q)).set q x).count a=(xs.set p x).count a:=by
 have e:at' xs q=xs[q]:=by unfold at'; rw [Ac hq]; rfl
 generalize at' xs q=v at e
 have hq':q<(xs.set p v).length:=by rw [Aq]; exact hq
 rw [FQ hq',FQ hp,FQ hp,List.getElem_set_ne ne]
 rw [← e,Nat.add_sub_cancel]
theorem MC {x:Int} {s:Nat} (n:Nat):∀ (p:Nat) (xs:List Int),(sdn x s n p xs).length=xs.length:=by
 induction n with
 | zero=>exact fun p xs=>Aq
 | succ n ih =>
  intro p xs
  rw [Mb]
  by_cases h:s<p
  ·rw [if_pos h]
   by_cases h:x<xs[(p - 1) / 2]?.getD 0
   ·rw [if_pos h,ih,Aq]
   ·rw [if_neg h]; exact Aq
  ·rw [if_neg h]; exact Aq
theorem QL {x:Int} {s:Nat} (a:Int) (n:Nat):∀ (p:Nat) (xs:List Int),p<xs.length->(sdn x s n p xs).count a=(xs.set p x).count a:=by
 induction n with
 | zero=>exact fun p xs _=>rfl
 | succ n ih =>
  intro p xs hp
  rw [Mb]
  by_cases h:s<p
  ·rw [if_pos h]
   by_cases h2:x<xs[(p - 1) / 2]?.getD 0
   ·rw [if_pos h2,ih _ _ (by rw [Aq]; exact Jf hp)]
    exact LP hp (Jf hp) (AG (Hw (Cp h))) a
   ·rw [if_neg h2]
  ·rw [if_neg h]
theorem LF (p:Nat) (xs:List Int):lc p xs=2*p+1∨lc p xs=2*p+2:=by
 unfold lc; by_cases h:2*p+2<xs.length∧¬xs[2*p+1]?.getD 0<xs[2*p+2]?.getD 0
 ·exact .inr (if_pos h)
 ·exact .inl (if_neg h)
theorem T3 {p:Nat} {xs:List Int} (h:2*p+1<xs.length):lc p xs<xs.length:=by
 unfold lc; by_cases q:2*p+2<xs.length∧¬xs[2*p+1]?.getD 0<xs[2*p+2]?.getD 0
 ·rw [if_pos q]; exact q.1
 ·rw [if_neg q]; exact h
set_option tactic.hygienic true in
theorem OV {p:Nat} {xs:List Int} (h:2*p+1<xs.length) {i:Nat} (h0:0<i) (hi:i<xs.length) (e:(i - 1) / 2=p):at' xs (lc p xs)≤at' xs i:=by
 have:i=2*p+1∨i=2*p+2:=by
  obtain ⟨j,rfl⟩:=CR (AG h0)
  have q:=Nat.div_add_mod j 2
  rw [show j / 2=p from e] at q
  rcases Nat.mod_two_eq_zero_or_one j with r | r
  ·rw [r] at q; exact .inl (congrArg Nat.succ q.symm)
  ·rw [r] at q; exact .inr (congrArg Nat.succ q.symm)
 unfold lc
 split
 ·rename_i c
  rcases this with rfl | rfl
  ·exact BE.mp c.2
  ·exact CN _
 ·rename_i c
  rcases this with rfl | rfl
  ·exact CN _
  ·refine Bf (AI fun q=>c ⟨hi,q⟩)
theorem TG {s:Nat} (n:Nat):∀ (p:Nat) (xs:List Int),xs.length≤n+p+1->p<xs.length->PE s p xs->PE s (dn n p xs).1 (dn n p xs).2∧(dn n p xs).1<xs.length∧(dn n p xs).2.length=xs.length∧xs.length≤2*(dn n p xs).1+1∧∀ x a:Int,((dn n p xs).2.set (dn n p xs).1 x).count a=(xs.set p x).count a:=by
 have stop:∀ {p:Nat} {xs:List Int},p<xs.length->PE s p xs->¬(2*p+1<xs.length)->PE s p xs∧p<xs.length∧xs.length=xs.length∧xs.length≤2*p+1∧∀ x a:Int,(xs.set p x).count a=(xs.set p x).count a:=fun hp H h=>⟨H,hp,rfl,by exact Bh.mp (by assumption),fun _ _=>rfl⟩
 induction n with
 | zero=>exact fun p xs hn hp H=>stop (p:=p) (xs:=xs) hp H (Bh.mpr (Ab hn (by rw [Nat.zero_add]; exact AB (B9 _ (by decide)))))
 | succ n ih =>
   intro p xs hn hp H
   rw [Uc]
   by_cases h:2*p+1<xs.length
   ·rw [if_pos h]
    have hl:=T3 h
    have hc:=LF p xs
    obtain ⟨d1,d2⟩:=NB H.d hc
    have H':PE s (lc p xs) (xs.set p (at' xs (lc p xs))):=by
     refine ⟨fun i h0 hi hs e1 e2=>?_,fun h' i h0 hi e=>?_,d2⟩
     ·rw [Aq] at hi
      rw [HB _ _ _ _ hp,HB _ _ _ _ hp]
      by_cases e3:i=p
      ·subst e3
       rw [if_pos rfl,if_neg (AE (Hw h0))]
       exact H.b (Ag hs (Hw h0)) _ (Cp d1) hl (LI hc)
      ·rw [if_neg e3]
       by_cases e4:(i - 1) / 2=p
       ·rw [if_pos e4]; exact OV h h0 hi e4
       ·rw [if_neg e4]; exact H.a i h0 hi hs e3 e4
     ·rw [Aq] at hi
      have np:i≠p:=AG (BK (LJ hc) (Ag (A1 e.symm) (Hw h0)))
      rw [HB _ _ _ _ hp,HB _ _ _ _ hp,if_pos (LI hc),if_neg np]
      have:=H.a i h0 hi (Ab (Ay d1) (A1 e.symm)) np fun q=>absurd (e.symm.trans q) (AG (LJ hc))
      rwa [e] at this
    obtain ⟨r1,r2,r3,r4,r5⟩:=ih (lc p xs) (xs.set p (at' xs (lc p xs))) (by rw [Aq]; exact LH hc hn) (by rw [Aq]; exact hl) H'
    rw [Aq] at r2 r3 r4
    exact ⟨r1,r2,r3,r4,fun x a=>(r5 x a).trans (LP hp hl (AE (LJ hc)) a)⟩
   ·rw [if_neg h]; exact stop hp H h
noncomputable def supf (s:Nat) (xs:List Int):List Int:=sdn (at' xs s) s xs.length (dn xs.length s xs).1 ((dn xs.length s xs).2.set (dn xs.length s xs).1 (at' xs s))
theorem SX {xs:List Int} {s:Nat} (h:s<xs.length):xs.set s (at' xs s)=xs:=by
 unfold at'; rw [Ac h]; simp
theorem O8 {xs:List Int} {s:Nat} {x y:Int}:(xs.set s x).set s y=xs.set s y:=List.set_set ..
theorem Lo {s:Nat} {xs:List Int} (hs:s<xs.length) (h:HeapFrom (s+1) xs):HeapFrom s (supf s xs)∧(supf s xs).length=xs.length∧(supf s xs).Perm xs:=by
 have H:PE s s xs:=⟨fun i h0 hi hs e1 e2=>h i h0 hi (Nat.lt_of_le_of_ne hs (Dc e2)),fun h=>absurd h (Cm _),0,0,by simp,by simp⟩
 obtain ⟨r1,r2,r3,r4,r5⟩:=TG xs.length s xs (AK (A3 ..)) hs H
 unfold supf
 have le:(dn xs.length s xs).1<(dn xs.length s xs).2.length:=by rw [r3]; exact r2
 have H2:PE s (dn xs.length s xs).1 ((dn xs.length s xs).2.set (dn xs.length s xs).1 (at' xs s)):=by
  refine ⟨fun i h0 hi hs e1 e2=>?_,fun h i h0 hi e=>?_,r1.d⟩
  ·rw [Aq] at hi
   rw [HB _ _ _ _ le,HB _ _ _ _ le,if_neg e1,if_neg e2]; exact r1.a i h0 hi hs e1 e2
  ·rw [Aq,r3] at hi; exact absurd hi (Bh.mpr (Ab r4 (Qk h0 e)))
 refine ⟨O9 _ _ _ (by exact Ay (by assumption)) (by rw [Aq]; exact le) H2 fun i h0 hi e=>?_,by rw [MC,Aq,r3],?_⟩
 ·rw [Aq,r3] at hi; exact absurd hi (Bh.mpr (Ab r4 (Qk h0 e)))
 ·rw [List.perm_iff_count]
  intro a
  rw [QL a _ _ _ (by rw [Aq]; exact le),O8,r5,SX hs]
end
section
theorem NU {xs:List Int} {i:Nat} (h:i<xs.length):xs[i]?=some (at' xs i):=by unfold at'; rw [Ac h]; rfl
theorem Pj {xs:List Int} (h:HeapFrom 0 xs):∀ i,i<xs.length->at' xs 0≤at' xs i:=by
 intro i
 induction i using Nat.strongRecOn with
 | ind i ih =>
  intro hi
  by_cases h0:i=0
  ·subst h0; exact CN _
  ·exact Bw (ih ((i - 1) / 2) (Ag (DV ..) (FX h0)) (Jf hi)) (h i (by exact Nat.pos_of_ne_zero (by assumption)) hi (A4 _))
theorem TR {xs:List Int} {x:Int} (h:x∈xs):∃ i,i<xs.length∧at' xs i=x:=by
 obtain ⟨i,hi,e⟩:=CH h
 exact ⟨i,hi,by unfold at'; rw [Ac hi]; exact e⟩
noncomputable def hpop (xs:List Int):Int×List Int:=match xs.dropLast with
 | []=>(at' xs (xs.length - 1),[])
 | y::r=>(y,supf 0 ((y::r).set 0 (at' xs (xs.length - 1))))
theorem Pg {xs:List Int} (hne:xs≠[]) (h:HeapFrom 0 xs):HeapFrom 0 (hpop xs).2∧((hpop xs).1::(hpop xs).2).Perm xs∧(∀ x∈xs,(hpop xs).1≤x):=by
 have hl:0<xs.length:=CF.mpr hne
 have e:xs=xs.dropLast++[at' xs (xs.length - 1)]:=by
  have:=List.dropLast_concat_getLast hne
  rw [Gi] at this
  rw [show at' xs (xs.length - 1)=xs[xs.length - 1] from by unfold at'; rw [Ac (Br hl)]; rfl,this]
 generalize hla:at' xs (xs.length - 1)=z at e
 unfold hpop
 rw [hla]
 cases hd:xs.dropLast with
 | nil =>
  rw [hd] at e
  refine ⟨fun i h0 hi=>absurd hi (CX _),by rw [e]; exact .refl _,fun x hx=>?_⟩
  rw [e] at hx
  rw [Al.mp hx]; exact CN _
 | cons y r =>
  rw [hd] at e
  have hlen:xs.length=(y::r).length+1:=by rw [e]; simp
  have hat:∀ i,i<(y::r).length->at' xs i=at' (y::r) i:=fun i hi=>by
   unfold at'; rw [e,BD hi]
  have hy:at' xs 0=y:=by rw [hat 0 (by simp)]; rfl
  have H1:HeapFrom (0+1) ((y::r).set 0 z):=fun i h0 hi hs=>by
   rw [Aq] at hi
   rw [HB _ _ _ _ (by simp),HB _ _ _ _ (by simp),if_neg (by exact AG (by assumption)),if_neg (by exact AG (by assumption)),← hat _ hi,← hat _ (Jf hi)]
   exact h i h0 (by rw [hlen]; exact AQ hi) (A4 _)
  obtain ⟨s1,s2,s3⟩:=Lo (s:=0) (xs:=(y::r).set 0 z) (by simp) H1
  refine ⟨s1,?_,fun x hx=>?_⟩
  ·refine (s3.cons y).trans ?_
   rw [e,List.set_cons_zero]
   exact (GS z y r).trans (List.perm_append_comm (l₁:=[z]) (l₂:=y::r))
  ·obtain ⟨i,hi,rfl⟩:=TR hx
   show y≤_
   rw [← hy]; exact Pj h i hi
theorem Qt:∀ (n p:Nat) (xs:List Int),(dn n p xs).2.length=xs.length
 | 0,_,_=>rfl
 | n+1,p,xs=>by
  rw [Uc]
  split
  ·rw [Qt,Aq]
  ·rfl
theorem Oy (s:Nat) (xs:List Int):(supf s xs).length=xs.length:=by unfold supf; rw [MC,Aq,Qt]
noncomputable def hfy:Nat->List Int->List Int
 | 0,xs=>xs
 | k+1,xs=>hfy k (supf k xs)
theorem N1:∀ (k:Nat) (xs:List Int),k≤xs.length->HeapFrom k xs->HeapFrom 0 (hfy k xs)∧(hfy k xs).Perm xs
 | 0,xs,_,h=>⟨h,.refl _⟩
 | k+1,xs,hk,h=>by
  obtain ⟨h1,h2,h3⟩:=Lo (s:=k) (by assumption) h
  obtain ⟨r1,r2⟩:=N1 k (supf k xs) (by lia) h1
  exact ⟨r1,r2.trans h3⟩
theorem JS (xs:List Int):HeapFrom (xs.length / 2) xs:=fun i h0 hi hs=>absurd hs (DS.mpr (An (AY _) (Ab (A1 (N4 h0)) (Nat.div_le_div_right hi))))
end
section
open Builtin Builtin.Str
theorem Ou {H:Hp} {l:Lb} {o:AO} (h:H l=some o):up H l o=H:=by
 funext y; unfold up; split<;>simp_all
theorem Hc (xs:List Int):(nts xs).length=xs.length:=Ae ..
section
variable {l:Lb} {xs:List Int} {σ:St} {n:Nat} {i x:Int}
theorem N6 {Q:PA} (hl:σ.H l=some (.list (nts xs))) (hz:xs.length≤big) (hi:i=n) (hn:n<xs.length) (q:Q (.int (at' xs n)) σ):getP (.ref l) (.int i) σ Q :=
 .inl ⟨nts xs,.int (at' xs n),hl,⟨by rwa [Hc],.inl ⟨hi▸A7 n,Iy (by rw [hi]; exact NU hn)⟩⟩,q⟩
theorem Qa {Q:St->Prop} (hl:σ.H l=some (.list (nts xs))) (hz:xs.length≤big) (hi:i=n) (hn:n<xs.length) (q:Q ⟨σ.loc,up σ.H l (.list (nts (xs.set n x)))⟩):putP (.ref l) (.int i) (.int x) σ Q :=
 .inl ⟨nts xs,hl,hi▸A7 n,by rw [Hc,hi]; exact B7.mpr hn,by rwa [Hc],by rw [hi,Aw,Ra]; exact q⟩
theorem lenL {B:Bx} {k:Nat} {Q:PA} (hl:σ.H l=some (.list (nts xs))) (hz:xs.length≤big) (q:Q (.int xs.length) σ):callP B k .len [.ref l] σ Q :=
 .inl ⟨nts xs,hl,by rwa [Hc],by rw [Hc]; exact q⟩
end
theorem half {n:Nat} (h:0<n):((n:Int) - 1).fdiv (2 ^ (1:Int).toNat)=((n - 1) / 2:Nat):=by
 have:(2:Int) ^ (1:Int).toNat=2:=rfl
 obtain ⟨m,rfl⟩:=CR (AG h)
 rw [this,FS _ (by decide),show ((m.succ:Nat):Int) - 1=(m:Int) from D6 (m:Int) 1]; rfl
theorem TZ {y:Int}:IntMulOk 2 y:=GE (by decide +kernel)
section
variable {B:Bx} {l:Lb} {H:Hp} {xs:List Int} {Q:AV->Hp->Prop}
theorem Ma {st pos:Nat} (hl:H l=some (.list (nts xs))) (hp:pos<xs.length) (hz:xs.length≤big) {n:Nat} (hn:pos≤n)
  (q:Q .none (up H l (.list (nts (sdn (at' xs pos) st n pos xs))))):WC (gg B) 2 (.ref 323) [.ref l,.int st,.int pos] H Q:=by
 refine (SY B).wc (ab:=[(_,_),(_,_),(_,_)]) (WBind.of3 (by intro v1 v2 v3; kernel_rfl)) rfl ?_
 dsimp only [vS1,vS2,vE]
 refine N6 hl hz rfl hp ?_
 generalize at' xs pos=x at q
 refine ⟨fun n σ=>Ex4 fun (p:Nat) (ys:List Int) (o1 o2:Option AV)=>An5 (p≤n) (σ=⟨[some (.ref l),some (.int st),some (.int p),some (.int x),o1,o2],up H l (.list (nts ys))⟩) (p<ys.length) (ys.length=xs.length) (Q .none (up H l (.list (nts (sdn x st n p ys))))),n,
  ⟨pos,xs,none,none,hn,by rw [Ou hl]; rfl,hp,rfl,q⟩,?_⟩
 rintro n σ ⟨p,ys,o1,o2,h0,rfl,h1,h2,h3⟩
 have hyb:=Ab (A1 h2) hz
 have fin (o1 o2) (e:sdn x st n p ys=ys.set p x):putP (.ref l) (.int p) (.int x) ⟨[some (.ref l),some (.int st),some (.int p),some (.int x),o1,o2],up H l (.list (nts ys))⟩ fun σ=>Q .none σ.H :=
  Qa (Hb ..) hyb rfl h1 (by rw [HC,← e]; exact h3)
 dsimp only [vS1,vS2,vE]
 refine ⟨fun ht=>⟨by decide,?_⟩,fun hf=>fin _ _ ?_⟩
 ·have ht:st<p:=by simpa using ht
  cases n with
  | zero=>exact absurd (An ht h0) (CX _)
  | succ n =>
   have hpp:(p - 1) / 2<ys.length:=Jf h1
   rw [Mb,if_pos ht] at h3
   rw [Mb,if_pos ht] at fin
   (refine sqN ?_; dsimp only [vS1,vS2,vE]); refine N6 (Hb ..) hyb (half (Ag (A4 _) ht)) hpp ?_; (refine sqN ?_; dsimp only [vS1,vS2,vE]); refine ⟨fun hy=>?_,fun hy=>fin _ _ ?_⟩
   ·rw [if_pos (of_decide_eq_true hy)] at h3
    exact Qa (Hb ..) hyb rfl h1 ⟨n,by exact Ak _,(p - 1) / 2,_,_,_,Ab (DV ..) (Nat.sub_le_of_le_add h0),by rw [HC,half (Ag (A4 _) ht)]; rfl,by rw [Aq]; exact hpp,by rw [Aq]; exact h2,h3⟩
   ·exact if_neg (of_decide_eq_false hy)
 ·have hf:¬st<p:=by simpa using hf
  cases n with
  | zero=>rfl
  | succ n=>rw [Mb,if_neg hf]
theorem Lu {s:Nat} (hl:H l=some (.list (nts xs))) (hs:s<xs.length) (hz:xs.length≤big)
  (q:Q .none (up H l (.list (nts (supf s xs))))):WC (gg B) 4 (.ref 330) [.ref l,.int s] H Q:=by
 refine (supF B).wc (ab:=[(_,_),(_,_)]) (WBind.of2 (by intro v1 v2; kernel_rfl)) rfl ?_
 dsimp only [vR,vS1,vS2,vS7,vE,vT,vL,vG,nth,sqE]
 refine lenL hl hz ?_; (refine sqN ?_; dsimp only [vR,vS1,vS2,vS7,vE,vT,vL,vG,nth,sqE]); (refine sqN ?_; dsimp only [vR,vS1,vS2,vS7,vE,vT,vL,vG,nth,sqE]); refine N6 hl hz rfl hs ?_; (refine sqN ?_; dsimp only [vR,vS1,vS2,vS7,vE,vT,vL,vG,nth,sqE]); refine ⟨TZ,?_⟩; (refine sqN ?_; dsimp only [vR,vS1,vS2,vS7,vE,vT,vL,vG,nth,sqE])
 unfold supf at q
 generalize at' xs s=x at q
 refine ⟨fun n σ=>Ex3 fun (p:Nat) (ys:List Int) (o:Option AV)=>An5 (ys.length≤n+p+1) (σ=⟨[some (.ref l),some (.int p),some (.int xs.length),some (.int s),some (.int x),some (.int (2*p+1)),o],up H l (.list (nts ys))⟩) (p<ys.length) (ys.length=xs.length) (Q .none (up H l (.list (nts (sdn x s xs.length (dn n p ys).1 ((dn n p ys).2.set (dn n p ys).1 x)))))),xs.length,⟨s,xs,none,AK (A3 ..),by rw [Ou hl]; rfl,hs,rfl,q⟩,?_⟩
 rintro n σ ⟨p,ys,o,h0,rfl,h1,h2,h3⟩
 have hyb:=Ab (A1 h2) hz
 dsimp only [vR,vS1,vS2,vS7,vE,vT,vL,vG,nth,sqE]
 refine ⟨fun ht=>?_,fun hf=>?_⟩
 ·have ht:2*p+1<ys.length:=by exact h2.symm▸B7.mp (show ((2*p+1:Nat):Int)<(xs.length:Int) from of_decide_eq_true ht)
  cases n with
  | zero=>exact absurd (An ht h0) (Bh.mpr (by rw [Nat.zero_add]; exact AB (B9 _ (by decide))))
  | succ n =>
   rw [Uc,if_pos ht] at h3
   have hl':=T3 ht
   have fin:∀ c:Nat,lc p ys=c->∃ m,m<n+1∧Ex3 fun (p':Nat) (zs:List Int) (o':Option AV)=>An5 (zs.length≤m+p'+1) ((c=p'∧zs=ys.set p (at' ys c))) (p'<zs.length) (zs.length=xs.length) (Q .none (up H l (.list (nts (sdn x s xs.length (dn m p' zs).1 ((dn m p' zs).2.set (dn m p' zs).1 x)))))):=fun c e=>by
    subst e
    have hc:=LF p ys
    exact ⟨n,by exact Ak _,lc p ys,_,o,by rw [Aq]; exact LH hc h0,⟨rfl,rfl⟩,by rw [Aq]; assumption,by rw [Aq]; exact h2,h3⟩
   (refine sqN ?_; dsimp only [vR,vS1,vS2,vS7,vE,vT,vL,vG,nth,sqE]); refine ⟨fun hr=>?_,fun hr=>?_⟩
   ·have hr:2*p+2<ys.length:=by exact h2.symm▸B7.mp (show ((2*p+2:Nat):Int)<(xs.length:Int) from of_decide_eq_true hr)
    refine N6 (n:=2*p+1) (Hb ..) hyb (by rfl) ht (N6 (n:=2*p+2) (Hb ..) hyb (by rfl) hr ⟨fun hy=>?_,fun hy=>?_⟩)
    ·obtain ⟨m,m1,p',zs,o',m2,⟨rfl,rfl⟩,m3,m4,m5⟩:=fin (2*p+2) (if_pos ⟨hr,by simpa using hy⟩)
     (refine sqN ?_; dsimp only [vR,vS1,vS2,vS7,vE,vT,vL,vG,nth,sqE]); refine N6 (n:=2*p+2) (Hb ..) hyb (by rfl) hr ?_; refine Qa (Hb ..) hyb rfl h1 ?_; (refine sqN ?_; dsimp only [vR,vS1,vS2,vS7,vE,vT,vL,vG,nth,sqE]); (refine sqN ?_; dsimp only [vR,vS1,vS2,vS7,vE,vT,vL,vG,nth,sqE]); exact ⟨TZ,m,m1,_,_,_,m2,by rw [HC]; rfl,m3,m4,m5⟩
    ·obtain ⟨m,m1,p',zs,o',m2,⟨rfl,rfl⟩,m3,m4,m5⟩:=fin (2*p+1) (if_neg fun q=>q.2 (by simpa using hy))
     (refine sqN ?_; dsimp only [vR,vS1,vS2,vS7,vE,vT,vL,vG,nth,sqE]); refine N6 (n:=2*p+1) (Hb ..) hyb (by rfl) ht ?_; refine Qa (Hb ..) hyb rfl h1 ?_; (refine sqN ?_; dsimp only [vR,vS1,vS2,vS7,vE,vT,vL,vG,nth,sqE]); (refine sqN ?_; dsimp only [vR,vS1,vS2,vS7,vE,vT,vL,vG,nth,sqE]); exact ⟨TZ,m,m1,_,_,_,m2,by rw [HC]; rfl,m3,m4,m5⟩
   ·have hr:¬2*p+2<ys.length:=fun q=>of_decide_eq_false hr (B7.mpr (h2▸q))
    obtain ⟨m,m1,p',zs,o',m2,⟨rfl,rfl⟩,m3,m4,m5⟩:=fin (2*p+1) (if_neg fun q=>hr q.1)
    refine ⟨nofun,fun _=>?_⟩; (refine sqN ?_; dsimp only [vR,vS1,vS2,vS7,vE,vT,vL,vG,nth,sqE]); refine N6 (n:=2*p+1) (Hb ..) hyb (by rfl) ht ?_; refine Qa (Hb ..) hyb rfl h1 ?_; (refine sqN ?_; dsimp only [vR,vS1,vS2,vS7,vE,vT,vL,vG,nth,sqE]); (refine sqN ?_; dsimp only [vR,vS1,vS2,vS7,vE,vT,vL,vG,nth,sqE]); exact ⟨TZ,m,m1,_,_,_,m2,by rw [HC]; rfl,m3,m4,m5⟩
 ·have hf:¬2*p+1<ys.length:=fun q=>of_decide_eq_false hf (B7.mpr (h2▸q))
  have e:dn n p ys=(p,ys):=by cases n with | zero=>rfl | succ n=>rw [Uc,if_neg hf]
  rw [e] at h3
  refine Qa (Hb ..) hyb rfl h1 ?_; (refine sqN ?_; dsimp only [vR,vS1,vS2,vS7,vE,vT,vL,vG,nth,sqE]); refine ⟨2,Ak _,Ma (xs:=ys.set p x) (by rw [HC]; exact Hb ..) (by rw [Aq]; exact h1) (by rw [Aq]; exact hyb) (n:=xs.length) (Ay (AJ h1 h2)) ?_⟩
  rw [HB _ _ _ _ h1,if_pos rfl,HC,HC]
  exact h3
end
end
section
open Builtin Builtin.Str
section
variable {B:Bx} {l:Lb} {H:Hp} {xs:List Int} {Q:AV->Hp->Prop}
theorem Ul {k:Nat} {σ:St} {Q:PB} (hl:σ.H l=some (.list (nts xs))) (hz:xs.length≤big) (q:Q (!xs.isEmpty) σ):truP B k (.ref l) σ Q :=
 .inl ⟨nts xs,hl,by rwa [Hc],by cases xs<;>exact q⟩
theorem N3 (hl:H l=some (.list (nts xs))) (hz:xs.length≤big) (q:Q .none (up H l (.list (nts (hfy (xs.length / 2) xs))))):WC (gg B) 6 (.ref 316) [.ref l] H Q:=by
 refine (Pi B).wc (ab:=[(_,_)]) (WBind.of1 (by intro v1; kernel_rfl)) rfl ?_
 dsimp only [vS1,vS2,vE,vL]
 refine lenL hl hz ⟨by decide,xs.length / 2,?_,by lia,?_⟩
 ·rw [FS _ (by decide)]; rfl
 generalize hm:xs.length / 2=m at q
 refine ⟨fun i σ=>Ex2 fun (zs:List Int) (o:Option AV)=>An4 (σ=⟨[some (.ref l),some (.int xs.length),o],up H l (.list (nts zs))⟩) (i≤m) (zs.length=xs.length) (hfy (m - i) zs=hfy m xs),
  ⟨xs,none,by rw [Ou hl]; rfl,A4 _,rfl,rfl⟩,fun _ _ _=>trivial,?_,?_⟩
 ·rintro i v σ hv ⟨zs,o,rfl,h1,h2,h3⟩
  rw [Ai] at hv
  obtain ⟨j,hj,rfl⟩:=Ao.mp hv
  obtain ⟨hi,rfl⟩:=Am.mp hj
  rw [AN] at hi
  rw [Fk]
  rw [show ((m:Int) - 1+(i:Int)*(-1))=((m - i - 1:Nat):Int) from Ed m i 1▸LS hi]
  refine ⟨4,Ak _,Lu (xs:=zs) (Hb ..) (h2.symm▸An (QP hi) (hm▸DV ..)) (h2.symm▸hz) ⟨supf (m - i - 1) zs,_,by rw [HC]; rfl,by assumption,?_,?_⟩⟩
  ·rw [Oy]; exact h2
  ·rw [← h3,show m - i=(m - (i+1))+1 from IQ hi]; rfl
 ·rintro σ ⟨zs,o,rfl,h1,h2,h3⟩
  rw [Ae,AN,G9] at h3
  rw [show zs=hfy m xs from h3]
  exact q
theorem N2 (hl:H l=some (.list (nts xs))) (hz:xs.length≤big) (hne:xs≠[]) (q:Q (.int (hpop xs).1) (up H l (.list (nts (hpop xs).2)))):WC (gg B) 6 (.ref 309) [.ref l] H Q:=by
 have hp:0<xs.length:=CF.mpr hne
 refine (UA B).wc (ab:=[(_,_)]) (WBind.of1 (by intro v1; kernel_rfl)) rfl ?_
 dsimp only [vS1,vS2,vS7,vE,vT,vG]
 refine ⟨⟨nts xs,.inr ⟨l,rfl,hl⟩⟩,nts xs,.int (at' xs (xs.length - 1)),hl,by rwa [Hc],by rw [Hc]; exact Iy (NU (Br hp)),?_⟩
 rw [show (nts xs).dropLast=nts xs.dropLast from (Ek ..).symm]
 have hdz:xs.dropLast.length≤big:=by rw [GD]; exact Ab (Bp ..) hz
 unfold hpop at q
 generalize at' xs (xs.length - 1)=z at q
 generalize xs.dropLast=ys at q hdz
 (refine sqN ?_; dsimp only [vS1,vS2,vS7,vE,vT,vG]); refine Ul (xs:=ys) (Hb ..) hdz ?_
 cases ys with
 | nil=>exact ⟨nofun,fun _=>q⟩
 | cons y r =>
  refine ⟨fun _=>N6 (xs:=y::r) (n:=0) (Hb ..) hdz rfl (by simp) ?_,nofun⟩
  refine Qa (xs:=y::r) (n:=0) (Hb ..) hdz rfl (by simp) ?_; (refine sqN ?_; dsimp only [vS1,vS2,vS7,vE,vT,vG]); refine ⟨4,Ak _,Lu (s:=0) (xs:=(y::r).set 0 z) (Hb ..) (by simp) (by rw [Aq]; exact hdz) ?_⟩
  rw [HC,HC]
  exact q
end
end
section
open Builtin Builtin.Str
structure SS where
 keys:List Int
 np:Int->Int
 su:Int->List Int
 rdy:Option (List Int)
 pas:Int
 fin:Int
noncomputable def upd {α:Type} (f:Int->α) (p:Int) (v:α):Int->α:=fun x=>if x=p then v else f x
theorem Hg {α:Type} (f:Int->α) (p:Int) (v:α):upd f p v p=v:=if_pos rfl
theorem Hl {α:Type} (f:Int->α) {p x:Int} (v:α) (h:x≠p):upd f p v x=f x:=if_neg h
noncomputable def SS.rv (S:SS) (b:Nat):AV:=match S.rdy with
 | none=>.none
 | some _=>.ref (b,3)
noncomputable def SS.at (S:SS) (b:Nat):List (Str×AV):=[(At.node2info.nm,.ref (b,2)),(At.ready.nm,S.rv b),(At.passed.nm,.int S.pas),(At.finished.nm,.int S.fin)]
noncomputable def nodeO (S:SS) (b:Nat) (p:Int):AO:=.slots 40 [some (.int p),some (.int (S.np p)),some (.ref (b+2,p))]
noncomputable def dictO (b:Nat) (ks:List Int):List (Int×AV):=ks.map fun p=>(p,.ref (b+1,p))
structure So (b:Nat) (S:SS) (H:Hp):Prop where
 i:H (b,0)=some (.inst 137 (b,1))
 a:H (b,1)=some (.attrs (S.at b))
 d:∃ ep,H (b,2)=some (.dict (dictO b S.keys) ep)
 r:∀ xs,S.rdy=some xs->H (b,3)=some (.list (nts xs))
 n:∀ p∈S.keys,H (b+1,p)=some (nodeO S b p)
 s:∀ p∈S.keys,H (b+2,p)=some (.list (nts (S.su p)))
 f:∀ p,p∉S.keys->H (b+1,p)=none∧H (b+2,p)=none
 g:S.rdy=none->H (b,3)=none
 z:S.keys.length≤1000
noncomputable def Out (b:Nat) (H H':Hp):Prop:=∀ l:Lb,l.1≠b->l.1≠b+1->l.1≠b+2->H' l=H l
theorem Out.refl (b:Nat) (H:Hp):Out b H H:=fun _ _ _ _=>rfl
theorem Out.trans {b:Nat} {H H' H'':Hp} (x:Out b H H') (y:Out b H' H''):Out b H H'':=fun l h1 h2 h3=>(y l h1 h2 h3).trans (x l h1 h2 h3)
theorem Out.up0 {b:Nat} {H:Hp} {x:Int} {o:AO}:Out b H (up H (b,x) o):=fun l h1 _ _=>Ha _ _ fun e=>h1 (by rw [e])
theorem Out.up1 {b:Nat} {H:Hp} {x:Int} {o:AO}:Out b H (up H (b+1,x) o):=fun l _ h1 _=>Ha _ _ fun e=>h1 (by rw [e])
theorem Out.up2 {b:Nat} {H:Hp} {x:Int} {o:AO}:Out b H (up H (b+2,x) o):=fun l _ _ h1=>Ha _ _ fun e=>h1 (by rw [e])
theorem n01 {b:Nat} {x y:Int}:((b,x):Lb)≠(b+1,y):=fun e=>E8 b (congrArg Prod.fst e).symm
theorem n02 {b:Nat} {x y:Int}:((b,x):Lb)≠(b+2,y):=fun e=>absurd (congrArg Prod.fst e) (by simp)
theorem n12 {b:Nat} {x y:Int}:((b+1,x):Lb)≠(b+2,y):=fun e=>absurd (congrArg Prod.fst e) (by simp)
theorem nn {b:Nat} {x y:Int} (h:x≠y):((b,x):Lb)≠(b,y):=fun e=>h (congrArg Prod.snd e)
section
variable {b:Nat} {S:SS} {H:Hp}
theorem So.setN (h:So b S H) {p:Int} (hp:p∈S.keys) (v:Int):So b { S with np:=upd S.np p v } (up H (b+1,p) (.slots 40 [some (.int p),some (.int v),some (.ref (b+2,p))])) where
 i:=(Ha _ _ n01).trans h.i
 a:=(Ha _ _ n01).trans h.a
 d:=let ⟨ep,e⟩:=h.d; ⟨ep,(Ha _ _ n01).trans e⟩
 r:=fun xs e=>(Ha _ _ n01).trans (h.r xs e)
 n:=fun q hq=>by
  unfold nodeO
  by_cases e:q=p
  ·subst e; rw [Hb]; dsimp only; rw [Hg]
  ·rw [Ha _ _ (nn e)]; dsimp only; rw [Hl _ _ e]; exact h.n q hq
 s:=fun q hq=>(Ha _ _ n12.symm).trans (h.s q hq)
 f:=fun q hq=>⟨(Ha _ _ (nn fun e=>hq (by rw [e]; exact hp))).trans (h.f q hq).1,(Ha _ _ n12.symm).trans (h.f q hq).2⟩
 g:=fun e=>(Ha _ _ n01).trans (h.g e)
 z:=h.z
theorem So.setS (h:So b S H) {p:Int} (hp:p∈S.keys) (v:List Int):So b { S with su:=upd S.su p v } (up H (b+2,p) (.list (nts v))) where
 i:=(Ha _ _ n02).trans h.i
 a:=(Ha _ _ n02).trans h.a
 d:=let ⟨ep,e⟩:=h.d; ⟨ep,(Ha _ _ n02).trans e⟩
 r:=fun xs e=>(Ha _ _ n02).trans (h.r xs e)
 n:=fun q hq=>(Ha _ _ n12).trans (h.n q hq)
 s:=fun q hq=>by
  by_cases e:q=p
  ·subst e; rw [Hb]; dsimp only; rw [Hg]
  ·rw [Ha _ _ (nn e)]; dsimp only; rw [Hl _ _ e]; exact h.s q hq
 f:=fun q hq=>⟨(Ha _ _ n12).trans (h.f q hq).1,(Ha _ _ (nn fun e=>hq (by rw [e]; exact hp))).trans (h.f q hq).2⟩
 g:=fun e=>(Ha _ _ n02).trans (h.g e)
 z:=h.z
theorem So.setA (h:So b S H) (x y:Int):So b { S with pas:=x,fin:=y } (up H (b,1) (.attrs (SS.at { S with pas:=x,fin:=y } b))) where
 i:=(Ha _ _ (nn (by decide))).trans h.i
 a:=Hb ..
 d:=let ⟨ep,e⟩:=h.d; ⟨ep,(Ha _ _ (nn (by decide))).trans e⟩
 r:=fun xs e=>(Ha _ _ (nn (by decide))).trans (h.r xs e)
 n:=fun q hq=>(Ha _ _ n01.symm).trans (h.n q hq)
 s:=fun q hq=>(Ha _ _ n02.symm).trans (h.s q hq)
 f:=fun q hq=>⟨(Ha _ _ n01.symm).trans (h.f q hq).1,(Ha _ _ n02.symm).trans (h.f q hq).2⟩
 g:=fun e=>(Ha _ _ (nn (by decide))).trans (h.g e)
 z:=h.z
theorem So.setR (h:So b S H) {ys:List Int} (hr:S.rdy=some ys) (xs:List Int):So b { S with rdy:=some xs } (up H (b,3) (.list (nts xs))) where
 i:=(Ha _ _ (nn (by decide))).trans h.i
 a:=(Ha _ _ (nn (by decide))).trans (h.a.trans (by unfold SS.at SS.rv; rw [hr]))
 d:=let ⟨ep,e⟩:=h.d; ⟨ep,(Ha _ _ (nn (by decide))).trans e⟩
 r:=fun zs e=>by cases e; exact Hb ..
 n:=fun q hq=>(Ha _ _ n01.symm).trans (h.n q hq)
 s:=fun q hq=>(Ha _ _ n02.symm).trans (h.s q hq)
 f:=fun q hq=>⟨(Ha _ _ n01.symm).trans (h.f q hq).1,(Ha _ _ n02.symm).trans (h.f q hq).2⟩
 g:=nofun
 z:=h.z
theorem So.new (h:So b S H) {p:Int} (hp:p∉S.keys) (hz:S.keys.length<1000) {H':Hp} (h1:H' (b+1,p)=some (.slots 40 [some (.int p),some (.int 0),some (.ref (b+2,p))])) (h2:H' (b+2,p)=some (.list [])) {ep:Nat} (h3:H' (b,2)=some (.dict (dictO b (S.keys++[p])) ep))
  (ho:∀ l,l≠(b+1,p)->l≠(b+2,p)->l≠(b,2)->H' l=H l):So b { S with keys:=S.keys++[p],np:=upd S.np p 0,su:=upd S.su p [] } H' where
 i:=(ho _ n01 n02 (nn (by decide))).trans h.i
 a:=(ho _ n01 n02 (nn (by decide))).trans h.a
 d:=⟨ep,h3⟩
 r:=fun xs e=>(ho _ n01 n02 (nn (by decide))).trans (h.r xs e)
 n:=fun q hq=>by
  unfold nodeO
  by_cases e:q=p
  ·subst e; rw [h1]; dsimp only; rw [Hg]
  ·rw [ho _ (nn e) n12 n01.symm]; dsimp only; rw [Hl _ _ e]; exact h.n q ((Aj.mp hq).resolve_right fun m=>e (Al.mp m))
 s:=fun q hq=>by
  by_cases e:q=p
  ·subst e; rw [h2]; dsimp only; rw [Hg]; rfl
  ·rw [ho _ n12.symm (nn e) n02.symm]; dsimp only; rw [Hl _ _ e]; exact h.s q ((Aj.mp hq).resolve_right fun m=>e (Al.mp m))
 f:=fun q hq=>by
  have e:q≠p:=fun e=>hq (Aj.mpr (.inr (Al.mpr e)))
  have hq':q∉S.keys:=fun m=>hq (Aj.mpr (.inl m))
  exact ⟨(ho _ (nn e) n12 n01.symm).trans (h.f q hq').1,(ho _ n12.symm (nn e) n02.symm).trans (h.f q hq').2⟩
 g:=fun e=>(ho _ n01 n02 (nn (by decide))).trans (h.g e)
 z:=by rw [A6]; exact hz
theorem HV (b:Nat) (p:Int) (ks:List Int):aget (dictO b ks) p=if p∈ks then some (.ref (b+1,p)) else none:=by
 unfold aget dictO
 rw [List.find?_map,Option.map_map]
 induction ks with
 | nil=>rfl
 | cons k ks ih =>
  rw [Cs]
  by_cases e:k=p
  ·subst e; rw [if_pos (.head _),show ((fun kv:Int×AV=>decide (kv.1=k))∘fun p=>(p,AV.ref (b+1,p))) k=true from decide_eq_true rfl]; rfl
  ·rw [show ((fun kv:Int×AV=>decide (kv.1=p))∘fun p=>(p,AV.ref (b+1,p))) k=false from decide_eq_false e]
   exact ih.trans (JP (Ap.trans (or_iff_right (Dc e))).symm)
theorem NZ {b:Nat} {p:Int} {ks:List Int} (h:p∉ks):aput (dictO b ks) p (.ref (b+1,p))=dictO b (ks++[p]):=by
 unfold aput dictO
 rw [if_neg]
 ·simp
 ·rw [List.any_map,E6]
  rintro ⟨x,hx,e⟩
  exact h (of_decide_eq_true e▸hx)
end
section
variable {B:Bx} {b:Nat} {S:SS} {H:Hp} {Q:AV->Hp->Prop}
theorem OM {l m:Lb} {v:AV} (hl:H l=some (.slots 40 [])) (hm:H m=none) (q:Q .none (up (up H m (.list [])) l (.slots 40 [some v,some (.int 0),some (.ref m)]))):WC (gg B) 2 (.ref 36) [.ref l,v] H Q:=by
 have ne:m≠l:=fun e=>by rw [e,hl] at hm; cases hm
 refine (Re B).wc (ab:=[(_,_),(_,_)]) (WBind.of2 (by intro v1 v2; kernel_rfl)) rfl ?_
 dsimp only [retv]
 refine ⟨_,hl,_,Hb ..,rfl,.inr ⟨m,(Ha _ _ ne).trans ((Ha _ _ ne).trans hm),_,(Ha _ _ ne.symm).trans (Hb ..),?_⟩⟩
 have e:up (up (up (up H l (.slots 40 [some v])) l (.slots 40 [some v,some (.int 0)])) m (.list [])) l (.slots 40 [some v,some (.int 0),some (.ref m)])=up (up H m (.list [])) l (.slots 40 [some v,some (.int 0),some (.ref m)]):=by
  funext y; unfold up; split<;>rfl
 exact e▸q
noncomputable def SS.ins (S:SS) (p:Int):SS:=if p∈S.keys then S else { S with keys:=S.keys++[p],np:=upd S.np p 0,su:=upd S.su p [] }
theorem gn_c (h:So b S H) {p:Int} (hz:S.keys.length<1000) (q:∀ H',So b (S.ins p) H'->Out b H H'->Q (.ref (b+1,p)) H'):WC (gg B) 5 (.ref 80) [.ref (b,0),.int p] H Q:=by
 refine (gnF B).wc (ab:=[(_,_),(_,_)]) (WBind.of2 (by intro v1 v2; kernel_rfl)) rfl ?_
 dsimp only [retv]
 obtain ⟨ep,hd⟩:=h.d
 refine ⟨(b,1),S.at b,.ref (b,2),h.i,h.a,rfl,rfl,⟨(b,2),_,ep,rfl,hd⟩,_,ep,hd,?_⟩
 rw [HV]
 unfold SS.ins at q
 by_cases hp:p∈S.keys
 ·rw [if_pos hp] at q ⊢
  exact ⟨nofun,fun _=>q H h (.refl b H)⟩
 ·rw [if_neg hp] at q ⊢
  obtain ⟨f1,f2⟩:=h.f p hp
  refine ⟨fun _=>?_,nofun⟩
  refine ⟨(b+1,p),2,f1,Ak _,OM (m:=(b+2,p)) (Hb ..) ((Ha _ _ n12.symm).trans f2) ⟨rfl,?_⟩⟩
  dsimp only [retv]
  have e1:∀ x,up (up (up H (b+1,p) (.slots 40 [])) (b+2,p) (.list [])) (b+1,p) (.slots 40 [some (.int p),some (.int 0),some (.ref (b+2,p))]) (b,x)=H (b,x):=fun x=>(Ha _ _ n01).trans ((Ha _ _ n02).trans (Ha _ _ n01))
  refine ⟨(b,1),S.at b,.ref (b,2),(e1 _).trans h.i,(e1 _).trans h.a,rfl,rfl,.inr ⟨_,ep,(e1 _).trans hd,?_,fun ep'=>?_⟩⟩
  ·unfold dictO; rw [Ae]; exact Ay (BK hz (by decide))
  rw [NZ hp]
  refine q _ (h.new hp hz ((Ha _ _ n01.symm).trans (Hb ..)) ((Ha _ _ n02.symm).trans ((Ha _ _ n12.symm).trans (Hb ..))) (Hb ..) fun l l1 l2 l3=>?_) ?_
  ·exact (Ha _ _ l3).trans ((Ha _ _ l1).trans ((Ha _ _ l2).trans (Ha _ _ l1)))
  ·exact ((Out.up1.trans .up2).trans .up1).trans .up0
set_option tactic.hygienic true in
theorem IJ {p x:Int}:x∈(S.ins p).keys↔x∈S.keys∨x=p:=by
 unfold SS.ins
 split
 ·rename_i h; exact ⟨.inl,fun h'=>h'.elim id fun e=>e▸h⟩
 ·simp
theorem KX (S:SS) (p:Int):p∈(S.ins p).keys:=IJ.mpr (.inr rfl)
theorem KY (S:SS) (p:Int):(S.ins p).keys.length≤S.keys.length+1:=by
 unfold SS.ins
 split
 ·exact BP _
 ·simp
theorem Sh {u:Um} (hu:u.cls=some 137):u.nm∉(S.at b).map (·.1):=by
 show u.nm∉[At.node2info.nm,At.ready.nm,At.passed.nm,At.finished.nm]
 cases u<;>first | (cases hu; done) | decide +kernel
theorem So.um (h:So b S H) {u:Um} (hu:u.cls=some 137) {loc:List (Option AV)}:umP u (.ref (b,0)) ⟨loc,H⟩:=by
 unfold umP; rw [hu]
 exact ⟨_,_,_,rfl,h.i,h.a,Sh hu⟩
noncomputable def SS.wait (p:Int) (S:SS) (q:Int):SS:={ S.ins q with su:=upd (S.ins q).su q ((S.ins q).su q++[p]) }
noncomputable def SS.own (S:SS) (p:Int) (n:Nat):SS:={ S.ins p with np:=upd (S.ins p).np p ((S.ins p).np p+n) }
noncomputable def SS.add (S:SS) (p:Int) (qs:List Int):SS:=qs.foldl (SS.wait p) (S.own p qs.length)
theorem Hu {α β:Type} (f:β->α->β) (s:β) (xs:List α) {i:Nat} {x:α} (h:xs[i]?=some x):(xs.take (i+1)).foldl f s=f ((xs.take i).foldl f s) x:=by
 rw [Ft,h,List.foldl_append]; rfl
theorem Lj (p:Int) (S:SS) (q:Int):(S.wait p q).keys.length≤S.keys.length+1:=KY S q
theorem Jz {qs:List Int} {i:Nat} {v:AV} (h:(nts qs)[i]?=some v):∃ x,qs[i]?=some x∧v=.int x:=by
 rw [Ai] at h
 obtain ⟨x,hx,e⟩:=Ao.mp h
 exact ⟨x,hx,e.symm⟩
theorem Ko (S:SS) (p:Int) (x:Int):((S.ins p).su x).length≤(S.su x).length:=by
 unfold SS.ins
 split
 ·exact Ak _
 ·by_cases e:x=p
  ·subst e; dsimp only; rw [Hg]; exact A4 _
  ·dsimp only; rw [Hl _ _ e]; exact Ak _
theorem M1 (p:Int) (S:SS) (q x:Int):((S.wait p q).su x).length≤(S.su x).length+1:=by
 unfold SS.wait
 by_cases e:x=q
 ·subst e; dsimp only; rw [Hg,A6]; exact AB (Ko S x x)
 ·dsimp only; rw [Hl _ _ e]; exact AK (Ko S q x)
theorem TV (h:So b S H) (hr:S.rdy=none) {p:Int} {qs:List Int} (hz:S.keys.length+qs.length+1<1000) {W:Nat} (hW:∀ x,(S.su x).length≤W) (hWz:W+qs.length<big) (q:∀ H',So b (S.add p qs) H'->Out b H H'->Q .none H'):WC (gg B) 7 (.ref 87) (.ref (b,0)::.int p::nts qs) H Q:=by
 have hq:qs.length≤1000:=Ay (Ag (Ab (CC ..) (BP _)) hz)
 refine (addF B).wc (ab:=[(_,_),(_,_),(_,_)]) (WBind.star2 (by rw [Hc]; exact Ab hq (by decide)) (by intro v1 v2 ws; cases ws<;>kernel_rfl)) rfl ?_
 dsimp only [retv]
 refine ⟨(b,1),S.at b,.none,h.i,h.a,by unfold SS.at SS.rv; rw [hr]; rfl,rfl,nofun,fun _=>⟨h.um (u:=.gn) rfl,5,Ak _,gn_c h (Ag (Ab (A3 ..) (BP _)) hz) fun H1 h1 o1=>?_⟩⟩
 have hp1:p∈(S.ins p).keys:=IJ.mpr (.inr rfl)
 refine ⟨_,.int ((S.ins p).np p),h1.n p hp1,rfl,rfl,by rw [Hc]; exact Ab hq (by decide),_,h1.n p hp1,?_⟩
 rw [Hc]
 have h2:=h1.setN hp1 ((S.ins p).np p+qs.length)
 refine ⟨fun i σ=>Ex3 fun (H':Hp) (o4 o5:Option AV)=>An5 (σ=⟨[some (.ref (b,0)),some (.int p),some (.tup (nts qs)),some (.ref (b+1,p)),o4,o5],H'⟩) (So b ((qs.take i).foldl (SS.wait p) (S.own p qs.length)) H') (Out b H H') (((qs.take i).foldl (SS.wait p) (S.own p qs.length)).keys.length≤S.keys.length+1+i) ((∀ x,(((qs.take i).foldl (SS.wait p) (S.own p qs.length)).su x).length≤W+i)),⟨_,none,none,rfl,h2,o1.trans .up1,KY S p,fun x=>Ab (Ko S p x) (hW x)⟩,fun _ _ _=>trivial,?_,?_⟩
 ·rintro i v σ hv ⟨H',o4,o5,rfl,a1,a2,a3,a4⟩
  obtain ⟨x,hx,rfl⟩:=Jz hv
  have hi:=(Am.mp hx).1
  refine ⟨a1.um (u:=.gn) rfl,5,Ak _,gn_c a1 (Ag (Ab a3 (Ab (A1 (D4 ..)) (AB (AS (Ay hi) _)))) hz) fun H3 h3 o3=>?_⟩
  have hx3:=KX ((qs.take i).foldl (SS.wait p) (S.own p qs.length)) x
  refine ⟨_,.ref (b+2,x),h3.n x hx3,rfl,rfl,.inl ⟨_,.inr ⟨_,rfl,h3.s x hx3⟩⟩,.inl ⟨_,h3.s x hx3,?_,?_⟩⟩
  ·rw [Hc]; exact Ab (Ko _ _ _) (Ab (a4 _) (Ab (AS (Ay hi) _) (Ay hWz)))
  ·refine ⟨_,_,_,rfl,?_,(a2.trans o3).trans .up2,?_,fun y=>?_⟩
   ·rw [Hu _ _ _ hx]
    have:=h3.setS hx3 ((((qs.take i).foldl (SS.wait p) (S.own p qs.length)).ins x).su x++[p])
    rw [show nts (_++[p])=nts _++[AV.int p] from Ar] at this
    exact this
   ·rw [Hu _ _ _ hx]
    exact Ab (Lj ..) (by exact B1 (by assumption))
   ·rw [Hu _ _ _ hx]
    exact Ab (M1 ..) (AB (a4 y))
 ·rintro σ ⟨H',o4,o5,rfl,a1,a2,a3,a4⟩
  rw [Hc,CO] at a1
  exact q H' a1 a2
end
end
section
open Builtin Builtin.Str
noncomputable def SS.empty:SS:=⟨[],fun _=>0,fun _=>[],none,0,0⟩
noncomputable def Free (N:Nat) (H:Hp):Prop:=∀ l:Lb,N≤l.1->H l=none
theorem JX {m n:Nat} (h:Nat.ble m n=true):m≤n:=EN h
section
variable {B:Bx} {b:Nat} {S:SS} {H:Hp} {Q:AV->Hp->Prop}
theorem Ow (hf:∀ l:Lb,b≤l.1->l≠(b,0)->l≠(b,1)->H l=none) (hi:H (b,0)=some (.inst 137 (b,1))) (ha:H (b,1)=some (.attrs [])) (q:∀ H',So b SS.empty H'->Out b H H'->Q .none H'):WC (gg B) 2 (.ref 73) [.ref (b,0)] H Q:=by
 refine (Qx B).wc (ab:=[(_,_),(_,_)]) (WBind.d1 (by intro v1 S; kernel_rfl)) rfl ?_
 dsimp only [retv]
 have n2:((b,2):Lb)≠(b,0):=nn (by decide)
 have n2':((b,2):Lb)≠(b,1):=nn (by decide)
 have n1:((b,0):Lb)≠(b,1):=nn (by decide)
 refine ⟨(b,2),hf _ (Ak _) n2 n2',(b,1),[],(Ha _ _ n2.symm).trans hi,(Ha _ _ n2'.symm).trans ha,JX rfl,.inr ⟨by decide +kernel,?_⟩⟩
 refine ⟨(b,1),_,(Ha _ _ n1).trans ((Ha _ _ n2.symm).trans hi),Hb ..,JX rfl,.inr ⟨by show At.ready.nm∉[At.node2info.nm]; decide +kernel,?_⟩⟩
 refine ⟨(b,1),_,(Ha _ _ n1).trans ((Ha _ _ n1).trans ((Ha _ _ n2.symm).trans hi)),Hb ..,JX rfl,.inr ⟨by show At.passed.nm∉[At.node2info.nm,At.ready.nm]; decide +kernel,?_⟩⟩
 refine ⟨(b,1),_,(Ha _ _ n1).trans ((Ha _ _ n1).trans ((Ha _ _ n1).trans ((Ha _ _ n2.symm).trans hi))),Hb ..,JX rfl,.inr ⟨by show At.finished.nm∉[At.node2info.nm,At.ready.nm,At.passed.nm]; decide +kernel,?_⟩⟩
 refine ⟨nofun,fun _=>?_⟩
 rw [HC,HC,HC]
 refine q _ ⟨(Ha _ _ n1).trans ((Ha _ _ n2.symm).trans hi),Hb ..,⟨0,(Ha _ _ n2').trans (Hb ..)⟩,nofun,nofun,nofun,fun p _=>⟨?_,?_⟩,fun _=>?_,JX rfl⟩ (Out.up0.trans .up0)
 ·exact (Ha _ _ n01.symm).trans ((Ha _ _ n01.symm).trans (hf _ (BP _) n01.symm n01.symm))
 ·exact (Ha _ _ n02.symm).trans ((Ha _ _ n02.symm).trans (hf _ (A3 ..) n02.symm n02.symm))
 ·exact (Ha _ _ (nn (by decide))).trans ((Ha _ _ (nn (by decide))).trans (hf _ (Ak _) (nn (by decide)) (nn (by decide))))
end
end
section
open Builtin Builtin.Str
theorem K5 {k:Int} (es:List (Int×AV)):(aget es k).isSome=decide (k∈es.map (·.1)):=by
 unfold aget
 rw [Option.isSome_map]
 induction es with
 | nil=>rfl
 | cons a r ih =>
  rw [Cs]
  by_cases e:a.1=k
  ·rw [decide_eq_true e]; exact (decide_eq_true (e▸.head _)).symm
  ·rw [decide_eq_false e]; exact ih.trans (decide_eq_decide.mpr (Ap.trans (or_iff_right (Dc e))).symm)
theorem NY {k:Int} {x:AV} {es:List (Int×AV)} (h:k∉es.map (·.1)):(aput es k x).map (·.1)=es.map (·.1)++[k]:=by
 unfold aput
 rw [if_neg,Ar]; · rfl
 rw [E6]
 rintro ⟨y,hy,e⟩
 exact h (of_decide_eq_true e▸EV hy)
theorem Oc {k:Int} {es:List (Int×AV)} {r:List Int} (e:es.map (·.1)=r++[k]) (h:k∉r):(adel es k).map (·.1)=r:=by
 have:(adel es k).map (·.1)=(es.map (·.1)).filter fun x=>decide (x≠k):=by
  unfold adel; rw [List.filter_map]; rfl
 rw [this,e,List.filter_append,EX.mpr fun x hx=>decide_eq_true (show x≠k from fun e=>h (by rw [← e]; exact hx))]
 simp
theorem HO:∀ {xs ys:List Int},xs.Nodup->(∀ x∈xs,x∈ys)->xs.length≤ys.length
 | [],_,_,_=>A4 _
 | x::xs,ys,nd,h=>by
  rw [BA] at nd
  have hx:=h x (.head _)
  have:=HO (ys:=ys.erase x) nd.2 fun y hy=>(List.mem_erase_of_ne fun (e:y=x)=>nd.1 (by rw [← e]; exact hy)).mpr (h y (.tail _ hy))
  rw [FY hx] at this
  rw [AW]; exact Ab (AB this) (A1 (Cc (Gs hx)))
theorem So.congr {b c:Nat} {S:SS} {H H':Hp} (h:So b S H) (hc:b+2<c) (e:∀ l:Lb,l.1<c->H' l=H l):So b S H':=by
 have e0:∀ x,H' (b,x)=H (b,x):=fun x=>e _ (Ag (A3 b 2) hc)
 have e1:∀ x,H' (b+1,x)=H (b+1,x):=fun x=>e _ (AA hc)
 have e2:∀ x,H' (b+2,x)=H (b+2,x):=fun x=>e _ hc
 exact ⟨(e0 _).trans h.i,(e0 _).trans h.a,let ⟨ep,q⟩:=h.d; ⟨ep,(e0 _).trans q⟩,fun xs q=>(e0 _).trans (h.r xs q),fun p q=>(e1 _).trans (h.n p q),fun p q=>(e2 _).trans (h.s p q),fun p q=>⟨(e1 _).trans (h.f p q).1,(e2 _).trans (h.f p q).2⟩,fun q=>(e0 _).trans (h.g q),h.z⟩
structure Cy (b c:Nat) (S:SS) (H0:Hp) (st:List Int) (ps:Int->Nat) (sn:List Int) (H:Hp):Prop where
 out:∀ l:Lb,l.1<c->H l=H0 l
 stk:H (c,0)=some (.list (nts st))
 its:H (c,1)=some (.list (st.map fun s=>.nxt (c+1,s)))
 see:H (c,2)=some (.iset (fun x=>decide (x∈sn)) sn.length)
 n2s:Ex2 fun es ep=>H (c,3)=some (.dict es ep)∧es.map (·.1)=st
 itr:∀ s∈st,H (c+1,s)=some (.iter (b+2,s) (ps s))
 fre:∀ s,s∉sn->H (c+1,s)=none
 sub:∀ s∈st,s∈sn
 sk:∀ s∈sn,s∈S.keys
 nd:sn.Nodup
 ch:st.Pairwise (· > ·)
 le:∀ s∈st,ps s≤(S.su s).length
 far:∀ l:Lb,c+2≤l.1->H l=none
noncomputable def wt (S:SS) (ps:Int->Nat) (s:Int):Nat:=1+(S.su s).length - ps s
noncomputable def phi (S:SS) (L:Nat) (st:List Int) (ps:Int->Nat) (sn:List Int):Nat:=(S.keys.length - sn.length)*(L+2)+(st.map (wt S ps)).sum
theorem PH {S:SS} {ps:Int->Nat} {s:Int} {v:Nat} {st:List Int} (h:s∉st):st.map (wt S (upd ps s v))=st.map (wt S ps) :=
 Cq fun x hx=>by unfold wt; rw [Hl _ _ fun (e:x=s)=>h (by rw [← e]; exact hx)]
section
variable {b c:Nat} {S:SS} {H0 H:Hp} {st:List Int} {ps:Int->Nat} {sn:List Int}
theorem Cy.len (K:Cy b c S H0 st ps sn H):sn.length≤S.keys.length:=HO K.nd K.sk
theorem Cy.push (K:Cy b c S H0 st ps sn H) {v:Int} (hv:v∈S.keys) (hn:v∉sn) (hl:∀ s∈st,v<s) {es:List (Int×AV)} (he:es.map (·.1)=st) {x:AV} {ep:Nat} :
  Cy b c S H0 (st++[v]) (upd ps v 0) (sn++[v]) (up (up (up (up (up H (c,2) (.iset (fun y=>decide (y∈sn)||decide (y=v)) (if decide (v∈sn)=true then sn.length else sn.length+1))) (c+1,v) (.iter (b+2,v) 0)) (c,1) (.list ((st.map fun s=>.nxt (c+1,s))++[.nxt (c+1,v)]))) (c,3) (.dict (aput es v x) ep)) (c,0) (.list (nts st++[.int v]))) where
 out:=fun l hl=>by
  have n:∀ x,l≠(c,x):=fun x e=>by rw [e] at hl; exact Cm _ hl
  have n':∀ x,l≠(c+1,x):=fun x e=>by rw [e] at hl; exact Cm _ (AA hl)
  rw [Ha _ _ (n _),Ha _ _ (n _),Ha _ _ (n _),Ha _ _ (n' _),Ha _ _ (n _)]; exact K.out l hl
 stk:=(Hb ..).trans (by rw [show nts (st++[v])=nts st++[.int v] from Ar])
 its:=(Ha _ _ (nn (by decide))).trans ((Ha _ _ (nn (by decide))).trans ((Hb ..).trans (by rw [Ar]; rfl)))
 see:=by
  refine (Ha _ _ (nn (by decide))).trans ((Ha _ _ (nn (by decide))).trans ((Ha _ _ (nn (by decide))).trans ((Ha _ _ n01).trans ((Hb ..).trans ?_))))
  rw [if_neg (by simpa using hn),A6]
  congr 2
  funext y; simp [Bool.decide_or]
 n2s:=⟨aput es v x,ep,(Ha _ _ (nn (by decide))).trans (Hb ..),by rw [NY (he▸fun m=>B3 _ (hl v m)),he]⟩
 itr:=fun s hs=>by
  rw [Ha _ _ n01.symm,Ha _ _ n01.symm,Ha _ _ n01.symm]
  by_cases e:s=v
  ·subst e; rw [Hb,Hg]
  ·rw [Ha _ _ (nn e),Ha _ _ n01.symm,Hl _ _ e]
   exact K.itr s ((Aj.mp hs).resolve_right fun m=>e (Al.mp m))
 fre:=fun s hs=>by
  have e:s≠v:=fun e=>hs (Aj.mpr (.inr (Al.mpr e)))
  rw [Ha _ _ n01.symm,Ha _ _ n01.symm,Ha _ _ n01.symm,Ha _ _ (nn e),Ha _ _ n01.symm]
  exact K.fre s fun m=>hs (Aj.mpr (.inl m))
 sub:=fun s hs=>(Aj.mp hs).elim (fun m=>Aj.mpr (.inl (K.sub s m))) fun m=>Aj.mpr (.inr m)
 sk:=fun s hs=>(Aj.mp hs).elim (K.sk s) fun m=>Al.mp m▸hv
 nd:=BH.mpr ⟨K.nd,by simp,fun x hx y hy e=>hn (by rw [← Al.mp hy,← e]; exact hx)⟩
 ch:=Bj.mpr ⟨K.ch,by simp,fun x hx y hy=>Al.mp hy▸hl x hx⟩
 le:=fun s hs=>by
  by_cases e:s=v
  ·subst e; rw [Hg]; exact A4 _
  ·rw [Hl _ _ e]; exact K.le s ((Aj.mp hs).resolve_right fun m=>e (Al.mp m))
 far:=fun l hl=>by
  have n:∀ x,l≠(c,x):=fun x e=>by rw [e] at hl; exact absurd hl (by simp)
  have n':∀ x,l≠(c+1,x):=fun x e=>by rw [e] at hl; exact absurd hl (by simp)
  rw [Ha _ _ (n _),Ha _ _ (n _),Ha _ _ (n _),Ha _ _ (n' _),Ha _ _ (n _)]; exact K.far l hl
theorem JN {r:List Int} {s:Int} (ch:(r++[s]).Pairwise (· > ·)):s∉r:=fun m=>B3 s ((Bj.mp ch).2.2 s m s (.head _))
theorem Cy.next {r:List Int} {s:Int} (K:Cy b c S H0 (r++[s]) ps sn H) (hp:ps s<(S.su s).length):Cy b c S H0 (r++[s]) (upd ps s (ps s+1)) sn (up H (c+1,s) (.iter (b+2,s) (ps s+1))) where
 out:=fun l hl=>(Ha _ _ fun e=>by rw [e] at hl; exact Cm _ (AA hl)).trans (K.out l hl)
 stk:=(Ha _ _ n01).trans K.stk
 its:=(Ha _ _ n01).trans K.its
 see:=(Ha _ _ n01).trans K.see
 n2s:=let ⟨es,ep,a,e⟩:=K.n2s; ⟨es,ep,(Ha _ _ n01).trans a,e⟩
 itr:=fun x hx=>by
  by_cases e:x=s
  ·subst e; rw [Hb,Hg]
  ·rw [Ha _ _ (nn e),Hl _ _ e]; exact K.itr x hx
 fre:=fun x hx=>(Ha _ _ (nn fun (e:x=s)=>hx (by rw [e]; exact K.sub s (by simp)))).trans (K.fre x hx)
 sub:=K.sub
 sk:=K.sk
 nd:=K.nd
 ch:=K.ch
 le:=fun x hx=>by
  by_cases e:x=s
  ·subst e; rw [Hg]; exact hp
  ·rw [Hl _ _ e]; exact K.le x hx
 far:=fun l hl=>(Ha _ _ fun e=>by rw [e] at hl; exact absurd hl (by simp)).trans (K.far l hl)
theorem Cy.pop {r:List Int} {s:Int} (K:Cy b c S H0 (r++[s]) ps sn H) {es:List (Int×AV)} (he:es.map (·.1)=r++[s]) {ep:Nat} :
  Cy b c S H0 r ps sn (up (up (up (up H (c+1,s) .dead) (c,0) (.list (nts r))) (c,3) (.dict (adel es s) ep)) (c,1) (.list ((r++[s]).map fun s=>AV.nxt (c+1,s)).dropLast)) where
 out:=fun l hl=>by
  have n:∀ x,l≠(c,x):=fun x e=>by rw [e] at hl; exact Cm _ hl
  rw [Ha _ _ (n _),Ha _ _ (n _),Ha _ _ (n _),Ha _ _ fun e=>by rw [e] at hl; exact Cm _ (AA hl)]; exact K.out l hl
 stk:=(Ha _ _ (nn (by decide))).trans ((Ha _ _ (nn (by decide))).trans (Hb ..))
 its:=(Hb ..).trans (by rw [Ar,Fj,C7])
 see:=(Ha _ _ (nn (by decide))).trans ((Ha _ _ (nn (by decide))).trans ((Ha _ _ (nn (by decide))).trans ((Ha _ _ n01).trans K.see)))
 n2s:=⟨_,_,(Ha _ _ (nn (by decide))).trans (Hb ..),Oc he (JN K.ch)⟩
 itr:=fun x hx=>(Ha _ _ n01.symm).trans ((Ha _ _ n01.symm).trans ((Ha _ _ n01.symm).trans ((Ha _ _ (nn fun (e:x=s)=>JN K.ch (by rw [← e]; exact hx))).trans (K.itr x (Aj.mpr (.inl hx))))))
 fre:=fun x hx=>(Ha _ _ n01.symm).trans ((Ha _ _ n01.symm).trans ((Ha _ _ n01.symm).trans ((Ha _ _ (nn fun (e:x=s)=>hx (by rw [e]; exact K.sub s (by simp)))).trans (K.fre x hx))))
 sub:=fun x hx=>K.sub x (Aj.mpr (.inl hx))
 sk:=K.sk
 nd:=K.nd
 ch:=(Bj.mp K.ch).1
 le:=fun x hx=>K.le x (Aj.mpr (.inl hx))
 far:=fun l hl=>by
  have n:∀ x,l≠(c,x):=fun x e=>by rw [e] at hl; exact absurd hl (by simp)
  rw [Ha _ _ (n _),Ha _ _ (n _),Ha _ _ (n _),Ha _ _ fun e=>by rw [e] at hl; exact absurd hl (by simp)]; exact K.far l hl
theorem OG (K:Cy b c S H0 st ps sn H) {L:Nat} (hL:∀ x,(S.su x).length≤L) {v:Int} (hv:v∈S.keys) (hn:v∉sn) (hs:v∉st):phi S L (st++[v]) (upd ps v 0) (sn++[v])<phi S L st ps sn:=by
 have h1:(sn++[v]).length≤S.keys.length:=HO (BH.mpr ⟨K.nd,by simp,fun x hx y hy e=>hn (by rw [← Al.mp hy,← e]; exact hx)⟩) fun s hs=>(Aj.mp hs).elim (K.sk s) fun m=>Al.mp m▸hv
 unfold phi
 rw [A6] at h1 ⊢
 rw [Ar,C9,PH hs]
 have h2:S.keys.length - sn.length=(S.keys.length - (sn.length+1))+1:=IQ h1
 have h3:([v].map (wt S (upd ps v 0))).sum=1+(S.su v).length:=by simp [wt,Hg]
 rw [h3,h2,G8]
 have:=hL v
 simp only [C1]
 rw [DR _ (L+2),BU (L+2)]
 exact CM (CM (Ag (AS this 1) (by rw [BU]; exact AY _)) _) _
theorem OH {r:List Int} {s:Int} (K:Cy b c S H0 (r++[s]) ps sn H) {L:Nat} (hp:ps s<(S.su s).length):phi S L (r++[s]) (upd ps s (ps s+1)) sn<phi S L (r++[s]) ps sn:=by
 unfold phi
 rw [Ar,Ar,C9,C9,PH (JN K.ch)]
 have h3:([s].map (wt S (upd ps s (ps s+1)))).sum=1+(S.su s).length - (ps s+1):=by simp [wt,Hg]
 have h4:([s].map (wt S ps)).sum=1+(S.su s).length - ps s:=by simp [wt]
 rw [h3,h4]; exact CM (CM (Nat.sub_lt_sub_left (by rw [BU]; exact AQ hp) (AY _)) _) _
theorem MM {r:List Int} {s:Int} (K:Cy b c S H0 (r++[s]) ps sn H) {L:Nat}:phi S L r ps sn<phi S L (r++[s]) ps sn:=by
 unfold phi
 rw [Ar,C9]
 have h4:([s].map (wt S ps)).sum=1+(S.su s).length - ps s:=by simp [wt]
 have:=K.le s (by simp)
 rw [h4]; exact CM (Gq (BX (by rw [BU]; exact B1 this))) _
end
end
section
open Builtin Builtin.Str
section
variable {B:Bx} {b c:Nat} {S:SS} {H:Hp} {Q:AV->Hp->Prop}
noncomputable abbrev cyL (b c:Nat) (o:Option AV):List (Option AV):=[some (.ref (b,0)),some (.ref (b,2)),some (.ref (c,0)),some (.ref (c,1)),some (.ref (c,2)),some (.ref (c,3)),o]
theorem UJ (h:So b S H) (hc:b+2<c) (hf:Free c H) {L:Nat} (hL:∀ x,(S.su x).length≤L) (hLz:L≤big) (hsu:∀ q∈S.keys,∀ p∈S.su q,p∈S.keys∧p<q) (q:∀ H',(∀ l:Lb,l.1<c->H' l=H l)->Free (c+2) H'->Q .none H'):WC (gg B) 2 (.ref 127) [.ref (b,0)] H Q:=by
 refine (cycF B).wc (ab:=[(_,_)]) (WBind.of1 (by intro v1; kernel_rfl)) rfl ?_
 dsimp only [vT,retv]
 have fc:∀ x,H (c,x)=none:=fun x=>hf _ (Ak _)
 have fc1:∀ x,H (c+1,x)=none:=fun x=>hf _ (BP _)
 have n10:((c,1):Lb)≠(c,0):=nn (by decide)
 have n20:((c,2):Lb)≠(c,0):=nn (by decide)
 have n21:((c,2):Lb)≠(c,1):=nn (by decide)
 have n30:((c,3):Lb)≠(c,0):=nn (by decide)
 have n31:((c,3):Lb)≠(c,1):=nn (by decide)
 have n32:((c,3):Lb)≠(c,2):=nn (by decide)
 refine ⟨(b,1),S.at b,.ref (b,2),h.i,h.a,rfl,rfl,rfl,.inr ⟨(c,0),fc 0,rfl,.inr ⟨(c,1),(Ha _ _ n10).trans (fc 1),(c,2),(Ha _ _ n21).trans ((Ha _ _ n20).trans (fc 2)),(c,3),(Ha _ _ n32).trans ((Ha _ _ n31).trans ((Ha _ _ n30).trans (fc 3))),?_⟩⟩⟩
 have K0:Cy b c S H [] (fun _=>0) [] (up (up (up (up H (c,0) (.list [])) (c,1) (.list [])) (c,2) (.iset (fun _=>false) 0)) (c,3) (.dict [] 0)):=by
  have ev:∀ l:Lb,l.1≠c->up (up (up (up H (c,0) (.list [])) (c,1) (.list [])) (c,2) (.iset (fun _=>false) 0)) (c,3) (.dict [] 0) l=H l:=fun l hl=>by
   have n:∀ x,l≠(c,x):=fun x e=>hl (by rw [e])
   rw [Ha _ _ (n _),Ha _ _ (n _),Ha _ _ (n _),Ha _ _ (n _)]
  exact ⟨fun l hl=>ev l (AE hl),(Ha _ _ n30.symm).trans ((Ha _ _ n20.symm).trans ((Ha _ _ n10.symm).trans (Hb ..))),(Ha _ _ n31.symm).trans ((Ha _ _ n21.symm).trans (Hb ..)),
   (Ha _ _ n32.symm).trans ((Hb ..).trans (by congr 2)),⟨[],0,Hb ..,rfl⟩,nofun,fun s _=>(ev _ (E8 c)).trans (fc1 s),nofun,nofun,.nil,.nil,nofun,fun l hl=>(ev l (by lia)).trans (hf l (by lia))⟩
 show itP (.ref (b,2)) ⟨cyL b c none,up (up (up (up H (c,0) (.list [])) (c,1) (.list [])) (c,2) (.iset (fun _=>false) 0)) (c,3) (.dict [] 0)⟩ _
 refine .inr ⟨dictO b S.keys,h.d.choose,?_,?_⟩
 ·exact (K0.out (b,2) (by show b<c; lia)).trans h.d.choose_spec
 have hdict:∀ {st ps sn H'},Cy b c S H st ps sn H'->H' (b,2)=some (.dict (dictO b S.keys) h.d.choose):=fun K=>(K.out (b,2) (by show b<c; lia)).trans h.d.choose_spec
 refine ⟨fun i σ=>Ex4 fun ps sn H' o=>σ=⟨cyL b c o,H'⟩∧Cy b c S H [] ps sn H',⟨_,_,_,none,rfl,K0⟩,?_,?_,?_⟩
 ·rintro i σ ⟨ps,sn,H',o,rfl,K⟩
  exact hdict K
 ·rintro i x σ hx ⟨ps,sn,H',o,rfl,K⟩
  unfold dictO at hx
  rw [AU,Ai] at hx
  obtain ⟨p,hp,rfl⟩:=Ao.mp hx
  have hp:=Au hp
  have hz:∀ {st ps sn H'},Cy b c S H st ps sn H'->sn.length≤1000:=fun K=>Ab K.len h.z
  have sb:∀ n,n≤1000->n+1<scanBound:=fun n hn=>by unfold scanBound; lia
  dsimp only [vT,retv]
  refine .inr (.inl ⟨_,_,K.see,AA (sb _ (hz K)),fun ht=>⟨ps,sn,H',_,rfl,K⟩,fun ht=>?_⟩)
  refine ⟨fun n σ=>Ex5 fun st ps sn H' v=>An5 (σ=⟨cyL b c (some (.int v)),H'⟩) (Cy b c S H st ps sn H') (v∈S.keys) ((∀ s∈st,v<s)) (phi S L st ps sn≤n),_,⟨[],ps,sn,H',p,rfl,K,hp,nofun,Ak _⟩,?_⟩
  rintro n σ ⟨st,ps,sn,H',v,rfl,K,hv,hl,hn⟩
  refine ⟨fun _=>?_,nofun⟩
  have inner:∀ {st ps sn H' o} (Q':PF),Cy b c S H st ps sn H'->phi S L st ps sn≤n →
    (∀ m st ps sn H' v,m<n->Cy b c S H st ps sn H'->v∈S.keys->(∀ s∈st,v<s)->phi S L st ps sn≤m->Q' .next ⟨cyL b c (some (.int v)),H'⟩)->(∀ ps sn H' o,Cy b c S H [] ps sn H'->Q' .brk ⟨cyL b c o,H'⟩) →
    WhileP (vT B 0 (.var 2)) (vS B 0 (.seq (.tryN 6 3 2 5) .skip)) (vS B 0 (.seq .brk .skip)) ⟨cyL b c o,H'⟩ Q':=by
   intro st ps sn H' o Q' K hn q1 q2
   refine ⟨fun m σ=>m≤n∧Ex5 fun st ps sn H' o=>An3 (σ=⟨cyL b c o,H'⟩) (Cy b c S H st ps sn H') (phi S L st ps sn=m),_,⟨hn,st,ps,sn,H',o,rfl,K,rfl⟩,?_⟩
   rintro m σ ⟨hm,st,ps,sn,H',o,rfl,K,rfl⟩
   have hst:st.length≤1000:=by
    have h1:st.Nodup:=K.ch.imp (S:=(· ≠ ·)) fun {x y} (hab:x>y) (e:x=y)=>B3 y (by rw [e] at hab; exact hab)
    exact Ab (HO h1 K.sub) (hz K)
   dsimp only [vT,retv]
   refine Ul (xs:=st) K.stk (by unfold big; exact Ab (by assumption) (by decide)) ⟨fun ht=>?_,fun ht=>?_⟩
   ·rcases DE st with rfl | ⟨r,s,rfl⟩
    ·cases ht
    rw [DG] at K hst hm ⊢
    have hs:s∈r++[s]:=by simp
    have hsk:=K.sk s (K.sub s hs)
    have hlist:H' (b+2,s)=some (.list (nts (S.su s))):=(K.out (b+2,s) hc).trans (h.s s hsk)
    have hL2:=hL s
    refine ⟨(c,1),(c,0),(c,3),_,(c+1,s),(b+2,s),ps s,nts (S.su s),rfl,K.its,by rw [Ae]; unfold big; exact Ab (by assumption) (by decide),by simp,K.itr s hs,hlist,fun x hx=>?_,fun hx=>?_⟩
    ·obtain ⟨x',hx',rfl⟩:=Jz hx
     obtain ⟨k1,k2⟩:=hsu s hsk x' (Au hx')
     have hps:=(Am.mp hx').1
     refine q1 _ _ _ _ _ _ (An (OH K hps) hm) (K.next hps) k1 (fun y hy=>?_) (Ak _)
     rcases Aj.mp hy with hy | hy
     ·exact Du k2 ((Bj.mp K.ch).2.2 y hy s (.head _))
     ·rw [Al.mp hy]; exact k2
    ·obtain ⟨es,ep,e1,e2⟩:=K.n2s
     refine ⟨rfl,rfl,nts r,s,es,ep,n10,n01.symm,n01.symm,n01.symm,n30.symm,n31.symm,K.stk.trans (by rw [show nts (r++[s])=nts r++[.int s] from Ar]),?_,e1,?_,?_,fun ep'=>?_⟩
     ·rw [Hc]; rw [A6] at hst; unfold big; exact Ab (by assumption) (by decide)
     ·have:=congrArg AH e2; rw [Ae] at this; unfold big; lia
     ·rw [K5,e2]; exact decide_eq_true hs
     ·exact ⟨_,MM K,Ay (An (MM K) hm),r,ps,sn,_,o,rfl,K.pop e2,rfl⟩
   ·rcases DE st with rfl | ⟨r,s,rfl⟩
    ·exact q2 _ _ _ _ K
    ·rw [DG] at ht; simp at ht
  refine .inr (.inl ⟨_,_,K.see,AA (sb _ (hz K)),fun ht=>?_,fun ht=>?_⟩)
  ·obtain ⟨es,ep,e1,e2⟩:=K.n2s
   refine .inr (.inr ⟨es,ep,e1,?_⟩)
   rw [K5,e2,decide_eq_false fun m=>B3 _ (hl v m)]
   exact ⟨nofun,fun _=>inner _ K hn (fun m st ps sn H' v h1 h2 h3 h4 h5=>⟨m,h1,st,ps,sn,H',v,rfl,h2,h3,h4,h5⟩) fun ps sn H' o h1=>⟨ps,sn,H',o,rfl,h1⟩⟩
  ·have hvn:v∉sn:=of_decide_eq_false ht
   have hvt:v∉st:=fun m=>B3 _ (hl v m)
   obtain ⟨es,ep,e1,e2⟩:=K.n2s
   have hlt:=OG K hL hv hvn hvt
   have nb:∀ {y:Nat×Int} {x:Int},y.1≤b+2->y≠(c,x):=fun h e=>by rw [e] at h; exact absurd hc (Bh.mpr h)
   have hsl:=h.n v hv
   have hll:=h.s v hv
   have hst:st.length≤1000:=by
    have h1:st.Nodup:=K.ch.imp (S:=(· ≠ ·)) fun {x y} (hab:x>y) (e:x=y)=>B3 y (by rw [e] at hab; exact hab)
    exact Ab (HO h1 K.sub) (hz K)
   refine ⟨⟨_,_,_,rfl,K.see,AA (sb _ (hz K))⟩,_,_,K.see,sb _ (hz K),?_⟩
   refine ⟨.inl ⟨_,.inr ⟨_,rfl,(Ha _ _ n21.symm).trans K.its⟩⟩,?_⟩
   refine .inr (.inl ⟨_,_,.ref (b+1,v),(Ha _ _ (nb (A3 ..))).trans (hdict K),(HV b v S.keys).trans (if_pos hv),?_⟩)
   refine ⟨_,.ref (b+2,v),(Ha _ _ (nb (BP _))).trans ((K.out _ (by show b+1<c; exact Ay (by assumption))).trans hsl),rfl,rfl,?_⟩
   refine ⟨_,(c+1,v),(Ha _ _ (nb (Ak _))).trans ((K.out _ hc).trans hll),(Ha _ _ n01.symm).trans (K.fre v hvn),?_⟩
   refine ⟨_,_,_,rfl,Hb ..,?_⟩
   refine .inl ⟨_,(Ha _ _ n01).trans ((Ha _ _ n21.symm).trans K.its),by rw [Ae]; unfold big; exact Ab (by assumption) (by decide),?_⟩
   refine .inl ⟨_,(Ha _ _ n10.symm).trans ((Ha _ _ n01).trans ((Ha _ _ n20.symm).trans K.stk)),by rw [Hc]; unfold big; exact Ab (by assumption) (by decide),?_⟩
   refine .inr ⟨es,ep,(Ha _ _ n31).trans ((Ha _ _ n01).trans ((Ha _ _ n32).trans e1)),?_,fun ep'=>?_⟩
   ·have:=congrArg AH e2; rw [Ae] at this; unfold big; lia
   refine ⟨.inl ⟨nts st,.inr ⟨_,rfl,?_⟩⟩,.inl ⟨nts st,?_,by rw [Hc]; unfold big; exact Ab (by assumption) (by decide),?_⟩⟩
   ·exact (Ha _ _ n30.symm).trans ((Ha _ _ n10.symm).trans ((Ha _ _ n01).trans ((Ha _ _ n20.symm).trans K.stk)))
   ·exact (Ha _ _ n30.symm).trans ((Ha _ _ n10.symm).trans ((Ha _ _ n01).trans ((Ha _ _ n20.symm).trans K.stk)))
   ·exact inner _ (K.push hv hvn hl e2) (Ay (An hlt hn)) (fun m st ps sn H' v h1 h2 h3 h4 h5=>⟨m,h1,st,ps,sn,H',v,rfl,h2,h3,h4,h5⟩) fun ps sn H' o h1=>⟨ps,sn,H',o,rfl,h1⟩
 ·rintro σ ⟨ps,sn,H',o,rfl,K⟩
  exact q H' K.out K.far
end
end
section
open Builtin Builtin.Str
section
variable {b:Nat} {S:SS} {H:Hp}
theorem So.setReady (h:So b S H) (xs:List Int):So b { S with rdy:=some xs } (up (up H (b,3) (.list (nts xs))) (b,1) (.attrs (SS.at { S with rdy:=some xs } b))) where
 i:=(Ha _ _ (nn (by decide))).trans ((Ha _ _ (nn (by decide))).trans h.i)
 a:=Hb ..
 d:=let ⟨ep,e⟩:=h.d; ⟨ep,(Ha _ _ (nn (by decide))).trans ((Ha _ _ (nn (by decide))).trans e)⟩
 r:=fun zs e=>by cases e; exact (Ha _ _ (nn (by decide))).trans (Hb ..)
 n:=fun q hq=>(Ha _ _ n01.symm).trans ((Ha _ _ n01.symm).trans (h.n q hq))
 s:=fun q hq=>(Ha _ _ n02.symm).trans ((Ha _ _ n02.symm).trans (h.s q hq))
 f:=fun q hq=>⟨(Ha _ _ n01.symm).trans ((Ha _ _ n01.symm).trans (h.f q hq).1),(Ha _ _ n02.symm).trans ((Ha _ _ n02.symm).trans (h.f q hq).2)⟩
 g:=nofun
 z:=h.z
end
section
variable {B:Bx} {b c:Nat} {S:SS} {H:Hp} {Q:AV->Hp->Prop}
noncomputable def SS.prep (S:SS):SS:={ S with rdy:=some (S.keys.filter fun p=>decide (S.np p=0)) }
noncomputable def zeroF (S:SS) (v:AV):Option AV:=match v with
 | .ref l=>if S.np l.2=0 then some (.int l.2) else none
 | _=>none
theorem Mw (b:Nat) (S:SS) (ks:List Int):((dictO b ks).map (·.2)).filterMap (zeroF S)=nts (ks.filter fun p=>decide (S.np p=0)):=by
 unfold dictO
 rw [AU,AP]
 exact Jh (fun _=>rfl) ks
theorem Td (h:So b S H) (hr:S.rdy=none) (hc:b+2<c) (hf:Free c H) {L:Nat} (hL:∀ x,(S.su x).length≤L) (hLz:L≤big) (hsu:∀ q∈S.keys,∀ p∈S.su q,p∈S.keys∧p<q)
  (q:∀ H',So b S.prep H'->(∀ l:Lb,l.1<c->l.1≠b->l.1≠b+1->l.1≠b+2->H' l=H l)->Free (c+2) H'->Q .none H'):WC (gg B) 4 (.ref 92) [.ref (b,0)] H Q:=by
 refine (Uw B).wc (ab:=[(_,_)]) (WBind.of1 (by intro v1; kernel_rfl)) rfl ?_
 dsimp only [retv]
 refine ⟨(b,1),S.at b,.none,h.i,h.a,by unfold SS.at SS.rv; rw [hr]; rfl,rfl,nofun,fun _=>?_⟩
 refine ⟨(b,2),dictO b S.keys,h.d.choose,(b,1),S.at b,.ref (b,2),h.i,h.a,rfl,rfl,rfl,h.d.choose_spec,?_,zeroF S,?_,?_⟩
 ·unfold dictO; rw [Ae,Ae]; have:=h.z; unfold big; exact Ab (by assumption) (by decide)
 ·intro x hx
  unfold dictO at hx
  rw [AU] at hx
  obtain ⟨p,hp,rfl⟩:=As.mp hx
  refine ⟨_,.int (S.np p),h.n p hp,rfl,rfl,rfl,fun ht=>?_,fun ht=>?_⟩
  ·exact ⟨_,.int p,h.n p hp,rfl,rfl,rfl,if_pos (beq_iff_eq.mp ht)⟩
  ·exact if_neg fun e=>by rw [e] at ht; cases ht
 ·rw [Mw]
  refine .inr ⟨(b,3),h.g hr,?_⟩
  refine ⟨(b,1),S.at b,(Ha _ _ (nn (by decide))).trans h.i,(Ha _ _ (nn (by decide))).trans h.a,JX rfl,.inl ⟨S.rv b,rfl,?_⟩⟩
  have h2:=h.setReady (S.keys.filter fun p=>decide (S.np p=0))
  have o2:∀ l:Lb,l.1≠b->up (up H (b,3) (.list (nts (S.keys.filter fun p=>decide (S.np p=0))))) (b,1) (.attrs (SS.at S.prep b)) l=H l:=fun l hl=>by
   rw [Ha _ _ fun e=>hl (by rw [e]),Ha _ _ fun e=>hl (by rw [e])]
  refine ⟨h2.um (u:=.cyc) rfl,2,Ak _,UJ h2 hc (fun l hl=>(o2 l (AG (An (Ag (A3 ..) hc) hl))).trans (hf l hl)) hL hLz hsu fun H' e1 e2=>⟨nofun,fun _=>?_⟩⟩
  exact q H' (h2.congr hc e1) (fun l l1 l2 l3 l4=>(e1 l l1).trans (o2 l l2)) e2
theorem LV (h:So b S H) {ys:List Int} (hr:S.rdy=some ys) (hz:ys.length≤big) (q:Q (.bool (decide (S.fin<S.pas)||!ys.isEmpty)) H):WC (gg B) 2 (.ref 106) [.ref (b,0)] H Q:=by
 refine (Sj B).wc (ab:=[(_,_)]) (WBind.of1 (by intro v1; kernel_rfl)) rfl ?_
 dsimp only [vS1,vS7,vE,vT]
 have hrd:∀ (Q:PA) loc,Q (.ref (b,3)) ⟨loc,H⟩->atP .ready (.ref (b,0)) ⟨loc,H⟩ Q:=fun Q loc hq=>⟨(b,1),S.at b,.ref (b,3),h.i,h.a,by unfold SS.at SS.rv; rw [hr]; rfl,rfl,hq⟩
 refine hrd _ _ ⟨nofun,fun _=>?_⟩
 refine ⟨(b,1),S.at b,.int S.fin,h.i,h.a,rfl,rfl,(b,1),S.at b,.int S.pas,h.i,h.a,rfl,rfl,fun ht=>?_,fun ht=>?_⟩
 ·rw [ht] at q ⊢; exact q
 ·refine hrd _ _ ⟨nts ys,.inr ⟨_,rfl,h.r ys hr⟩,by rwa [Hc],?_⟩
  rw [ht,Bool.false_or] at q
  cases ys<;>exact q
noncomputable def SS.passed (S:SS) (ys:List Int):SS:={ S with np:=ys.foldl (fun f p=>upd f p (-1)) S.np,rdy:=some [],pas:=S.pas+ys.length }
theorem KM (h:So b S H) {ys:List Int} (hr:S.rdy=some ys) (hz:ys.length≤big) (hk:∀ p∈ys,p∈S.keys) (q:∀ H',So b (S.passed ys) H'->Out b H H'->Q (.tup (nts ys)) H'):WC (gg B) 2 (.ref 99) [.ref (b,0)] H Q:=by
 refine (Tb B).wc (ab:=[(_,_)]) (WBind.of1 (by intro v1; kernel_rfl)) rfl ?_
 dsimp only [vS0,vG,List.set,retv]
 refine ⟨(b,1),S.at b,.ref (b,3),h.i,h.a,by unfold SS.at SS.rv; rw [hr]; rfl,rfl,nofun,fun _=>?_⟩
 refine ⟨(b,1),S.at b,.ref (b,3),h.i,h.a,by unfold SS.at SS.rv; rw [hr]; rfl,rfl,nts ys,.inr ⟨_,rfl,h.r ys hr⟩,by rwa [Hc],?_⟩
 refine ⟨(b,1),S.at b,.ref (b,2),h.i,h.a,rfl,rfl,?_⟩
 refine ⟨fun i σ=>Ex2 fun (H':Hp) (o:Option AV)=>An3 (σ=⟨[some (.ref (b,0)),some (.tup (nts ys)),some (.ref (b,2)),o],H'⟩) (So b { S with np:=(ys.take i).foldl (fun f p=>upd f p (-1)) S.np } H') (Out b H H'),⟨H,none,rfl,h,.refl b H⟩,fun _ _ _=>trivial,?_,?_⟩
 ·rintro i v σ hv ⟨H',o,rfl,a1,a2⟩
  obtain ⟨x,hx,rfl⟩:=Jz hv
  have hxk:=hk x (Au hx)
  dsimp only [vS0,vG,List.set,retv]
  refine .inr (.inl ⟨_,_,.ref (b+1,x),a1.d.choose_spec,(HV b x _).trans (if_pos hxk),?_⟩)
  refine ⟨_,a1.n x hxk,_,_,rfl,?_,a2.trans .up1⟩
  rw [Hu _ _ _ hx]
  exact a1.setN hxk (-1)
 ·rintro σ ⟨H',o,rfl,a1,a2⟩
  rw [Hc,CO] at a1
  dsimp only [vS0,vG,List.set,retv]
  refine ⟨(b,1),_,.ref (b,3),a1.i,a1.a,by unfold SS.at SS.rv; dsimp only; rw [hr]; rfl,rfl,⟨nts ys,.inr ⟨_,rfl,a1.r ys hr⟩⟩,nts ys,a1.r ys hr,by rwa [Hc],?_⟩
  have a3:=a1.setR (ys:=ys) hr []
  refine ⟨(b,1),_,.int S.pas,a3.i,a3.a,rfl,rfl,by rwa [Hc],(b,1),_,a3.i,a3.a,JX rfl,.inl ⟨_,rfl,?_⟩⟩
  rw [Hc]
  exact q _ (a3.setA (S.pas+ys.length) S.fin) ((a2.trans .up0).trans .up0)
noncomputable def SS.dec (S:SS) (p:Int):SS:={ S with np:=upd S.np p (S.np p - 1),rdy:=if S.np p - 1=0 then S.rdy.map (· ++[p]) else S.rdy }
noncomputable def SS.done1 (S:SS) (v:Int):SS:=let T:=(S.su v).foldl SS.dec { S with np:=upd S.np v (-2) }; { T with fin:=T.fin+1 }
theorem LN (S:SS) (ps:List Int):(ps.foldl SS.dec S).su=S.su∧(ps.foldl SS.dec S).keys=S.keys∧(ps.foldl SS.dec S).fin=S.fin∧(ps.foldl SS.dec S).pas=S.pas:=by
 induction ps generalizing S with
 | nil=>exact ⟨rfl,rfl,rfl,rfl⟩
 | cons p ps ih=>exact ih (S.dec p)
theorem ND (S:SS) (ps:List Int) {ys:List Int} (h:S.rdy=some ys):∃ zs,(ps.foldl SS.dec S).rdy=some zs∧zs.length≤ys.length+ps.length:=by
 induction ps generalizing S ys with
 | nil=>exact ⟨ys,h,Ak _⟩
 | cons p ps ih =>
  have:∃ zs,(S.dec p).rdy=some zs∧zs.length≤ys.length+1:=by
   unfold SS.dec
   by_cases e:S.np p - 1=0
   ·exact ⟨ys++[p],by dsimp only; rw [if_pos e,h]; rfl,by simp⟩
   ·exact ⟨ys,by dsimp only; rw [if_neg e,h],BP _⟩
  obtain ⟨zs,e,l⟩:=this
  obtain ⟨ws,e',l'⟩:=ih (S.dec p) e
  exact ⟨ws,e',by rw [AW]; lia⟩
theorem Qs (h:So b S H) {ys:List Int} (hr:S.rdy=some ys) {L:Nat} (hL:∀ x,(S.su x).length≤L) {vs':List Int} (hz:ys.length+vs'.length*L<big) (hvz:vs'.length≤1000) (hk:∀ p∈vs',p∈S.keys) (hsu:∀ q∈S.keys,∀ p∈S.su q,p∈S.keys) (hn:∀ i v,vs'[i]?=some v->((vs'.take i).foldl SS.done1 S).np v=-1)
  (q:∀ H',So b (vs'.foldl SS.done1 S) H'->Out b H H'->Q .none H'):WC (gg B) 2 (.ref 120) (.ref (b,0)::nts vs') H Q:=by
 refine (doneF B).wc (ab:=[(_,_),(_,_)]) (WBind.star1 (by rw [Hc]; exact Ab (by assumption) (by decide)) (by intro v1 ws; cases ws<;>kernel_rfl)) rfl ?_
 dsimp only [vS0,retv]
 refine ⟨(b,1),S.at b,.ref (b,3),h.i,h.a,by unfold SS.at SS.rv; rw [hr]; rfl,rfl,nofun,fun _=>?_⟩
 refine ⟨(b,1),S.at b,.ref (b,2),h.i,h.a,rfl,rfl,?_⟩
 refine ⟨fun i σ=>Ex7 fun (H':Hp) (zs:List Int) (o3 o4 o5 o6 o7:Option AV)=>An7 (σ=⟨[some (.ref (b,0)),some (.tup (nts vs')),some (.ref (b,2)),o3,o4,o5,o6,o7],H'⟩) (So b ((vs'.take i).foldl SS.done1 S) H') (Out b H H') (((vs'.take i).foldl SS.done1 S).rdy=some zs) (zs.length≤ys.length+i*L) (((vs'.take i).foldl SS.done1 S).su=S.su) (((vs'.take i).foldl SS.done1 S).keys=S.keys),⟨H,ys,none,none,none,none,none,rfl,h,.refl b H,hr,by exact A3 ..,rfl,rfl⟩,fun _ _ _=>trivial,?_,?_⟩
 ·rintro i v σ hv ⟨H',zs,o3,o4,o5,o6,o7,rfl,a1,a2,a3,a4,a5,a6⟩
  obtain ⟨x,hx,rfl⟩:=Jz hv
  have hil:=(Am.mp hx).1
  have hxk:=hk x (Au hx)
  have hnx:=hn i x hx
  have hnext:=Hu SS.done1 S vs' hx
  generalize hT:(vs'.take i).foldl SS.done1 S=T at a1 a3 a5 a6 hnx hnext
  have hxT:x∈T.keys:=a6▸hxk
  dsimp only [vS0,retv]
  refine ⟨⟨_,_,_,rfl,a1.d.choose_spec⟩,_,_,a1.d.choose_spec,?_⟩
  rw [HV,if_pos hxT]
  refine ⟨nofun,fun _=>?_⟩
  have hs0:=a1.n x hxT
  unfold nodeO at hs0
  rw [hnx] at hs0
  refine ⟨_,.int (-1),hs0,rfl,rfl,nofun,fun _=>⟨_,hs0,?_⟩⟩
  have b1:=a1.setN hxT (-2)
  refine ⟨_,.ref (b+2,x),b1.n x hxT,rfl,rfl,?_⟩
  refine .inl ⟨nts (T.su x),b1.s x hxT,?_⟩
  obtain ⟨d1,d2,d3,d4⟩:=LN { T with np:=upd T.np x (-2) } (T.su x)
  have hl2:(i+1)*L≤vs'.length*L:=Nat.mul_le_mul_right _ hil
  have hLx:(T.su x).length≤L:=by rw [a5]; exact hL x
  refine ⟨fun j σ=>Ex3 fun (H':Hp) (o6 o7:Option AV)=>An3 (σ=⟨[some (.ref (b,0)),some (.tup (nts vs')),some (.ref (b,2)),some (.int x),some (.ref (b+1,x)),some (.int (-1)),o6,o7],H'⟩) (So b (((T.su x).take j).foldl SS.dec { T with np:=upd T.np x (-2) }) H') (Out b H H'),⟨_,o6,o7,rfl,b1,a2.trans .up1⟩,?_,?_,?_⟩
  ·rintro j σ ⟨H2,o6,o7,rfl,c1,c2⟩
   obtain ⟨f1,f2,_⟩:=LN { T with np:=upd T.np x (-2) } ((T.su x).take j)
   have:=c1.s x (by rw [f2]; exact hxT)
   rw [f1] at this; exact this
  ·rintro j v σ hv' ⟨H2,o6,o7,rfl,c1,c2⟩
   obtain ⟨y,hy,rfl⟩:=Jz hv'
   have hyk:y∈T.keys:=by rw [a6]; exact hsu x hxk y (by rw [← a5]; exact Au hy)
   obtain ⟨f1,f2,_⟩:=LN { T with np:=upd T.np x (-2) } ((T.su x).take j)
   obtain ⟨ws,g1,g2⟩:=ND { T with np:=upd T.np x (-2) } ((T.su x).take j) (ys:=zs) a3
   have hwz:ws.length≤big:=by
    exact Ay (Ag (Ab (Kv g2 (Ab (DO ..) hLx) a4) (AS hl2 _)) hz)
   have hnext':=Hu SS.dec { T with np:=upd T.np x (-2) } (T.su x) hy
   generalize ((T.su x).take j).foldl SS.dec { T with np:=upd T.np x (-2) }=U at c1 f1 f2 g1 hnext'
   have hyU:y∈U.keys:=f2▸hyk
   dsimp only [vS0,retv]
   refine .inr (.inl ⟨_,_,.ref (b+1,y),c1.d.choose_spec,(HV b y _).trans (if_pos hyU),?_⟩)
   have c3:=c1.setN hyU (U.np y - 1)
   refine ⟨_,.int (U.np y),c1.n y hyU,rfl,rfl,_,c1.n y hyU,_,.int (U.np y - 1),Hb ..,rfl,rfl,fun ht=>?_,fun ht=>?_⟩
   ·have e0:U.np y - 1=0:=beq_iff_eq.mp ht
    refine ⟨(b,1),_,.ref (b,3),c3.i,c3.a,by unfold SS.at SS.rv; dsimp only; rw [g1]; rfl,rfl,.inl ⟨nts ws,.inr ⟨_,rfl,c3.r ws g1⟩⟩,.inl ⟨nts ws,c3.r ws g1,by rwa [Hc],?_⟩⟩
    have c4:=c3.setR (ys:=ws) g1 (ws++[y])
    rw [show nts (ws++[y])=nts ws++[.int y] from Ar] at c4
    refine ⟨_,_,_,rfl,?_,(c2.trans .up1).trans .up0⟩
    rw [hnext']
    unfold SS.dec
    rw [if_pos e0,g1]
    exact c4
   ·have e0:¬U.np y - 1=0:=fun e=>by rw [e] at ht; cases ht
    refine ⟨_,_,_,rfl,?_,c2.trans .up1⟩
    rw [hnext']
    unfold SS.dec
    rw [if_neg e0]
    exact c3
  ·rintro σ ⟨H2,o6,o7,rfl,c1,c2⟩
   rw [Hc,CO] at c1
   dsimp only [vS0,retv]
   obtain ⟨ws,g1,g2⟩:=ND { T with np:=upd T.np x (-2) } (T.su x) (ys:=zs) a3
   have hd:T.done1 x={ (T.su x).foldl SS.dec { T with np:=upd T.np x (-2) } with fin:=((T.su x).foldl SS.dec { T with np:=upd T.np x (-2) }).fin+1 }:=rfl
   rw [hnext,hd]
   generalize (T.su x).foldl SS.dec { T with np:=upd T.np x (-2) }=U at c1 d1 d2 g1
   exact ⟨(b,1),_,.int U.fin,c1.i,c1.a,rfl,rfl,(b,1),_,c1.i,c1.a,JX rfl,.inl ⟨.int U.fin,rfl,_,ws,_,_,_,_,_,rfl,c1.setA U.pas (U.fin+1),c2.trans .up0,g1,Kv g2 hLx a4,d1.trans a5,d2.trans a6⟩⟩
 ·rintro σ ⟨H',zs,o3,o4,o5,o6,o7,rfl,a1,a2,a3,a4,a5,a6⟩
  rw [Hc,CO] at a1
  exact q H' a1 a2
end
end
section
open Builtin Builtin.Str
noncomputable def noE:Expr:=.Constant .none 0 default
noncomputable def ch:Expr->Nat->Expr
 | .Call f as _ _,n=>if n=0 then f else as.getD (n - 1) noE
 | .Attribute o _ _,_=>o
 | .BinOp l _ r _,n=>if n=0 then l else r
 | .Compare l _ rs _,n=>if n=0 then l else rs.getD (n - 1) noE
 | .GeneratorExp e gs _ _,n=>match gs with
  | ⟨t,i,_,_⟩::_=>if n=0 then e else if n=1 then t else i
  | []=>noE
 | .Tuple es _ _,n=>es.getD n noE
 | _,_=>noE
noncomputable def kt:Expr->Nat
 | .Tuple _ k _=>k
 | .Constant _ k _=>k
 | _=>0
noncomputable def sc:Expr->Scope
 | .GeneratorExp _ _ s _=>s
 | _=>default
noncomputable def se:Stmt->Expr
 | .Return (some e) _=>e
 | .Expr e _=>e
 | .Assign _ e _=>e
 | .If t _ _ _=>t
 | _=>noE
noncomputable def tg:Stmt->Expr
 | .Assign ts _ _=>ts.getD 0 noE
 | _=>noE
noncomputable def noS:Stmt:=.Pass default
noncomputable def bs:Stmt->Nat->Stmt
 | .If _ b _ _,n=>b.getD n noS
 | _,_=>noS
noncomputable def st (B:Bx) (f:Addr) (n:Nat):Stmt:=(bodyOf (fdAt (KB B) f)).getD n noS
section
variable (B:Bx)
noncomputable abbrev x265:Expr:=se (st B 265 0)
theorem b265:bodyOf (fdAt (KB B) 265)=[.Return (some (.Call (.Name "sum" (ch (x265 B) 0).pos) [.GeneratorExp (.BinOp (.Call (.Name "len" (ch (ch (ch (ch (x265 B) 1) 0) 0) 0).pos) [.Name "fws" (ch (ch (ch (ch (x265 B) 1) 0) 0) 1).pos] [] (ch (ch (ch (x265 B) 1) 0) 0).pos) .Add
  (.Call (.Name "len" (ch (ch (ch (ch (x265 B) 1) 0) 1) 0).pos) [.Name "part" (ch (ch (ch (ch (x265 B) 1) 0) 1) 1).pos] [] (ch (ch (ch (x265 B) 1) 0) 1).pos) (ch (ch (x265 B) 1) 0).pos)
  [⟨.Tuple [.Name "fws" (ch (ch (ch (x265 B) 1) 1) 0).pos,.Name "part" (ch (ch (ch (x265 B) 1) 1) 1).pos] (kt (ch (ch (x265 B) 1) 1)) (ch (ch (x265 B) 1) 1).pos,.Name "self" (ch (ch (x265 B) 1) 2).pos,[],0⟩] (sc (ch (x265 B) 1)) (ch (x265 B) 1).pos,
  .Attribute (.Name "self" (ch (ch (x265 B) 2) 0).pos) "_initial_size" (ch (x265 B) 2).pos] [] (x265 B).pos)) (st B 265 0).pos]:=by kernel_rfl
noncomputable abbrev x272:Expr:=se (st B 272 0)
theorem b272:bodyOf (fdAt (KB B) 272)=[.Return (some (.Call (.Attribute (.Name "EMPTYSTRING" (ch (ch (x272 B) 0) 0).pos) "join" (ch (x272 B) 0).pos) [.GeneratorExp (.Call (.Attribute (.Name "EMPTYSTRING" (ch (ch (ch (ch (x272 B) 1) 0) 0) 0).pos) "join" (ch (ch (ch (x272 B) 1) 0) 0).pos)
  [.Tuple [.Name "fws" (ch (ch (ch (ch (x272 B) 1) 0) 1) 0).pos,.Name "part" (ch (ch (ch (ch (x272 B) 1) 0) 1) 1).pos] (kt (ch (ch (ch (x272 B) 1) 0) 1)) (ch (ch (ch (x272 B) 1) 0) 1).pos] [] (ch (ch (x272 B) 1) 0).pos)
  [⟨.Tuple [.Name "fws" (ch (ch (ch (x272 B) 1) 1) 0).pos,.Name "part" (ch (ch (ch (x272 B) 1) 1) 1).pos] (kt (ch (ch (x272 B) 1) 1)) (ch (ch (x272 B) 1) 1).pos,.Name "self" (ch (ch (x272 B) 1) 2).pos,[],0⟩] (sc (ch (x272 B) 1)) (ch (x272 B) 1).pos] [] (x272 B).pos)) (st B 272 0).pos]:=by kernel_rfl
theorem TA (gok:(gg B).Ok):Sq (gg B) 264 260 #[] where
 code:=⟨_,_,_,_,_,_,_,_,_,_,gok.X 264 _ rfl,rfl,rfl,rfl,rfl,rfl,rfl,B.t.1,rfl,trivial,by decide⟩
 tab:=⟨⟨_,_,gok.X 264 _ rfl,rfl,rfl,rfl⟩,B.t.1⟩
 ns:=by decide +kernel
 bm:=⟨4,_,gok.g,mg_of gok.X gok.g (by kernel_rfl),by decide,gok.X 4 _ rfl,rfl,rfl,rfl⟩
theorem T9 (gok:(gg B).Ok):Sq (gg B) 271 267 #[] where
 code:=⟨_,_,_,_,_,_,_,_,_,_,gok.X 271 _ rfl,rfl,rfl,rfl,rfl,rfl,rfl,B.t.2,rfl,trivial,by decide⟩
 tab:=⟨⟨_,_,gok.X 271 _ rfl,rfl,rfl,rfl⟩,B.t.2⟩
 ns:=by decide +kernel
 bm:=⟨4,_,gok.g,mg_of gok.X gok.g (by kernel_rfl),by decide,gok.X 4 _ rfl,rfl,rfl,rfl⟩
end
section
variable {B:Bx} {l d:Lb} {H:Hp} {Q:AV->Hp->Prop} {xs:List (List Nat×List Nat)}
noncomputable def lens (xs:List (List Nat×List Nat)):List Int:=xs.map fun p=>(p.1.length:Int)+p.2.length
noncomputable def txts (xs:List (List Nat×List Nat)):List (List Nat):=xs.map fun p=>p.1++p.2
theorem L8 {sc:Scope} {k:NameKind} (h:sc.names.all (fun y=>!(y.2==k))=true):∀ y∈sc.names,y.2≠k:=fun y hy e=>by
 have:=AX.mp h y hy
 rw [e] at this
 cases k<;>cases this
theorem Mc {α:Type} (l:List α) (d:α):(A5 l.length).map (fun i=>l.getD i d)=l:=by
 apply List.ext_getElem
 ·simp
 ·intro i h1 h2; simp [Af,h2]
noncomputable abbrev selfN:List (Str×Bool):=[(A8 "self",false)]
theorem P9 {k:Nat} (hl:H l=some (.acc CA (prs xs) d)) (hd:H d=some (.attrs [(At.isize.nm,.int 0)])) (hz:∀ p∈xs,p.1.length≤2 ^ 30∧p.2.length≤2 ^ 30) (q:Q (.int (lens xs).sum) H):WC (gg B) (k+2) (.ref 265) [.ref l] H Q:=by
 obtain ⟨oc,od,osl,h1,h2,h3,h4,h5,h6⟩:=H8 (K:=KB B) (f:=265) (by kernel_rfl)
 rw [b265] at h4
 refine WC.def (ns:=selfN) (ab:=[(_,_)]) h1 h2 h3 h4 (by kernel_rfl) h5 h6 (by kernel_rfl) (WBind.of1 (by intro v1; kernel_rfl)) rfl fun A fe L=>?_
 refine WS.cons (W1.ret (WE.sumGen (n:=xs.length) (val:=fun i=>(lens xs).getD i 0) (fun η s R Q' q'=>Qo rfl (i:=0) (b:=false) rfl rfl hl (by kernel_rfl) (by kernel_rfl) (show (fdAt (KB B) 265).code=.ref 264 by kernel_rfl) (TA B R.gok) (by kernel_rfl) (L8 (by kernel_rfl)) (L8 (by kernel_rfl)) (by kernel_rfl) (by kernel_rfl) (by kernel_rfl) (by decide +kernel) (by kernel_rfl) (fun v=>rfl)
   (F:=fun p v=>∃ t,v=.int ((p.1.length:Int)+p.2.length) t) (fun A' E' t m₂ Cn code p ta tb hp hA bk hns ha hb=>?_) R Q' q')
   (fun i v ⟨p,hp,t,e⟩=>⟨t,by rw [e]; congr 1; unfold lens; rw [Af,Ai,hp]; rfl⟩) (i:=0) (b:=false) (k:=0) rfl rfl hl hd rfl (IA B) (Oi B) (by kernel_rfl) (by kernel_rfl) rfl rfl rfl rfl ?_))
 ·obtain ⟨z1,z2⟩:=hz p hp
  refine wpAny_BinOp (PY R.gok bk (by kernel_rfl) rfl (by kernel_rfl) (by kernel_rfl) (by kernel_rfl) (by kernel_rfl) hns ha (by decide +kernel) z1 rfl rfl rfl fun t1 k1=>PY (t:={ t with toks:=k1 }) R.gok bk (by kernel_rfl) rfl (by kernel_rfl) (by kernel_rfl) (by kernel_rfl) (by kernel_rfl) hns hb (by decide +kernel) z2 rfl rfl rfl fun t2 k2=>P.add_int ⟨⟨_,rfl⟩,?_⟩)
  exact ⟨_,_,rfl,fun _ _ e=>e⟩
 ·show Q (.int (preSum (fun i=>(lens xs).getD i 0) xs.length)) H
  rw [preSum_getD,AR (by unfold lens; simp)]
  exact q
theorem P7 {k:Nat} (hl:H l=some (.acc CA (prs xs) d)) (hz:∀ p∈xs,p.1.length+p.2.length≤2 ^ 20) (hz2:((txts xs).map AH).sum≤2 ^ 20) (hn:xs.length≤2 ^ 20) (q:Q (.str (S (txts xs).flatten)) H):WC (gg B) (k+2) (.ref 272) [.ref l] H Q:=by
 obtain ⟨oc,od,osl,h1,h2,h3,h4,h5,h6⟩:=H8 (K:=KB B) (f:=272) (by kernel_rfl)
 rw [b272] at h4
 obtain ⟨tx,hx⟩:=Qr B
 have e:(A5 xs.length).map (fun i=>(txts xs).getD i [])=txts xs:=by
  have:=Mc (txts xs) []
  rwa [show (txts xs).length=xs.length from Ae ..] at this
 refine WC.def (ns:=selfN) (ab:=[(_,_)]) h1 h2 h3 h4 (by kernel_rfl) h5 h6 (by kernel_rfl) (WBind.of1 (by intro v1; kernel_rfl)) rfl fun A fe L=>?_
 refine WS.cons (W1.ret (WE.joinGen (n:=xs.length) (txt:=fun i=>(txts xs).getD i []) (fun η s R Q' q'=>Qo rfl (i:=0) (b:=false) rfl rfl hl (by kernel_rfl) (by kernel_rfl) (show (fdAt (KB B) 272).code=.ref 271 by kernel_rfl) (T9 B R.gok) (by kernel_rfl) (L8 (by kernel_rfl)) (L8 (by kernel_rfl)) (by kernel_rfl) (by kernel_rfl) (by kernel_rfl) (by decide +kernel) (by kernel_rfl) (fun v=>rfl)
   (F:=fun p v=>∃ t,v=.str (S (p.1++p.2)) t) (fun A' E' t m₂ Cn code p ta tb hp hA bk hns ha hb=>?_) R Q' q')
   (fun i v ⟨p,hp,t,e⟩=>⟨t,by rw [e]; congr 1; unfold txts; rw [Af,Ai,hp]; rfl⟩) hx (by kernel_rfl) (by decide +kernel) (by rw [e]; exact hz2) hn rfl (by kernel_rfl) rfl rfl rfl ?_))
 ·exact QR R.gok bk (by kernel_rfl) (by kernel_rfl) hx (by kernel_rfl) (by decide +kernel) (by kernel_rfl) (by kernel_rfl) hns ha hb (by decide +kernel) (by decide +kernel) (hz p hp) rfl (by kernel_rfl) rfl rfl rfl fun t' h' tk hk=>⟨⟨_,rfl⟩,_,_,rfl,hk⟩
 ·rw [e]; exact q
end
end
section
open Builtin Builtin.Str
section
variable (B:Bx)
theorem Oj:∃ cd,clsIn (KB B) CA=some cd∧cd.mro=[.ref CA,.type "list",.type "object"]:=mroOf (by kernel_rfl)
theorem Sy:Ud (gg B) CA CA "__len__" "list.__len__" "wrapper_descriptor" "method-wrapper" "wrapper_descriptor.__get__" where
 cls:=let ⟨cd,h1,h2⟩:=Oj B; ⟨cd,h1,by rw [h2]; kernel_rfl⟩
 ty:=Lm
 get:=Hk.lookup
 sub:=by kernel_rfl
 li:=by kernel_rfl
 ne:=by decide +kernel
 bo:=by decide
 bnd:=fun A h g d t os x R hi q=>RF hi q
 chk:=fun h x vs n dx _ _=>.of_pure (Sa x)
 quiet:=fun as=>CT _ (by decide +kernel)
theorem Q3:Ud (gg B) CA CA "__init__" "list.__init__" "wrapper_descriptor" "method-wrapper" "wrapper_descriptor.__get__" where
 cls:=let ⟨cd,h1,h2⟩:=Oj B; ⟨cd,h1,by rw [h2]; kernel_rfl⟩
 ty:=Kf
 get:=Hk.lookup
 sub:=by kernel_rfl
 li:=by kernel_rfl
 ne:=by decide +kernel
 bo:=by decide
 bnd:=fun A h g d t os x R hi q=>Pk hi q
 chk:=fun h x vs n dx _ _=>.of_pure (Py x)
 quiet:=fun as=>CT _ (by decide +kernel)
theorem RT:∃ cd,clsIn (KB B) CA=some cd∧cd.qualname=A8 "_Accumulator" :=by
 have:(clsIn (KB B) CA).map (·.qualname)=some (A8 "_Accumulator"):=by kernel_rfl
 obtain ⟨cd,h1,h2⟩:=Ao.mp this
 exact ⟨cd,h1,h2⟩
theorem Sx:Ud (gg B) CA CA "pop" "list.pop" "method_descriptor" "builtin_function_or_method" "method_descriptor.__get__" where
 cls:=let ⟨cd,h1,h2⟩:=Oj B; ⟨cd,h1,by rw [h2]; kernel_rfl⟩
 ty:=Ll
 get:=Ia.lookup
 sub:=by kernel_rfl
 li:=by kernel_rfl
 ne:=by decide +kernel
 bo:=by decide
 bnd:=fun A h g d t os x R hi q=>RE hi q
 chk:=fun h x vs n dx X hx=>let ⟨cd,h1,h2⟩:=RT B; RZ X hx (by kernel_rfl) (by kernel_rfl) h1 h2
 quiet:=fun as=>CT _ (by decide +kernel)
theorem Sz (A:Around) (fe:List Env) (L:Addr) (k:Nat):K7 (gg B) (fcs (fdAt (KB B) 295) 295 selfN A fe L k) 0 CA:=by
 obtain ⟨oc,od,osl,h1,_⟩:=H8 (K:=KB B) (f:=295) (by kernel_rfl)
 exact ⟨295,_,oc,od,osl,_,_,_,_,_,_,_,_,_,_,_,_,_,_,_,_,rfl,h1,rfl,rfl,rfl,rfl,by kernel_rfl,rfl,rfl,rfl,rfl,by kernel_rfl,by kernel_rfl,by kernel_rfl,by kernel_rfl,by kernel_rfl⟩
theorem S4 (A:Around) (fe:List Env) (L:Addr) (k:Nat):K7 (gg B) (fcs (fdAt (KB B) 258) 258 selfN A fe L k) 0 CA:=by
 obtain ⟨oc,od,osl,h1,_⟩:=H8 (K:=KB B) (f:=258) (by kernel_rfl)
 exact ⟨258,_,oc,od,osl,_,_,_,_,_,_,_,_,_,_,_,_,_,_,_,_,rfl,h1,rfl,rfl,rfl,rfl,by kernel_rfl,rfl,rfl,rfl,rfl,by kernel_rfl,by kernel_rfl,by kernel_rfl,by kernel_rfl,by kernel_rfl⟩
noncomputable abbrev initN:List (Str×Bool):=[(A8 "self",false),(A8 "initial_size",false)]
theorem S5 (A:Around) (fe:List Env) (L:Addr) (k:Nat):K7 (gg B) (fcs (fdAt (KB B) 235) 235 initN A fe L k) 0 CA:=by
 obtain ⟨oc,od,osl,h1,_⟩:=H8 (K:=KB B) (f:=235) (by kernel_rfl)
 exact ⟨235,_,oc,od,osl,_,_,_,_,_,_,_,_,_,_,_,_,_,_,_,_,rfl,h1,rfl,rfl,rfl,rfl,by kernel_rfl,rfl,rfl,rfl,rfl,by kernel_rfl,by kernel_rfl,by kernel_rfl,by kernel_rfl,by kernel_rfl⟩
noncomputable abbrev supE (e:Expr) (name:Str):Expr:=.Call (.Attribute (.Call (.Name "super" (ch (ch (ch e 0) 0) 0).pos) [] [] (ch (ch e 0) 0).pos) name (ch e 0).pos) [] [] e.pos
theorem b295:bodyOf (fdAt (KB B) 295)=[.Return (some (supE (se (st B 295 0)) "__len__")) (st B 295 0).pos]:=by kernel_rfl
theorem b235:bodyOf (fdAt (KB B) 235)=[.Assign [.Attribute (.Name "self" (ch (tg (st B 235 0)) 0).pos) "_initial_size" (tg (st B 235 0)).pos] (.Name "initial_size" (se (st B 235 0)).pos) (st B 235 0).pos,.Expr (supE (se (st B 235 1)) "__init__") (st B 235 1).pos]:=by kernel_rfl
noncomputable abbrev i258:Stmt:=st B 258 0
theorem b258:bodyOf (fdAt (KB B) 258)=[.If (.Compare (.Call (.Attribute (.Name "self" (ch (ch (ch (se (i258 B)) 0) 0) 0).pos) "part_count" (ch (ch (se (i258 B)) 0) 0).pos) [] [] (ch (se (i258 B)) 0).pos) [.Eq] [.Constant (.int 0) (kt (ch (se (i258 B)) 1)) (ch (se (i258 B)) 1).pos] (se (i258 B)).pos)
  [.Return (some (.Tuple [.Constant (.str "") (kt (ch (se (bs (i258 B) 0)) 0)) (ch (se (bs (i258 B) 0)) 0).pos,.Constant (.str "") (kt (ch (se (bs (i258 B) 0)) 1)) (ch (se (bs (i258 B) 0)) 1).pos] (kt (se (bs (i258 B) 0))) (se (bs (i258 B) 0)).pos)) (bs (i258 B) 0).pos] [] (i258 B).pos,
  .Return (some (supE (se (st B 258 1)) "pop")) (st B 258 1).pos]:=by kernel_rfl
end
section
variable {B:Bx} {l d:Lb} {H:Hp} {Q:AV->Hp->Prop} {xs:List AV} {k:Nat}
theorem IX (hl:H l=some (.acc CA xs d)) (q:Q (.int xs.length) H):WC (gg B) (k+2) (.ref 295) [.ref l] H Q:=by
 obtain ⟨oc,od,osl,h1,h2,h3,h4,h5,h6⟩:=H8 (K:=KB B) (f:=295) (by kernel_rfl)
 rw [b295] at h4
 refine WC.defS (ns:=selfN) (ab:=[(_,_)]) h1 h2 h3 h4 h5 h6 (by kernel_rfl) (WBind.of1 (by intro v1; kernel_rfl)) rfl fun A fe L=>?_
 exact WSat.ret (WEat.super (Sz B A fe L k) (Sy B) rfl hl (pure false) (by kernel_rfl) (Sg hl q))
theorem Om (hl:H l=some (.acc CA [] d)) (hd:H d=some (.attrs [])) {v:AV} (q:Q .none (up H d (.attrs [(At.isize.nm,v)]))):WC (gg B) (k+2) (.ref 235) [.ref l,v] H Q:=by
 obtain ⟨oc,od,osl,h1,h2,h3,h4,h5,h6⟩:=H8 (K:=KB B) (f:=235) (by kernel_rfl)
 rw [b235] at h4
 have ne:l≠d:=fun e=>by rw [e,hd] at hl; cases hl
 refine WC.defS (ns:=initN) (ab:=[(_,_),(_,_)]) h1 h2 h3 h4 h5 h6 (by kernel_rfl) (WBind.p2 (by intro v1 v2 S; kernel_rfl)) rfl fun A fe L=>?_
 refine WSat.cons (W1.asg (WE.name (i:=1) rfl rfl (WG.attr (WE.name (i:=0) rfl rfl (WSA.accNew hl hd (by simp) (IA B) (Oi B) (JX rfl) ?_)))) rfl rfl rfl)
 have hl':up H d (.attrs [(At.isize.nm,v)]) l=some (.acc CA [] d):=(Ha _ _ ne).trans hl
 exact WSat.expr (WEat.super (S5 B A fe L k) (Q3 B) rfl hl' (pure false) (by kernel_rfl) (P1 hl' (WSat.of (WS.nil q)))) rfl
theorem LW (hl:H l=some (.acc CA xs d)) (hd:H d=some (.attrs [(At.isize.nm,.int 0)])) (hz:xs.length≤2 ^ 20) (q0:xs=[]->Q (.tup [.str (S []),.str (S [])]) H) (q:∀ x,xs[xs.length - 1]?=some x->Q x (up H l (.acc CA xs.dropLast d))):WC (gg B) (k+4) (.ref 258) [.ref l] H Q:=by
 obtain ⟨oc,od,osl,h1,h2,h3,h4,h5,h6⟩:=H8 (K:=KB B) (f:=258) (by kernel_rfl)
 rw [b258] at h4
 refine WC.defS (k:=k+2) (ns:=selfN) (ab:=[(_,_)]) h1 h2 h3 h4 h5 h6 (by kernel_rfl) (WBind.of1 (by intro v1; kernel_rfl)) rfl fun A fe L=>?_
 have hum:umP .pc (.ref l) ⟨loc0 [(A8 "self",AV.ref l)] selfN,H⟩:=⟨l,xs,d,_,rfl,hl,hd,by show Um.pc.nm∉[At.isize.nm]; decide +kernel⟩
 refine WSat.cons (W1.ite (WT.cmp (WE.meth (WE.name (i:=0) rfl rfl ⟨_,_,umM (u:=.pc) hum,.glob (umK B .pc).2.2,WEs.nil (WV.of (k:=k+2) (Ak _) rfl (IX hl (WE.int (WB.eq ⟨_,rfl,fun ht=>?_,fun ht=>?_⟩))))⟩) rfl (by kernel_rfl) (by decide) rfl rfl) rfl))
 ·have e:xs=[]:=DL (Int.ofNat_eq_zero.mp (beq_iff_eq.mp ht))
  exact WS.cons (W1.ret (WE.tuple (WEs.cons (WE.str (WEs.cons (WE.str (WEs.nil ⟨by simp,q0 e⟩)) rfl)) rfl)))
 ·have e:xs≠[]:=fun e=>by rw [e] at ht; cases ht
  have hp:0<xs.length:=CF.mpr e
  refine WS.nil (WSat.ret (WEat.super (S4 B A fe L (k+2)) (Sx B) rfl hl (pure false) (by kernel_rfl) (Sf (x:=xs[xs.length - 1]) hl (Ac (Br hp)) hz (q _ (Ac (Br hp))))))
end
end
section
open Builtin Builtin.Str
theorem HZ (l:List Nat):cp (S l)=l:=rfl
noncomputable abbrev Ch:=List Nat×List Nat
noncomputable abbrev acO (xs:List Ch) (d:Lb):AO:=.acc CA (prs xs) d
theorem Hd (xs:List Ch):(prs xs).length=xs.length:=Ae ..
theorem Le (i n:Nat) (h:i≤n):sliceBounds (some (i:Int)) none none n=((i:Int),(n:Int),1):=by
 simp only [sliceBounds,BO]
 simp only [show (1:Int)>0 by decide,if_true]
 congr 1
 exact Ky h
theorem Mr (n:Nat):sliceBounds none none none n=(((0:Nat):Int),(n:Int),1):=by
 simp only [sliceBounds,BO]
 simp only [show (1:Int)>0 by decide,if_true]
 congr 1
section
variable {B:Bx} {l d:Lb} {H:Hp} {Q:AV->Hp->Prop} {xs:List Ch}
theorem P8 {u:Um} (hu:u.cls=none):u.nm∉[At.isize.nm]:=by
 cases u<;>first | (cases hu; done) | decide +kernel
theorem acUm {u:Um} (hl:H l=some (acO xs d)) (hd:H d=some (.attrs [(At.isize.nm,.int 0)])) (hu:u.cls=none) {loc:List (Option AV)}:umP u (.ref l) ⟨loc,H⟩:=by
 unfold umP; rw [hu]
 exact ⟨l,_,d,_,rfl,hl,hd,P8 hu⟩
theorem MJ {a b:List Nat} (hl:H l=some (acO xs d)) (hd:H d=some (.attrs [(At.isize.nm,.int 0)])) (hz:xs.length≤big) (q:Q .none (up H l (acO (xs++[(a,b)]) d))):WC (gg B) 2 (.ref 242) [.ref l,.str (S a),.str (S b)] H Q:=by
 refine (TU B).wc (ab:=[(_,_),(_,_),(_,_)]) (WBind.of3 (by intro v1 v2 v3; kernel_rfl)) rfl ?_
 dsimp only [vS1,vS5,vE,vL,sqE]
 refine ⟨.inr ⟨l,_,d,_,rfl,hl,hd,by show Mt.lappend.nm∉[At.isize.nm]; decide +kernel⟩,rfl,.inr ⟨prs xs,d,hl,by rwa [Hd],?_⟩⟩
 rw [show prs xs++[AV.tup [.str (S a),.str (S b)]]=prs (xs++[(a,b)]) from by unfold prs; rw [Ar]; rfl]
 exact q
theorem Te {i:Nat} (hl:H l=some (acO xs d)) (hz:xs.length≤big) (hi:i≤xs.length) (q:Q (.lst (prs (xs.drop i))) (up H l (acO (xs.take i) d))):WC (gg B) 2 (.ref 250) [.ref l,.int i] H Q:=by
 refine (Ux B).wc (ab:=[(_,_),(_,_)]) (WBind.p2 (by intro v1 v2 S; kernel_rfl)) rfl ?_
 dsimp only [retv]
 refine ⟨nofun,.inr ⟨prs xs,d,hl,by rwa [Hd],.inl ⟨rfl,.inl ⟨prs xs,[],d,i,xs.length,rfl,hl,.inl rfl,by rw [Hd,Dy]; assumption,hi,by rw [Hd]; exact Ak _,by rw [Hd]; exact Le i _ hi,?_⟩⟩⟩⟩
 rw [Iw,show (prs xs).drop i=prs (xs.drop i) from Dd.symm,show (prs xs).take i++[]++(prs xs).drop xs.length=prs (xs.take i) from by rw [← Hd xs,E5,AL,AL]; exact Ci.symm]
 exact q
theorem Jw {ys:List Ch} {v:AV} {o:Option AV} (hl:H l=some (acO xs d)) (hd:H d=some (.attrs [(At.isize.nm,.int 0)])) (hv:isL ⟨[some (.ref l),some v],H⟩ v (prs ys)) (hz:xs.length+ys.length≤big) (q:Q .none (up H l (acO ys d))) :
  putP (.ref l) (.slc none none none) v ⟨[some (.ref l),some v],H⟩ fun σ=>setP .isize (.ref l) (.int 0) σ fun σ2=>Q .none σ2.H:=by
 have ne:d≠l:=fun e=>by rw [e,hl] at hd; cases hd
 refine ⟨prs xs,prs ys,d,0,xs.length,rfl,hl,hv,by rw [Hd,Hd]; exact hz,A4 _,by rw [Hd]; exact Ak _,by rw [Hd]; exact Mr _,?_⟩
 rw [show (prs xs).take 0++prs ys++(prs xs).drop xs.length=prs ys from by rw [← Hd xs,E5,AL]; rfl]
 refine ⟨_,d,_,Hb ..,(Ha _ _ ne).trans hd,JX rfl,.inl ⟨.int 0,rfl,?_⟩⟩
 have e:up (up H l (acO ys d)) d (.attrs [(At.isize.nm,.int 0)])=up H l (acO ys d):=Ou ((Ha _ _ ne).trans hd)
 exact e.symm▸q
theorem OB (hl:H l=some (acO xs d)) (hd:H d=some (.attrs [(At.isize.nm,.int 0)])) (hz:xs.length≤big) (q:Q .none (up H l (acO [] d))):WC (gg B) 2 (.ref 280) [.ref l] H Q:=by
 refine (PX B).wc (ab:=[(_,_),(_,_)]) (WBind.d1 (by intro v1 S; kernel_rfl)) rfl ?_
 dsimp only [vS1,vS2,vS7,vG]
 exact ⟨fun _=>⟨rfl,.inl (Jw (o:=none) (v:=.lst []) (ys:=[]) hl hd (.inl rfl) hz q)⟩,nofun⟩
theorem OA {ys:List Ch} (hl:H l=some (acO xs d)) (hd:H d=some (.attrs [(At.isize.nm,.int 0)])) (hz:xs.length+ys.length≤big) (q:Q .none (up H l (acO ys d))):WC (gg B) 2 (.ref 280) [.ref l,.lst (prs ys)] H Q:=by
 refine (PX B).wc (ab:=[(_,_),(_,_)]) (WBind.p2 (by intro v1 v2 S; kernel_rfl)) rfl ?_
 dsimp only [retv]
 exact ⟨nofun,fun _=>Jw (o:=none) hl hd (.inl rfl) hz q⟩
structure Fit (xs:List Ch):Prop where
 p:∀ x∈xs,x.1.length+x.2.length≤2 ^ 20
 s:((txts xs).map AH).sum≤2 ^ 20
 n:xs.length≤2 ^ 20
theorem Ov (xs:List Ch):((txts xs).map AH).map (fun (n:Nat)=>(n:Int))=lens xs:=by
 unfold txts lens; rw [AU,AU]; congr 1; funext x; simp
theorem HX (xs:List Ch):(lens xs).sum=(((txts xs).map AH).sum:Nat):=by
 rw [← Ov]
 generalize (txts xs).map AH=l
 induction l with
 | nil=>rfl
 | cons a l ih=>rw [AM,Gh,Gh,ih]; simp
theorem Fit.len (F:Fit xs) {k:Nat} (hl:H l=some (acO xs d)) (hd:H d=some (.attrs [(At.isize.nm,.int 0)])) {Q:Int->Prop} (q:Q (lens xs).sum):WC (gg B) (k+2) (.ref accLenF) [.ref l] H fun v H'=>∃ n:Int,An4 (v=.int n) (0≤n) (n<2 ^ 60) ((H'=H∧Q n)) :=
 P9 hl hd (fun p hp=>by have:=F.p p hp; lia) ⟨_,rfl,by rw [HX]; exact A7 _,by rw [HX]; have:=F.s; lia,rfl,q⟩
theorem Fit.str (F:Fit xs) {k:Nat} (hl:H l=some (acO xs d)):WC (gg B) (k+2) (.ref accStrF) [.ref l] H fun v H'=>v=.str (S (txts xs).flatten)∧H'=H :=
 P7 hl F.p F.s F.n ⟨rfl,rfl⟩
theorem WC.mono {G:Gb} {k:Nat} {f:Value} {args:List AV} {H:Hp} {Q Q':AV->Hp->Prop} (h:WC G k f args H Q) (m:∀ v H',Q v H'->Q' v H'):WC G k f args H Q':=fun c hk hh η s σ args' R hH ha =>
 Cu (h c hk hh η s σ args' R hH ha) fun r s' z=>by
  rcases r with e | (v | _ | _ | _)<;>first | exact z | skip
  obtain ⟨v',σ1,η1,⟨e1,q1⟩,r,r1,r2⟩:=z
  exact ⟨v',σ1,η1,⟨e1,m _ _ q1⟩,r,r1,r2⟩
theorem T2 (F:Fit xs) {k:Nat} {σ:St} (hl:σ.H l=some (acO xs d)) (hd:σ.H d=some (.attrs [(At.isize.nm,.int 0)])) {Q:PA} (q:Q (.int (lens xs).sum) σ):callP B (k+4) .len [.ref l] σ Q :=
 .inr ⟨prs xs,d,k+2,hl,Ak _,(F.len hl hd (Q:=fun n=>Q (.int n) σ) q).mono fun v H' ⟨n,a,b,c,e,q⟩=>⟨n,a,b,c,by rw [e]; exact q⟩⟩
theorem Un (F:Fit xs) {k:Nat} {σ:St} (hl:σ.H l=some (acO xs d)) (hd:σ.H d=some (.attrs [(At.isize.nm,.int 0)])) {Q:PB} (q:Q ((lens xs).sum !=0) σ):truP B (k+4) (.ref l) σ Q :=
 .inr ⟨prs xs,d,k+2,hl,Ak _,(F.len hl hd (Q:=fun n=>Q (n !=0) σ) q).mono fun v H' ⟨n,a,b,c,e,q⟩=>⟨n,a,b,c,by rw [e]; exact q⟩⟩
theorem Q4 (F:Fit xs) {k:Nat} {σ:St} (hl:σ.H l=some (acO xs d)) {Q:PA} (q:Q (.str (S (txts xs).flatten)) σ):callP B (k+4) .str [.ref l] σ Q :=
 ⟨prs xs,d,k+2,hl,Ak _,(F.str hl).mono fun v H' ⟨a,b⟩=>⟨_,a,by rw [b]; exact q⟩⟩
theorem Uy (F:Fit xs) (hl:H l=some (acO xs d)) (hd:H d=some (.attrs [(At.isize.nm,.int 0)])) (hne:(lens xs).sum≠0) (q:Q (.bool (C5 (S (txts xs).flatten))) H):WC (gg B) 6 (.ref 287) [.ref l] H Q:=by
 refine (owsF B).wc (ab:=[(_,_)]) (WBind.of1 (by intro v1; kernel_rfl)) rfl ?_
 dsimp only [vS1,vS6,vE,vL,sqR]
 refine ⟨_,d,_,.int 0,hl,hd,rfl,rfl,nofun,fun _=>?_⟩
 refine Un (k:=0) F hl hd ?_
 rw [show ((lens xs).sum !=0)=true from by simpa using hne]
 exact ⟨nofun,fun _=>Q4 (k:=0) F hl ⟨trivial,q⟩⟩
end
end
section
open Builtin Builtin.Str
theorem WBind.of5 {G:Gb} {fd:FuncData} {x1 x2 x3 x4 x5:Str} {a1 a2 a3 a4 a5:AV} (h:∀ v1 v2 v3 v4 v5,bindArgs fd ⟨[v1,v2,v3,v4,v5],[]⟩=pure [(x1,v1),(x2,v2),(x3,v3),(x4,v4),(x5,v5)]):WBind G fd [a1,a2,a3,a4,a5] [(x1,a1),(x2,a2),(x3,a3),(x4,a4),(x5,a5)]:=fun c η σ s args' A E Q R hv k=>by
 obtain ⟨v1,r,rfl,h1,hr⟩:=hv.consE
 obtain ⟨v2,r,rfl,h2,hr2⟩:=hr.consE
 obtain ⟨v3,v4,v5,rfl,h3,h4,h5⟩:=hr2.E3
 rw [h]; exact Ad (k _ η s.heap s.toks R (.refl ..) (.cons h1 (.cons h2 (.cons h3 (.cons h4 (.cons h5 .nil))))))
noncomputable def vfA (v:Nat) (mx:Int) (sp:List Nat):List (Str×AV):=[(At.maxlen.nm,.int mx),(At.cws.nm,.str (S [32])),(At.cwslen.nm,.int 1),(At.splits.nm,.str (S sp)),(At.lines.nm,.ref (v,2)),(At.cur.nm,.ref (v,3))]
structure Vf (v:Nat) (mx:Int) (sp:List Nat) (ls:List (List Nat)) (xs:List Ch) (H:Hp):Prop where
 i:H (v,0)=some (.inst 214 (v,1))
 a:H (v,1)=some (.attrs (vfA v mx sp))
 l:H (v,2)=some (.list (sts ls))
 c:H (v,3)=some (acO xs (v,4))
 d:H (v,4)=some (.attrs [(At.isize.nm,.int 0)])
noncomputable def Only (v:Nat) (H H':Hp):Prop:=∀ l:Lb,l.1≠v->H' l=H l
theorem Only.refl (v:Nat) (H:Hp):Only v H H:=fun _ _=>rfl
theorem Only.up {v:Nat} {H H':Hp} (h:Only v H H') {x:Int} {o:AO}:Only v H (up H' (v,x) o):=fun l hl=>(Ha _ _ fun e=>hl (by rw [e])).trans (h l hl)
section
variable {v:Nat} {mx:Int} {sp:List Nat} {ls:List (List Nat)} {xs:List Ch} {H:Hp}
theorem Vf.setC (h:Vf v mx sp ls xs H) (ys:List Ch):Vf v mx sp ls ys (up H (v,3) (acO ys (v,4))) :=
 ⟨(Ha _ _ (nn (by decide))).trans h.i,(Ha _ _ (nn (by decide))).trans h.a,(Ha _ _ (nn (by decide))).trans h.l,Hb ..,(Ha _ _ (nn (by decide))).trans h.d⟩
theorem Vf.setL (h:Vf v mx sp ls xs H) (ms:List (List Nat)):Vf v mx sp ms xs (up H (v,2) (.list (sts ms))) :=
 ⟨(Ha _ _ (nn (by decide))).trans h.i,(Ha _ _ (nn (by decide))).trans h.a,Hb ..,(Ha _ _ (nn (by decide))).trans h.c,(Ha _ _ (nn (by decide))).trans h.d⟩
variable {loc:List (Option AV)} {Q:PA}
theorem Vf.cur (h:Vf v mx sp ls xs H) (q:Q (.ref (v,3)) ⟨loc,H⟩):atP .cur (.ref (v,0)) ⟨loc,H⟩ Q:=⟨(v,1),_,_,h.i,h.a,rfl,rfl,q⟩
theorem Vf.lin (h:Vf v mx sp ls xs H) (q:Q (.ref (v,2)) ⟨loc,H⟩):atP .lines (.ref (v,0)) ⟨loc,H⟩ Q:=⟨(v,1),_,_,h.i,h.a,rfl,rfl,q⟩
theorem Vf.max (h:Vf v mx sp ls xs H) (q:Q (.int mx) ⟨loc,H⟩):atP .maxlen (.ref (v,0)) ⟨loc,H⟩ Q:=⟨(v,1),_,_,h.i,h.a,rfl,rfl,q⟩
theorem Vf.spl (h:Vf v mx sp ls xs H) (q:Q (.str (S sp)) ⟨loc,H⟩):atP .splits (.ref (v,0)) ⟨loc,H⟩ Q:=⟨(v,1),_,_,h.i,h.a,rfl,rfl,q⟩
theorem Vf.um (h:Vf v mx sp ls xs H) {u:Um} (hu:u.cls=none):umP u (.ref (v,3)) ⟨loc,H⟩:=acUm h.c h.d hu
end
section
variable {B:Bx} {v:Nat} {mx:Int} {sp:List Nat} {H:Hp} {Q:AV->Hp->Prop}
theorem Os (hi:H (v,0)=some (.inst 214 (v,1))) (ha:H (v,1)=some (.attrs [])) (h2:H (v,2)=none) (h3:H (v,3)=none) (h4:H (v,4)=none) (q:∀ H',Vf v mx sp [] [] H'->Only v H H'->Q .none H'):WC (gg B) 5 (.ref 155) [.ref (v,0),.int 0,.int mx,.str (S [32]),.str (S sp)] H Q:=by
 refine (Qv B).wc (ab:=[(_,_),(_,_),(_,_),(_,_),(_,_)]) (WBind.of5 (by intro v1 v2 v3 v4 v5; kernel_rfl)) rfl ?_
 dsimp only [retv]
 have n01:((v,0):Lb)≠(v,1):=nn (by decide)
 have n21:((v,2):Lb)≠(v,1):=nn (by decide)
 have n31:((v,3):Lb)≠(v,1):=nn (by decide)
 have n41:((v,4):Lb)≠(v,1):=nn (by decide)
 refine ⟨(v,1),[],hi,ha,JX rfl,.inr ⟨by decide +kernel,?_⟩⟩
 refine ⟨(v,1),_,(Ha _ _ n01).trans hi,Hb ..,JX rfl,.inr ⟨by show At.cws.nm∉[At.maxlen.nm]; decide +kernel,?_⟩⟩
 refine ⟨JX rfl,(v,1),_,(Ha _ _ n01).trans ((Ha _ _ n01).trans hi),Hb ..,JX rfl,.inr ⟨by show At.cwslen.nm∉[At.maxlen.nm,At.cws.nm]; decide +kernel,?_⟩⟩
 rw [HC,HC]
 refine ⟨(v,1),_,(Ha _ _ n01).trans hi,Hb ..,JX rfl,.inr ⟨by show At.splits.nm∉[At.maxlen.nm,At.cws.nm,At.cwslen.nm]; decide +kernel,?_⟩⟩
 rw [HC]
 refine ⟨rfl,.inr ⟨(v,2),(Ha _ _ n21).trans h2,(v,1),_,(Ha _ _ (nn (by decide))).trans ((Ha _ _ n01).trans hi),(Ha _ _ n21.symm).trans (Hb ..),JX rfl,.inr ⟨by show At.lines.nm∉[At.maxlen.nm,At.cws.nm,At.cwslen.nm,At.splits.nm]; decide +kernel,?_⟩⟩⟩
 refine ⟨(v,3),(v,4),2,(Ha _ _ n31).trans ((Ha _ _ (nn (by decide))).trans ((Ha _ _ n31).trans h3)),(Ha _ _ n41).trans ((Ha _ _ (nn (by decide))).trans ((Ha _ _ n41).trans h4)),nn (by decide),Ak _,?_⟩
 refine Om (k:=0) (Hb ..) ((Ha _ _ (nn (by decide))).trans (Hb ..)) ⟨rfl,?_⟩
 refine ⟨(v,1),_,(Ha _ _ (nn (by decide))).trans ((Ha _ _ (nn (by decide))).trans ((Ha _ _ (nn (by decide))).trans ((Ha _ _ n01).trans ((Ha _ _ (nn (by decide))).trans ((Ha _ _ n01).trans hi))))),(Ha _ _ (nn (by decide))).trans ((Ha _ _ (nn (by decide))).trans ((Ha _ _ (nn (by decide))).trans (Hb ..))),JX rfl,.inr ⟨by show At.cur.nm∉[At.maxlen.nm,At.cws.nm,At.cwslen.nm,At.splits.nm,At.lines.nm]; decide +kernel,?_⟩⟩
 refine q _ ⟨?_,Hb ..,?_,?_,?_⟩ (Only.up (Only.up (Only.up (Only.up (Only.up (Only.up (Only.up (Only.refl v H))))))))
 ·exact (Ha _ _ n01).trans ((Ha _ _ (nn (by decide))).trans ((Ha _ _ (nn (by decide))).trans ((Ha _ _ (nn (by decide))).trans ((Ha _ _ n01).trans ((Ha _ _ (nn (by decide))).trans ((Ha _ _ n01).trans hi))))))
 ·exact (Ha _ _ n21).trans ((Ha _ _ (nn (by decide))).trans ((Ha _ _ (nn (by decide))).trans ((Ha _ _ (nn (by decide))).trans ((Ha _ _ n21).trans (Hb ..)))))
 ·exact (Ha _ _ n31).trans ((Ha _ _ (nn (by decide))).trans (Hb ..))
 ·exact (Ha _ _ n41).trans (Hb ..)
end
section
variable {B:Bx} {v:Nat} {mx:Int} {sp:List Nat} {ls:List (List Nat)} {ys:List Ch} {a b:List Nat} {H:Hp} {Q:AV->Hp->Prop}
theorem Lz {Q:AV->Prop} {xs ys:List Ch} {p:Ch} (e:xs=ys++[p]) {x:AV} (hx:(prs xs)[(prs xs).length - 1]?=some x):x=.tup [.str (S p.1),.str (S p.2)]:=by
 subst e
 unfold prs at hx
 rw [Ar,A6] at hx
 simp at hx
 exact hx.symm
theorem MY (h:Vf v mx sp ls (ys++[(a,b)]) H) (F:Fit (ys++[(a,b)])) (hab:[a,b]≠[[32],[]]) (ha:plainT a) (hb:plainT b) (hs:(lens (ys++[(a,b)])).sum>0) (hw:C5 (S (txts (ys++[(a,b)])).flatten)=false) (hl:ls.length<big)
  (q:∀ H',Vf v mx sp (ls++[(txts (ys++[(a,b)])).flatten]) [] H'->Only v H H'->Q .none H'):WC (gg B) 10 (.ref 176) [.ref (v,0)] H Q:=by
 refine (nlF B).wc (ab:=[(_,_)]) (WBind.of1 (by intro v1; kernel_rfl)) rfl ?_
 dsimp only [vS1,vS2,vS5,vS7,vE,vT,sqE]
 refine h.cur ⟨h.um (u:=.apop) rfl,4,by decide,LW (k:=0) h.c h.d (by rw [Hd]; exact F.n) (fun e=>absurd (congrArg AH e) (by rw [Hd]; simp)) fun x hx=>?_⟩
 obtain rfl:=Lz (Q:=fun _=>True) rfl hx
 rw [show (prs (ys++[(a,b)])).dropLast=prs ys from by unfold prs; rw [← Ek,C7]]
 have h1:=h.setC ys
 (refine sqN ?_; dsimp only [vS1,vS2,vS5,vS7,vE,vT,sqE])
 refine ⟨rfl,[a,b],[[32],[]],rfl,rfl,?_,?_,?_⟩
 ·intro x hx
  rcases Ap.mp hx with rfl | hx
  ·exact ha
  ·rw [Al.mp hx]; exact hb
 ·intro x hx
  rcases Ap.mp hx with rfl | hx
  ·show Fo (S [32])=true; decide +kernel
  ·rw [Al.mp hx]; show Fo (S [])=true; decide +kernel
 rw [show (!decide ([a,b]=[[32],[]]))=true from by rw [decide_eq_false hab]; rfl]
 have hys:ys.length≤big:=by have:=F.n; rw [A6] at this; unfold big; simp at this; exact AK (by assumption)
 refine ⟨fun _=>h1.cur ⟨h1.um (u:=.push) rfl,_,.inr rfl,JX rfl,2,by decide,MJ h1.c h1.d hys ?_⟩,nofun⟩
 have h2:=h1.setC (ys++[(a,b)])
 rw [HC] at h2 ⊢
 have o2:Only v H (up H (v,3) (acO (ys++[(a,b)]) (v,4))):=(Only.refl v H).up
 generalize up H (v,3) (acO (ys++[(a,b)]) (v,4))=H2 at h2 o2
 refine h2.cur (T2 (k:=4) F h2.c h2.d ?_)
 have fin:∀ {H3:Hp},Vf v mx sp (ls++[(txts (ys++[(a,b)])).flatten]) (ys++[(a,b)]) H3->Only v H H3->∀ loc:List (Option AV),callU B 8 Um.reset.f [.ref (v,3)] ⟨loc,H3⟩ fun _ σ=>Q .none σ.H:=fun h3 o3 loc =>
  ⟨2,by decide,OB h3.c h3.d (by have:=F.n; unfold big; assumption) (q _ (h3.setC []) o3.up)⟩
 refine ⟨fun _=>?_,fun hf=>absurd (of_decide_eq_false hf) (by lia)⟩
 (refine sqN ?_; dsimp only [vS1,vS2,vS5,vS7,vE,vT,sqE])
 refine h2.cur ⟨h2.um (u:=.ows) rfl,6,by decide,Uy F h2.c h2.d (by lia) ?_⟩
 rw [hw]
 refine ⟨nofun,fun _=>⟨nofun,fun _=>?_⟩⟩
 dsimp only [vS1,vS2,vS5,vS7,vE,vT,sqE]
 refine h2.lin ⟨.inl ⟨_,.inr ⟨_,rfl,h2.l⟩⟩,h2.cur (Q4 (k:=4) F h2.c (.inl ⟨_,h2.l,by rw [Ae]; exact Ay (by assumption),?_⟩))⟩
 (refine sqN ?_; dsimp only [vS1,vS2,vS5,vS7,vE,vT,sqE])
 have h3:=h2.setL (ls++[(txts (ys++[(a,b)])).flatten])
 rw [show sts (ls++[(txts (ys++[(a,b)])).flatten])=sts ls++[.str (S (txts (ys++[(a,b)])).flatten)] from Ar] at h3
 (refine sqN ?_; dsimp only [vS1,vS2,vS5,vS7,vE,vT,sqE])
 exact h3.cur ⟨h3.um (u:=.reset) rfl,fin h3 o2.up _⟩
end
end
section
open Builtin Builtin.Str
noncomputable def hitF (ch:Nat) (xs:List Ch) (i:Nat):Bool:=((xs[i]?.getD ([],[])).1.head?==some ch)
noncomputable def hitP (ch:Nat) (xs:List Ch) (i:Nat):Bool:=((xs[i - 1]?.getD ([],[])).2.getLast?==some ch)
noncomputable def hit (ch:Nat) (xs:List Ch) (i:Nat):Bool:=(C5 (S [ch])&&hitF ch xs i)||hitP ch xs i
noncomputable def downs (n:Nat):List Nat:=(A5 (n - 1)).map fun k=>n - 1 - k
noncomputable def findI (xs:List Ch) (ch:Nat):Option Nat:=(downs xs.length).find? (hit ch xs)
noncomputable def findCut (sp:List Nat) (xs:List Ch):Option Nat:=sp.findSome? (findI xs)
noncomputable abbrev inBody:Y:=.seq (.ite (.meth .isspace (.var 3) .nil) (.seq (.asg (.name 1) (.sub (.sub (.attr .cur (.var 0)) (.var 4)) (.int 0))) (.seq (.ite (.and (.var 1) (.cmp .Eq (.sub (.var 1) (.int 0)) (.var 3))) (.seq .brk .skip) .skip) .skip)) .skip) (.seq (.asg (.name 5) (.sub (.sub (.attr .cur (.var 0)) (.bin .Sub (.var 4) (.int 1))) (.int 1))) (.seq (.ite (.and (.var 5) (.cmp .Eq (.sub (.var 5) (.neg (.int 1))) (.var 3))) (.seq .brk .skip) .skip) .skip))
noncomputable abbrev inIt:X:=.call .range (.cons (.bin .Sub (.meth (.um .pc) (.attr .cur (.var 0)) .nil) (.int 1)) (.cons (.int 0) (.cons (.neg (.int 1)) .nil)))
noncomputable abbrev outBody:Y:=.seq (.forr (.name 4) inIt inBody (.seq .cont .skip)) (.seq .brk .skip)
noncomputable abbrev chL (v:Nat) (b:List Nat) (o1 o3 o4 o5:Option AV):List (Option AV):=[some (.ref (v,0)),o1,some (.str (S b)),o3,o4,o5,none,none]
theorem Jx (n:Nat) (h:1≤n):rangeL ((n:Int) - 1) 0 (-1)=(downs n).map fun i=>.int (i:Nat):=by
 unfold rangeL downs
 have e:(A9 ((n:Int) - 1) 0 (-1)).toNat=n - 1:=by
  unfold A9
  rw [if_neg (by decide)]
  by_cases h2:(n:Int) - 1>0
  ·rw [if_pos h2,show (-(-1):Int)=1 from rfl,EO,Int.sub_zero,Fq]; exact Fp n 1
  ·rw [if_neg h2]; exact (GA (Be.mp (Int.le_of_sub_nonpos (BE.mp h2)))).symm
 rw [e,AU]
 refine Cq fun i hi=>?_
 have:=BB.mp hi
 show AV.int _=AV.int _
 congr 1
 show (n:Int) - 1+(i:Int)*(-1)=((n - 1 - i:Nat):Int)
 exact LS (An this (Bp ..))
theorem UB {l:List Nat} {ch:Nat}:(l.head?==some ch)=(!l.isEmpty&&([l.headD 0]==[ch])):=by
 cases l with
 | nil=>rfl
 | cons a r=>simp
theorem Kt {α:Type} {p:α->Bool}:∀ {l:List α},(∀ (k:Nat) x,l[k]?=some x->p x=false)->l.find? p=none:=fun h=>D1.mpr fun x hx=>by
 obtain ⟨k,hk⟩:=Bl.mp hx
 rw [h k x hk]; exact BM
theorem N7 {α:Type} {p:α->Bool} {l:List α}:∀ {k:Nat} {x:α},l[k]?=some x->p x=true->(∀ j y,j<k->l[j]?=some y->p y=false)->l.find? p=some x:=by
 induction l with
 | nil=>exact fun e=>ns e
 | cons a l ih =>
  intro k x e h n
  rw [Cs]
  cases k with
  | zero=>obtain rfl:=Option.some.inj e; rw [h]
  | succ k=>rw [n 0 a (CW k) rfl]; exact ih e h fun j y hj hy=>n (j+1) y (DM hj) hy
theorem M9 {α β:Type} {f:α->Option β}:∀ {l:List α},(∀ (k:Nat) x,l[k]?=some x->f x=none)->l.findSome? f=none:=fun h=>FK.mpr fun x hx=>by
 obtain ⟨k,hk⟩:=Bl.mp hx
 exact h k x hk
theorem MA {α β:Type} {f:α->Option β} {l:List α}:∀ {k:Nat} {x:α} {b:β},l[k]?=some x->f x=some b->(∀ j y,j<k->l[j]?=some y->f y=none)->l.findSome? f=some b:=by
 induction l with
 | nil=>exact fun e=>ns e
 | cons a l ih =>
  intro k x b e h n
  rw [List.findSome?_cons]
  cases k with
  | zero=>obtain rfl:=Option.some.inj e; rw [h]
  | succ k=>rw [n 0 a (CW k) rfl]; exact ih e h fun j y hj hy=>n (j+1) y (DM hj) hy
section
variable {B:Bx} {v:Nat} {mx:Int} {sp:List Nat} {ls:List (List Nat)} {xs:List Ch} {b:List Nat} {H:Hp} {k:Nat}
theorem Qu {loc:List (Option AV)} (h:Vf v mx sp ls xs H) (hz:xs.length≤big) {i:Nat} {z:Int} (e:z=i) (hi:i<xs.length) {j:Int} {Q:PA} (q:getP (.tup [.str (S (xs[i]?.getD ([],[])).1),.str (S (xs[i]?.getD ([],[])).2)]) (.int j) ⟨loc,H⟩ Q) :
  getP (.ref (v,3)) (.int z) ⟨loc,H⟩ fun w σ=>getP w (.int j) σ Q :=
 .inr (.inr ⟨prs xs,(v,4),_,h.c,by rw [e]; exact A7 _,by rwa [Hd],by rw [e,Aw]; unfold prs; rw [Ai,Ac hi]; rfl,by rw [Ac hi] at q; exact q⟩)
theorem RC (h:Vf v mx sp ls xs H) (hz:xs.length≤big) (hc:∀ p∈xs,p.1.length≤big∧p.2.length≤big) {ch i:Nat} (h0:0<i) (hi:i<xs.length) {o1 o5:Option AV} {Q:PF}
  (qb:hit ch xs i=true->∀ o1 o5,Q .brk ⟨chL v b o1 (some (.str (S [ch]))) (some (.int i)) o5,H⟩) (qn:hit ch xs i=false->∀ o1 o5,Q .next ⟨chL v b o1 (some (.str (S [ch]))) (some (.int i)) o5,H⟩) :
  vS B k inBody ⟨chL v b o1 (some (.str (S [ch]))) (some (.int i)) o5,H⟩ Q:=by
 have hc1:=hc _ (Bo hi)
 have hi':i - 1<xs.length:=Ag (Bp ..) hi
 have hc2:=hc _ (Bo hi')
 have e1:xs[i]?.getD ([],[])=xs[i]:=by rw [Ac hi]; rfl
 have e2:xs[i - 1]?.getD ([],[])=xs[i - 1]:=by rw [Ac hi']; rfl
 have second:∀ {o1 o5:Option AV},(C5 (S [ch])&&hitF ch xs i)=false->vS B k (.seq (.asg (.name 5) (.sub (.sub (.attr .cur (.var 0)) (.bin .Sub (.var 4) (.int 1))) (.int 1))) (.seq (.ite (.and (.var 5) (.cmp .Eq (.sub (.var 5) (.neg (.int 1))) (.var 3))) (.seq .brk .skip) .skip) .skip)) ⟨chL v b o1 (some (.str (S [ch]))) (some (.int i)) o5,H⟩ Q:=by
  intro o1 o5 hf
  have hh:hit ch xs i=hitP ch xs i:=by unfold hit; rw [hf]; rfl
  rw [hh] at qb qn
  dsimp only [vS1,vS2,vS7,vE,vT,vL,nth]
  refine h.cur (Qu h hz (i:=i - 1) (D5 h0).symm hi' ⟨by decide,by decide +kernel,_,rfl,?_⟩)
  unfold hitP at qb qn
  rw [e2] at qb qn ⊢
  refine ⟨by rw [HZ]; exact hc2.2,?_⟩
  rw [HZ]
  generalize xs[i - 1].2=l at qb qn hc2
  rcases DE l with rfl | ⟨r,z,rfl⟩
  ·exact ⟨nofun,fun _=>⟨nofun,fun _=>qn rfl _ _⟩⟩
  ·rw [DG] at qb qn hc2 ⊢
   rw [Df] at qb qn
   refine ⟨fun _=>⟨by rw [HZ]; exact hc2.2,.inr ⟨rfl,z,by rw [HZ]; exact Df,?_⟩⟩,fun hf=>absurd hf (by simp)⟩
   have e:(cp (S [z])==cp (S [ch]))=(some z==some ch):=by rw [HZ,HZ]; simp
   exact ⟨fun ht=>qb (e▸ht) _ _,fun hf=>qn (e▸hf) _ _⟩
 have second:=@second
 unfold inBody
 generalize hR:Y.seq (.asg (.name 5) (.sub (.sub (.attr .cur (.var 0)) (.bin .Sub (.var 4) (.int 1))) (.int 1))) (.seq (.ite (.and (.var 5) (.cmp .Eq (.sub (.var 5) (.neg (.int 1))) (.var 3))) (.seq .brk .skip) .skip) .skip)=R at second ⊢
 dsimp only [vS1,vS2,vS7,vE,vT,vL,nth]
 refine ⟨trivial,?_⟩
 dsimp only [mcallP,l1,onS,avC,rgC,truP,HZ]
 by_cases hw:C5 (S [ch])=true
 ·rw [hw] at second ⊢
  refine ⟨fun _=>?_,nofun⟩
  dsimp only [vS1,vS2,vS7,vE,vT,vL,nth]
  refine h.cur (Qu h hz rfl hi ⟨by decide,by decide +kernel,_,rfl,?_⟩)
  rw [Bool.true_and] at second
  have hh:hitF ch xs i=true->hit ch xs i=true:=fun e=>by unfold hit; rw [hw,e]; rfl
  unfold hitF at second hh
  rw [e1] at second hh ⊢
  refine ⟨by rw [HZ]; exact hc1.1,?_⟩
  rw [HZ]
  generalize xs[i].1=l at second hh hc1
  cases l with
  | nil=>exact ⟨nofun,fun _=>⟨nofun,fun _=>second rfl⟩⟩
  | cons z r =>
   refine ⟨fun _=>⟨by rw [HZ]; exact hc1.1,.inl ⟨by decide,z,by rw [HZ]; rfl,?_⟩⟩,fun hf=>absurd hf (by simp)⟩
   have e:(cp (S [z])==cp (S [ch]))=(some z==some ch):=by rw [HZ,HZ]; simp
   exact ⟨fun ht=>qb (hh (e▸ht)) _ _,fun hf=>second (e▸hf)⟩
 ·rw [Fx.mpr hw] at second ⊢
  exact ⟨nofun,fun _=>second rfl⟩
end
end
section
open Builtin Builtin.Str
theorem N9 (n:Nat):(downs n).length=n - 1:=by unfold downs; rw [Ae,AN]
theorem HT {n k i:Nat} (h:(downs n)[k]?=some i):k<n - 1∧i=n - 1 - k:=by
 unfold downs at h
 rw [Ai] at h
 obtain ⟨j,hj,rfl⟩:=Ao.mp h
 obtain ⟨h1,h2⟩:=Am.mp hj
 rw [AN] at h1
 rw [Fk] at h2
 exact ⟨h1,by rw [h2]⟩
section
variable {B:Bx} {v:Nat} {mx:Int} {sp:List Nat} {ls:List (List Nat)} {xs:List Ch} {b:List Nat} {H:Hp} {k:Nat}
theorem RB (h:Vf v mx sp ls xs H) (hz:xs.length≤big) (hx1:1≤xs.length) (hc:∀ p∈xs,p.1.length≤big∧p.2.length≤big) {ch:Nat} {o1 o4 o5:Option AV} {Q:PF} (hk:2≤k)
  (qb:∀ i,findI xs ch=some i->∀ o1 o5,Q .next ⟨chL v b o1 (some (.str (S [ch]))) (some (.int i)) o5,H⟩) (qn:findI xs ch=none->∀ o1 o4 o5,Q .cont ⟨chL v b o1 (some (.str (S [ch]))) o4 o5,H⟩) :
  vS B k (.forr (.name 4) inIt inBody (.seq .cont .skip)) ⟨chL v b o1 (some (.str (S [ch]))) o4 o5,H⟩ Q:=by
 unfold inIt
 dsimp only [vS9,vI,vL,vE,nth,asInt,binP,int2,onI,avC]
 refine h.cur ⟨h.um (u:=.pc) rfl,2,hk,IX (k:=0) h.c ?_⟩
 refine ⟨by decide,by decide,small_down (Bw (by decide) (Int.sub_le_sub_right (A7 _) 1)) (by rw [Hd]; exact C4 (Int.sub_le_self _ (by decide)) (C4 (Be.mpr hz) (by decide))) (by decide) (by decide),?_⟩
 rw [Hd,Jx _ hx1]
 refine ⟨fun j σ=>Ex3 fun o1 o4 o5=>σ=⟨chL v b o1 (some (.str (S [ch]))) o4 o5,H⟩∧∀ (j':Nat) i,j'<j->(downs xs.length)[j']?=some i->hit ch xs i=false,⟨o1,o4,o5,rfl,fun j' i hj=>absurd hj (CX _)⟩,fun _ _ _=>trivial,?_,?_⟩
 ·rintro j x σ hx ⟨o1,o4,o5,rfl,hn⟩
  rw [Ai] at hx
  obtain ⟨i,hi,rfl⟩:=Ao.mp hx
  obtain ⟨h1,h2⟩:=HT hi
  refine RC h hz hc (ch:=ch) (i:=i) (b:=b) (o1:=o1) (o5:=o5) (by rw [h2]; exact BX h1) (by rw [h2]; exact Ag (Bp ..) (Br hx1)) (fun ht o1 o5=>qb i (N7 hi ht hn) o1 o5) fun hf o1 o5=>⟨o1,_,o5,rfl,fun j' i' hj' hi'=>?_⟩
  rcases Gg.mp hj' with hj' | rfl
  ·exact hn j' i' hj' hi'
  ·rw [hi] at hi'; cases hi'; exact hf
 ·rintro σ ⟨o1,o4,o5,rfl,hn⟩
  refine qn (Kt fun j i hi=>hn j i ?_ hi) o1 o4 o5
  rw [Ae]
  exact (Am.mp hi).1
theorem OI (h:Vf v mx sp ls xs H) (hz:xs.length≤big) (hx1:1≤xs.length) (hc:∀ p∈xs,p.1.length≤big∧p.2.length≤big) {o1 o3 o4 o5:Option AV} {Q:PF} {C:St->(PF)->Prop} (hk:2≤k)
  (qb:∀ i,findCut sp xs=some i->∀ o1 o3 o5,Q .next ⟨chL v b o1 o3 (some (.int i)) o5,H⟩) (qn:findCut sp xs=none->∀ o1 o3 o4 o5,C ⟨chL v b o1 o3 o4 o5,H⟩ Q) :
  itP (.str (S sp)) ⟨chL v b o1 o3 o4 o5,H⟩ (ForP (vG B k (.name 3)) (vS B k outBody) C Q):=by
 refine ⟨fun m σ=>Ex4 fun o1 o3 o4 o5=>σ=⟨chL v b o1 o3 o4 o5,H⟩∧∀ (m':Nat) ch,m'<m->sp[m']?=some ch->findI xs ch=none,⟨o1,o3,o4,o5,rfl,fun m' ch hm=>absurd hm (CX _)⟩,fun _ _ _=>trivial,?_,?_⟩
 ·rintro m x σ hx ⟨o1,o3,o4,o5,rfl,hn⟩
  rw [HZ,Ai] at hx
  obtain ⟨ch,hch,rfl⟩:=Ao.mp hx
  show vS B k (.seq _ _) _ _
  dsimp only [vS9]
  refine RB h hz hx1 hc hk (fun i hi o1 o5=>?_) fun hf o1 o4 o5=>?_
  ·exact qb i (MA hch hi hn) o1 _ o5
  ·refine ⟨o1,_,o4,o5,rfl,fun m' ch' hm' hch'=>?_⟩
   rcases Gg.mp hm' with hm' | rfl
   ·exact hn m' ch' hm' hch'
   ·rw [hch] at hch'; cases hch'; exact hf
 ·rintro σ ⟨o1,o3,o4,o5,rfl,hn⟩
  refine qn (M9 fun m ch hch=>hn m ch ?_ hch) o1 o3 o4 o5
  rw [HZ,Ae]
  exact (Am.mp hch).1
end
end
section
open Builtin Builtin.Str
theorem JB (l:List Nat) (i:Nat):(l.take i).sum≤l.sum:=by
 have:=congrArg List.sum (Cw i l)
 rw [C9] at this; exact Ab (A3 ..) (A1 this)
theorem Fit.take {xs:List Ch} (F:Fit xs) (i:Nat):Fit (xs.take i) where
 p:=fun x hx=>F.p x (Cf hx)
 s:=by
  have:(txts (xs.take i)).map AH=((txts xs).map AH).take i:=by unfold txts; rw [Ci,Ci]
  rw [this]; exact Ab (JB ..) F.s
 n:=Ab (DO ..) F.n
theorem Mm {sp:List Nat} {xs:List Ch} {i:Nat} (h:findCut sp xs=some i):0<i∧i<xs.length:=by
 obtain ⟨ch,hm,hf⟩:=List.exists_of_findSome?_eq_some h
 obtain ⟨k,hk⟩:=Bl.mp (List.mem_of_find?_eq_some hf)
 obtain ⟨h1,rfl⟩:=HT hk
 exact ⟨BX h1,Ag (Bp ..) (Br (An h1 (Bp ..)))⟩
section
variable {B:Bx} {v:Nat} {mx:Int} {sp:List Nat} {ls:List (List Nat)} {ys:List Ch} {a b:List Nat} {H:Hp} {Q:AV->Hp->Prop}
theorem RY (h:Vf v mx sp ls ys H) {xs:List Ch} (ex:xs=ys++[(a,b)]) (F:Fit xs) (hl:ls.length<big)
  (q0:(lens xs).sum≤mx->∀ H',Vf v mx sp ls xs H'->Only v H H'->Q .none H')
  (q1:(lens xs).sum>mx->∀ i,findCut sp xs=some i->∀ H',Vf v mx sp (ls++[(txts (xs.take i)).flatten]) (xs.drop i) H'->Only v H H'->Q .none H')
  (q2:(lens xs).sum>mx->findCut sp xs=none->∀ H',Vf v mx sp ls xs H'->Only v H H'->Q .none H'):WC (gg B) 8 (.ref 211) [.ref (v,0),.str (S a),.str (S b)] H Q:=by
 refine (TL B).wc (ab:=[(_,_),(_,_),(_,_)]) (WBind.of3 (by intro v1 v2 v3; kernel_rfl)) rfl ?_
 have hxz:xs.length≤big:=F.n
 have hyz:ys.length≤big:=by rw [ex,A6] at hxz; exact Ab (A3 ..) hxz
 have hx1:1≤xs.length:=by rw [ex]; simp
 have hcz:∀ p∈xs,p.1.length≤big∧p.2.length≤big:=fun p hp=>⟨Ab (A3 ..) (F.p p hp),Ab (CC ..) (F.p p hp)⟩
 have ho:findCut sp xs=none∨∃ i,findCut sp xs=some i:=by cases findCut sp xs<;>simp
 generalize hO:outBody=O
 generalize hE:(Y.seq (.asg (.pair 1 6) (.meth (.um .apop) (.attr .cur (.var 0)) .nil)) (.seq (.ite (.cmp .Gt (.attr .isize (.attr .cur (.var 0))) (.int 0)) (.seq (.expr (.meth (.um .nl) (.var 0) .nil)) (.seq (.ite (.not (.var 1)) (.seq (.asg (.name 1) (.str [32])) .skip) .skip) .skip)) .skip) (.seq (.expr (.meth (.um .push) (.attr .cur (.var 0)) (.cons (.var 1) (.cons (.var 6) .nil)))) (.seq (.ret .none) .skip))))=E
 have hY:chunkY=.seq (.expr (.meth (.um .push) (.attr .cur (.var 0)) (.cons (.var 1) (.cons (.var 2) .nil)))) (.seq (.ite (.cmp .Gt (.call .len (.cons (.attr .cur (.var 0)) .nil)) (.attr .maxlen (.var 0))) (.seq (.forr (.name 3) (.attr .splits (.var 0)) O E)
  (.seq (.asg (.name 7) (.meth (.um .popf) (.attr .cur (.var 0)) (.cons (.var 4) .nil))) (.seq (.expr (.meth .lappend (.attr .lines (.var 0)) (.cons (.call .str (.cons (.attr .cur (.var 0)) .nil)) .nil))) (.seq (.expr (.meth (.um .reset) (.attr .cur (.var 0)) (.cons (.var 7) .nil))) .skip)))) .skip) .skip):=by rw [← hO,← hE]
 rw [hY]
 dsimp only [vR,vS1,vS2,vS5,vS7,vS9,vE,vT,vI]
 refine h.cur ⟨h.um (u:=.push) rfl,2,by decide,MJ h.c h.d hyz ?_⟩
 have h1:=h.setC xs
 rw [← ex]
 have o1:Only v H (up H (v,3) (acO xs (v,4))):=(Only.refl v H).up
 generalize up H (v,3) (acO xs (v,4))=H1 at h1 o1
 (refine sqN ?_; dsimp only [vR,vS1,vS2,vS5,vS7,vS9,vE,vT,vI]); refine h1.cur (T2 (k:=2) F h1.c h1.d ?_); refine h1.max ⟨fun ht=>?_,fun hf=>q0 (by have:=of_decide_eq_false hf; exact BE.mp (by assumption)) H1 h1 o1⟩
 have hgt:=of_decide_eq_true ht
 subst hO hE
 refine h1.spl ?_
 refine OI (b:=b) (o1:=some (.str (S a))) (o3:=none) (o4:=none) (o5:=none) h1 hxz hx1 hcz (by decide) (fun i hi o1' o3 o5=>?_) fun hn o1' o3 o4 o5=>?_
 ·obtain ⟨i0,i1⟩:=Mm hi
  (refine sqN ?_; dsimp only [vR,vS1,vS2,vS5,vS7,vS9,vE,vT,vI])
  refine h1.cur ⟨h1.um (u:=.popf) rfl,2,by decide,Te (i:=i) h1.c hxz (Ay i1) ?_⟩
  have h2:=h1.setC (xs.take i)
  have o2:=o1.up (x:=3) (o:=acO (xs.take i) (v,4))
  generalize up H1 (v,3) (acO (xs.take i) (v,4))=H2 at h2 o2
  (refine sqN ?_; dsimp only [vR,vS1,vS2,vS5,vS7,vS9,vE,vT,vI])
  refine h2.lin ⟨.inl ⟨_,.inr ⟨_,rfl,h2.l⟩⟩,h2.cur (Q4 (k:=2) (F.take i) h2.c (.inl ⟨_,h2.l,by rw [Ae]; exact Ay hl,?_⟩))⟩
  (refine sqN ?_; dsimp only [vR,vS1,vS2,vS5,vS7,vS9,vE,vT,vI])
  have h3:=h2.setL (ls++[(txts (xs.take i)).flatten])
  rw [show sts (ls++[(txts (xs.take i)).flatten])=sts ls++[.str (S (txts (xs.take i)).flatten)] from Ar] at h3
  exact h3.cur ⟨h3.um (u:=.reset) rfl,2,by decide,OA h3.c h3.d (by rw [Dp,Bn,CY (Ay i1),Eo (Ay i1)]; exact hxz) (q1 hgt i hi _ (h3.setC (xs.drop i)) o2.up.up)⟩
 ·dsimp only [vR,vS1,vS2,vS5,vS7,vS9,vE,vT,vI]
  refine h1.cur ⟨h1.um (u:=.apop) rfl,4,by decide,LW (k:=0) h1.c h1.d (by rw [Hd]; exact hxz) (fun e=>by have e2:=congrArg AH e; rw [Hd,Dy] at e2; exact absurd e2 (AG hx1)) fun x hx=>?_⟩
  obtain rfl:=Lz (Q:=fun _=>True) ex hx
  rw [show (prs xs).dropLast=prs ys from by rw [ex]; unfold prs; rw [← Ek,C7]]
  have h2:=h1.setC ys
  dsimp only [pairP]
  (refine sqN ?_; dsimp only [vR,vS1,vS2,vS5,vS7,vS9,vE,vT,vI])
  refine h2.cur ⟨_,(v,4),_,.int 0,h2.c,h2.d,rfl,rfl,nofun,fun _=>?_⟩
  (refine sqN ?_; dsimp only [vR,vS1,vS2,vS5,vS7,vS9,vE,vT,vI])
  refine h2.cur ⟨h2.um (u:=.push) rfl,2,by decide,MJ h2.c h2.d hyz ?_⟩
  have h3:=h2.setC xs
  rw [← ex]
  exact q2 hgt hn _ h3 o1.up.up
end
end
section
open Builtin Builtin.Str
theorem Io (n:Nat):rangeL 0 n 1=(A5 n).map fun i=>.int (i:Nat):=by
 unfold rangeL
 have e:(A9 0 n 1).toNat=n:=by
  unfold A9
  rw [if_pos (by decide)]
  by_cases h:(0:Int)<n
  ·rw [if_pos h,EO,Int.sub_zero,Fq]; exact Aw n
  ·rw [if_neg h]; exact (Nat.eq_zero_of_not_pos fun p=>h (B7.mpr p)).symm
 rw [e]
 refine Cq fun i _=>?_
 show AV.int _=AV.int _
 congr 1; lia
theorem JE {n:Nat} (h:n≤1000000):Es 0 n 1=true:=small_one (by decide) (by decide) (by exact A7 _) (by lia)
theorem Ly {n k:Nat} {x:AV} (h:((A5 n).map fun i=>AV.int (i:Nat))[k]?=some x):k<n∧x=.int (k:Nat):=by
 rw [Ai] at h
 obtain ⟨j,hj,rfl⟩:=Ao.mp h
 obtain ⟨h1,h2⟩:=Am.mp hj
 rw [AN] at h1
 rw [Fk] at h2
 exact ⟨h1,by rw [h2]⟩
theorem Jj {α β:Type} (f:α->β):∀ (l:List α) (i:Nat),(l.map f).eraseIdx i=(l.eraseIdx i).map f
 | [],_=>rfl
 | _::_,0=>rfl
 | a::l,i+1=>congrArg (f a::·) (Jj f l i)
theorem J4 {α:Type}:∀ (l:List α) (i:Nat) (h:i<l.length),(l[i]::l.eraseIdx i).Perm l
 | a::l,0,_=>.refl _
 | a::l,i+1,h=>(GS a _ _).trans ((J4 l i (Nat.lt_of_succ_lt_succ h)).cons a)
theorem HL (a:Int) {n:Nat} (h:0<n):∃ m:Nat,a.fmod n=m∧m<n:=by
 have h1:=Int.fmod_nonneg_of_pos a (show (0:Int)<n by exact B7.mpr (by assumption))
 have h2:=Int.fmod_lt_of_pos a (show (0:Int)<n by exact B7.mpr (by assumption))
 exact ⟨(a.fmod n).toNat,(DW h1).symm,(F1 h1).mpr h2⟩
section
variable {B:Bx} {N:Nat} {H:Hp} {Q:AV->Hp->Prop}
theorem Pc {script base:List Int} (hf:H (N,0)=none) (hs:script.length≤1000) (hb:base.length≤1000) (hb0:0<base.length) (q:∀ cs:List Int,cs.length=base.length->Q (.ref (N,0)) (up H (N,0) (.list (nts cs)))):WC (gg B) 2 (.ref 337) [.lst (nts script),.lst (nts base)] H Q:=by
 refine (Ru B).wc (ab:=[(_,_),(_,_)]) (WBind.of2 (by intro v1 v2; kernel_rfl)) rfl ?_
 dsimp only [vS1,vS4,vE,vL,vG,augP,binP,inpP,addI,onI,avC,List.set,loopF,sqE]
 refine ⟨nts base,.inl (.inl rfl),by rw [Hc]; unfold big; exact Ab (by assumption) (by decide),.inr ⟨(N,0),hf,by rw [Hc]; unfold big; exact Ab (by assumption) (by decide),?_⟩⟩
 refine ⟨by rw [Hc]; exact JE (Ab hs (by decide)),?_⟩
 rw [Hc,Io]
 refine ⟨fun i σ=>Ex2 fun (cs:List Int) (o:Option AV)=>σ=⟨[some (.lst (nts script)),some (.lst (nts base)),some (.ref (N,0)),o],up H (N,0) (.list (nts cs))⟩∧cs.length=base.length,⟨base,none,rfl,rfl⟩,fun _ _ _=>trivial,?_,?_⟩
 ·rintro i x σ hx ⟨cs,o,rfl,h1⟩
  obtain ⟨hi,rfl⟩:=Ly hx
  dsimp only [vS1,vS4,vE,vL,vG,augP,binP,inpP,addI,onI,avC,List.set,loopF,sqE]
  refine lenL (xs:=cs) (Hb ..) (by unfold big; lia) ⟨by lia,?_⟩
  obtain ⟨m,hm,hml⟩:=HL (i:Int) (n:=cs.length) (by lia)
  refine N6 (xs:=cs) (n:=m) (Hb ..) (by unfold big; lia) hm hml ?_
  refine ⟨.int (at' script i),⟨by rw [Hc]; unfold big; exact Ab (by assumption) (by decide),.inl ⟨by exact A7 _,Iy (NU hi)⟩⟩,?_⟩
  refine Qa (xs:=cs) (n:=m) (Hb ..) (by unfold big; lia) hm hml ⟨_,_,by rw [HC],by rw [Aq]; exact h1⟩
 ·rintro σ ⟨cs,o,rfl,h1⟩
  exact q cs h1
noncomputable abbrev signs4:List (List Nat):=[[59],[44],[32],[9]]
theorem OZ {number:Int} (hf:H (N,0)=none) (q:∀ (o:List Nat) (xs:List AV),o.Nodup->(∀ c∈o,c∈[59,44,32,9])->Q (.str (S o)) (up H (N,0) (.list xs))):WC (gg B) 2 (.ref 344) [.int number] H Q:=by
 refine (Rt B).wc (ab:=[(_,_)]) (WBind.of1 (by intro v1; kernel_rfl)) rfl ?_
 dsimp only [retv,List.map]
 refine ⟨rfl,.inr ⟨(N,0),hf,rfl,?_⟩⟩
 refine ⟨fun j σ=>Ex4 fun (num:Int) (sg od:List Nat) (o:Option AV)=>An3 (σ=⟨[some (.int num),some (.ref (N,0)),some (.str (S od)),o],up H (N,0) (.list (sts (sg.map fun c=>[c])))⟩) (sg.length=4 - j) ((od++sg).Perm [59,44,32,9]),⟨number,[59,44,32,9],[],none,rfl,rfl,.refl _⟩,fun _ _ _=>trivial,?_,?_⟩
 ·rintro j x σ hx ⟨num,sg,od,o,rfl,h1,h2⟩
  have hj:j<4∧x=.int ((4 - j:Nat):Int):=by
   match j,hx with
   | 0,hx=>cases hx; exact ⟨by decide,rfl⟩
   | 1,hx=>cases hx; exact ⟨by decide,rfl⟩
   | 2,hx=>cases hx; exact ⟨by decide,rfl⟩
   | 3,hx=>cases hx; exact ⟨by decide,rfl⟩
  obtain ⟨hj,rfl⟩:=hj
  dsimp only [retv,List.map]
  have hl:sg.length≤4:=by rw [h1]; exact Bp ..
  have hp:0<4 - j:=BX hj
  have hne:¬((4 - j:Nat):Int)=0:=Int.ofNat_ne_zero.mpr (AG hp)
  have hod:od.length≤4:=Ab (A3 _ sg.length) (A1 (A6.symm.trans h2.length_eq))
  refine ⟨⟨_,.inr ⟨_,rfl,Hb ..⟩⟩,hne,?_⟩
  obtain ⟨m,hm,hml⟩:=HL num (n:=4 - j) hp
  rw [← h1] at hml
  rw [hm]
  have hg:(sts (sg.map fun c=>[c]))[(m:Int).toNat]?=some (.str (S [sg[m]])):=by
   rw [Aw,Ai,Ai,Ac hml]; rfl
  refine ⟨_,_,Hb ..,by rw [Ae,Ae]; unfold big; exact Ab (by assumption) (by decide),by exact A7 _,hg,?_⟩
  refine ⟨by rw [HZ,HZ]; unfold big; simp; exact Ab (by assumption) (by decide),⟨hne,Ag (Bp 4 j) (by decide)⟩,num.fdiv ((4 - j:Nat):Int),sg.eraseIdx m,od++[sg[m]],some (.int ((4 - j:Nat):Int)),?_,?_,?_⟩
  ·rw [HC,Aw,show (sts (sg.map fun c=>[c])).eraseIdx m=sts ((sg.eraseIdx m).map fun c=>[c]) from by rw [Jj,Jj]]
   rfl
  ·rw [List.length_eraseIdx,if_pos hml,h1]; rfl
  ·rw [De]
   exact (FL od (J4 sg m hml)).trans h2
 ·rintro σ ⟨num,sg,od,o,rfl,h1,h2⟩
  have e:sg=[]:=DL (by rw [h1]; rfl)
  subst e
  rw [AL] at h2
  dsimp only [retv,List.map]
  obtain ⟨m,hm,hml⟩:=HL num (n:=2) (by decide)
  refine ⟨by decide,?_⟩
  have hod:od.length=4:=by have:=h2.length_eq; simpa using this
  refine ⟨by rw [HZ]; exact Ab (A1 hod) (by decide),4 - m,rfl,?_,rfl,?_⟩
  ·congr 1
   rw [show num.fmod 2=(m:Int) from hm]; exact (D5 (Ab (Ay hml) (by decide):m≤4)).symm
  rw [HZ]
  exact q _ _ ((h2.nodup_iff.mpr (by decide)).sublist (D8 ..)) fun c hc=>h2.mem_iff.mp (Cf hc)
end
end
section
open Builtin Builtin.Str
noncomputable abbrev sgn:List Nat:=[59,44,32,9]
noncomputable def allL:Nat->List (List Nat)
 | 0=>[[]]
 | n+1=>[]::sgn.flatMap fun c=>(allL n).map (c::·)
theorem JM:∀ (n:Nat) (o:List Nat),o.length≤n->(∀ c∈o,c∈sgn)->o∈allL n
 | 0,[],_,_=>.head _
 | n+1,[],_,_=>.head _
 | n+1,c::o,h,hc=>.tail _ (List.mem_flatMap.mpr ⟨c,hc c (.head _),As.mpr ⟨o,JM n o (EE h) fun x hx=>hc x (.tail _ hx),rfl⟩⟩)
noncomputable def occK (o:List Nat) (c:Nat):Bool:=occurrences (S o) (S [c]) 0 o.length 1==(if o.contains c then [o.idxOf c] else [])
theorem QX:(allL 4).all (fun o=>sgn.all (occK o))=true:=by decide +kernel
theorem QW {o:List Nat} (h:o.length≤4) (ho:∀ c∈o,c∈sgn) {c:Nat} (hc:c∈sgn):occurrences (S o) (S [c]) 0 o.length 1=if o.contains c then [o.idxOf c] else [] :=
 beq_iff_eq.mp (AX.mp (AX.mp QX o (JM 4 o h ho)) c hc)
noncomputable def sgR (o:List Nat):List Nat->Option Int
 | [c]=>if o.contains c then some (o.idxOf c:Nat) else none
 | _=>none
noncomputable def nearL (o:List Nat) (m:Ch):List Int:=[m.1,m.2.take 1].filterMap (sgR o)
noncomputable def rankOf (o:List Nat) (m:Ch):Option Int:=match nearL o m with
 | []=>none
 | [a]=>some a
 | a::b::_=>some (if b<a then b else a)
theorem OD {o:List Nat} {m:Ch} {x:Int} (h:x∈nearL o m) (hl:∀ y∈nearL o m,x≤y):rankOf o m=some x:=by
 have h2:(nearL o m).length≤2:=by unfold nearL; exact Ab (Dt ..) (Ak 2)
 unfold rankOf
 generalize nearL o m=l at *
 cases l with
 | nil=>cases h
 | cons a l=>cases l with
  | nil=>rw [Al.mp h]
  | cons b l=>cases l with
   | cons _ _=>exact absurd h2 (by simp only [AW]; exact DS.mpr (CC ..))
   | nil =>
    rcases Ap.mp h with rfl | h
    ·show some (if b<x then b else x)=some x; rw [if_neg (BE.mpr (hl b (.tail _ (.head _))))]
    ·obtain rfl:=Al.mp h
     show some (if x<a then x else a)=some x
     by_cases q:x<a
     ·rw [if_pos q]
     ·rw [if_neg q]; exact congrArg some (Int.le_antisymm (BE.mp q) (hl a (.head _)))
noncomputable def rkAt (o:List Nat) (ms:List Ch) (k:Nat):Option (Int×Int):=((ms[k]?).bind (rankOf o)).map fun r=>((k:Int)+1,r)
noncomputable def rkN (o:List Nat) (ms:List Ch) (n:Nat):List (Int×Int):=(A5 n).filterMap (rkAt o ms)
theorem IH (o:List Nat) (ms:List Ch) (n:Nat):rkN o ms (n+1)=rkN o ms n++(rkAt o ms n).toList:=by
 unfold rkN; rw [EH,EK]
 cases h:rkAt o ms n<;>simp [h]
theorem JI {o:List Nat} {ms:List Ch} {n:Nat} {p:Int×Int} (h:p∈rkN o ms n):1≤p.1∧p.1≤n:=by
 obtain ⟨k,hk,e⟩:=C0.mp h
 have:=BB.mp hk
 unfold rkAt at e
 obtain ⟨r,_,rfl⟩:=Ao.mp e
 dsimp only; lia
noncomputable def dI (rk:List (Int×Int)):List (Int×AV):=rk.map fun p=>(p.1,.int p.2)
noncomputable def MOk (m:Ch):Prop:=(m.1=[]∨m.1=[59]∨m.1=[44])∧(m.2=[]∨m.2=[32]∨m.2=[9]∨m.2=[32,9])
section
variable {B:Bx} {N:Nat} {H:Hp} {Q:AV->Hp->Prop}
noncomputable def nearF (o:List Nat) (v:AV):Option AV:=match v with
 | .str x=>(sgR o (cp x)).map .int
 | _=>none
theorem OX {ms:List Ch} {o:List Nat} (hf:H (N,0)=none) (hz:ms.length≤1000) (hm:∀ m∈ms,MOk m) (ho1:o.length≤4) (ho2:∀ c∈o,c∈sgn) (q:∀ ep,Q (.ref (N,0)) (up H (N,0) (.dict (dI (rkN o ms ms.length)) ep))):WC (gg B) 2 (.ref 349) [.lst (prs ms),.str (S o)] H Q:=by
 refine (Rr B).wc (ab:=[(_,_),(_,_)]) (WBind.of2 (by intro v1 v2; kernel_rfl)) rfl ?_
 dsimp only [vE,retv]
 refine ⟨(N,0),hf,⟨by rw [Hd]; unfold big; exact Ab (by assumption) (by decide),by rw [Hd]; exact JE (Ab hz (by decide)),?_⟩⟩
 rw [Hd,Io]
 refine ⟨fun i σ=>Ex5 fun (o3 o4 o5 o6:Option AV) (ep:Nat)=>σ=⟨[some (.lst (prs ms)),some (.str (S o)),some (.ref (N,0)),o3,o4,o5,o6],up H (N,0) (.dict (dI (rkN o ms i)) ep)⟩,⟨none,none,none,none,0,rfl⟩,fun _ _ _=>trivial,?_,?_⟩
 ·rintro i x σ hx ⟨o3,o4,o5,o6,ep,rfl⟩
  obtain ⟨hi,rfl⟩:=Ly hx
  have hmi:=hm _ (Bo hi)
  dsimp only [vE,retv]
  refine ⟨_,⟨by rw [Hd]; unfold big; exact Ab (by assumption) (by decide),.inl ⟨by exact A7 _,by rw [Aw]; unfold prs; rw [Ai,Ac hi]; rfl⟩⟩,?_⟩
  dsimp only [pairP]
  have eR:rkAt o ms i=(rankOf o ms[i]).map fun r=>((i:Int)+1,r):=by unfold rkAt; rw [Ac hi]; rfl
  generalize ms[i]=m at hmi eR
  obtain ⟨e,w⟩:=m
  obtain ⟨he,hw⟩:=hmi
  have hw4:w.length≤2:=by rcases hw with h | h | h | h<;>(rw [show w=_ from h]; decide)
  refine ⟨Ab hw4 (by decide),1,rfl,rfl,rfl,rfl,?_⟩
  refine ⟨JX rfl,nearF o,?_,.inl ?_⟩
  ·have key:∀ s:List Nat,s=[]∨(∃ c,s=[c]∧c∈sgn)->∀ x,x=AV.str (S s)->compTurn B 0 (.meth .index (.var 1) (.cons (.var 0) .nil)) (.and (.cmp .NotEq (.var 0) (.str [])) (.cmp .In (.var 0) (.var 1))) [some x,some (.str (S o))] (up H (N,0) (.dict (dI (rkN o ms i)) ep)) (nearF o x):=by
    intro s hs x hx
    subst hx
    unfold compTurn nearF
    dsimp only [vE,retv]
    rcases hs with rfl | ⟨c,rfl,hc⟩
    ·exact ⟨nofun,fun _=>⟨rfl,nofun,fun _=>rfl⟩⟩
    ·refine ⟨fun _=>?_,fun hf=>absurd hf (by show ¬((!([c]==([]:List Nat)))=false); simp)⟩
     have ho:=QW ho1 ho2 hc
     refine ⟨rfl,fun ht=>?_,fun hf=>?_⟩
     ·refine ⟨trivial,?_⟩
      by_cases hco:o.contains c=true
      ·rw [if_pos hco] at ho
       exact ⟨o.idxOf c,[],ho,rfl,by rw [HZ]; unfold sgR; dsimp only; rw [if_pos hco]; rfl⟩
      ·rw [if_neg hco] at ho
       rw [show occurrences (S (cp (S o))) (S (cp (S [c]))) 0 (cp (S o)).length 1=[] from ho] at ht
       cases ht
     ·by_cases hco:o.contains c=true
      ·rw [if_pos hco] at ho
       rw [show occurrences (S (cp (S o))) (S (cp (S [c]))) 0 (cp (S o)).length 1=[o.idxOf c] from ho] at hf
       cases hf
      ·rw [HZ]; unfold sgR; dsimp only; rw [if_neg hco]; rfl
   intro x hx
   have hs1:e=[]∨∃ c,e=[c]∧c∈sgn:=by
    rcases he with h | h | h
    ·exact .inl h
    ·exact .inr ⟨59,h,by decide⟩
    ·exact .inr ⟨44,h,by decide⟩
   have hs2:w.take 1=[]∨∃ c,w.take 1=[c]∧c∈sgn:=by
    rcases hw with h | h | h | h
    ·exact .inl (by rw [show w=[] from h]; rfl)
    ·exact .inr ⟨32,by rw [show w=[32] from h]; rfl,by decide⟩
    ·exact .inr ⟨9,by rw [show w=[9] from h]; rfl,by decide⟩
    ·exact .inr ⟨32,by rw [show w=[32,9] from h]; rfl,by decide⟩
   rcases Ap.mp hx with rfl | hx
   ·exact key e hs1 _ rfl
   ·rw [Al.mp hx]; exact key (w.take 1) hs2 _ rfl
  ·have en:[AV.str (S (e,w).1),AV.str (S ((cp (S (e,w).2)).take 1))].filterMap (nearF o)=nts (nearL o (e,w)):=by
    unfold nearL nts
    rw [List.map_filterMap]
    rfl
   rw [en]
   refine ⟨rfl,.inl (.inl ⟨nearL o (e,w),[],.inl rfl,.inl rfl,?_⟩)⟩
   by_cases hn:nearL o (e,w)=[]
   ·rw [decide_eq_true hn]
    refine ⟨nofun,fun _=>⟨some (.int i),some (.str (S e)),some (.str (S w)),some (.lst (nts (nearL o (e,w)))),ep,?_⟩⟩
    rw [IH,eR,show rankOf o (e,w)=none from by unfold rankOf; rw [hn]]
    simp
   ·rw [decide_eq_false hn]
    refine ⟨fun _=>⟨nearL o (e,w),.inl rfl,hn,fun r hr hl=>?_⟩,nofun⟩
    refine .inr ⟨_,ep,Hb ..,?_,fun ep'=>⟨some (.int i),some (.str (S e)),some (.str (S w)),some (.lst (nts (nearL o (e,w)))),ep',?_⟩⟩
    ·unfold dI rkN; rw [Ae]; exact Ab (Dt ..) (by rw [AN]; unfold big; lia)
    ·rw [IH,eR,OD hr hl,HC]
     have:aput (dI (rkN o ms i)) ((i:Int)+1) (.int r)=dI (rkN o ms i++[((i:Int)+1,r)]):=by
      unfold aput dI
      rw [if_neg,Ar]; · rfl
      rw [List.any_map,E6]
      rintro ⟨p,hp,e⟩
      have:=JI hp
      have e:=of_decide_eq_true e
      dsimp only at e; lia
     rw [this]; rfl
 ·rintro σ ⟨o3,o4,o5,o6,ep,rfl⟩
  rw [Ae,AN]
  exact q ep
end
end
section
open Builtin Builtin.Str
noncomputable def rkV (rk:List (Int×Int)) (p:Int):Int:=((rk.find? fun x=>x.1=p).map (·.2)).getD 0
noncomputable def doms (rk:List (Int×Int)):List Int:=rk.map (·.1)
noncomputable def needs (rk:List (Int×Int)) (p:Int):List Int:=(doms rk).filter fun f=>decide (f>p∧rkV rk f≤rkV rk p)
noncomputable def addB (rk:List (Int×Int)) (S:SS) (p:Int):SS:=(S.add p ((needs rk p).drop 1)).add p ((needs rk p).take 1)
noncomputable def sortF (rk:List (Int×Int)):SS:=(doms rk).foldl (addB rk) SS.empty
theorem Si (p:Int) (rk:List (Int×Int)):aget (dI rk) p=(rk.find? fun x=>x.1=p).map fun x=>.int x.2:=by
 unfold aget dI
 rw [List.find?_map,Option.map_map]; rfl
theorem JZ {rk:List (Int×Int)} {p:Int} (h:p∈doms rk):aget (dI rk) p=some (.int (rkV rk p)):=by
 rw [Si]
 unfold rkV
 obtain ⟨x,hx,e⟩:=As.mp h
 cases hf:rk.find? fun x=>decide (x.1=p) with
 | none=>exact absurd (D1.mp hf x hx) (by simp [e])
 | some y=>rfl
theorem Ml (p:Int) (qs:List Int):∀ (S:SS),(qs.foldl (SS.wait p) S).rdy=S.rdy∧(qs.foldl (SS.wait p) S).pas=S.pas∧(qs.foldl (SS.wait p) S).fin=S.fin∧(qs.foldl (SS.wait p) S).keys.length≤S.keys.length+qs.length∧∀ x,((qs.foldl (SS.wait p) S).su x).length≤(S.su x).length+qs.length:=by
 induction qs with
 | nil=>exact fun S=>⟨rfl,rfl,rfl,Ak _,fun _=>Ak _⟩
 | cons q qs ih =>
  intro S
  obtain ⟨a,b,c,d,e⟩:=ih (S.wait p q)
  have h:(S.wait p q).rdy=S.rdy∧(S.wait p q).pas=S.pas∧(S.wait p q).fin=S.fin:=by unfold SS.wait SS.ins; split<;>exact ⟨rfl,rfl,rfl⟩
  have h2:=Lj p S q
  refine ⟨a.trans h.1,b.trans h.2.1,c.trans h.2.2,by rw [AW]; exact Ab d (LU h2),fun x=>?_⟩
  have h3:=M1 p S q x
  rw [AW]; exact Ab (e x) (LU h3)
theorem Jo (S:SS) (p:Int) (qs:List Int):(S.add p qs).rdy=S.rdy∧(S.add p qs).pas=S.pas∧(S.add p qs).fin=S.fin∧(S.add p qs).keys.length≤S.keys.length+1+qs.length∧∀ x,((S.add p qs).su x).length≤(S.su x).length+qs.length:=by
 obtain ⟨a,b,c,d,e⟩:=Ml p qs (S.own p qs.length)
 have h:(S.own p qs.length).rdy=S.rdy∧(S.own p qs.length).pas=S.pas∧(S.own p qs.length).fin=S.fin:=by unfold SS.own SS.ins; split<;>exact ⟨rfl,rfl,rfl⟩
 have h2:=KY S p
 exact ⟨a.trans h.1,b.trans h.2.1,c.trans h.2.2,Ab d (Cg h2 _),fun x=>Ab (e x) (Cg (Ko S p x) _)⟩
theorem I4 (rk:List (Int×Int)) (S:SS) (p:Int):(addB rk S p).rdy=S.rdy∧(addB rk S p).pas=S.pas∧(addB rk S p).fin=S.fin∧(addB rk S p).keys.length≤S.keys.length+2+(2*rk.length)∧∀ x,((addB rk S p).su x).length≤(S.su x).length+2*rk.length:=by
 obtain ⟨a,b,c,d,e⟩:=Jo S p ((needs rk p).drop 1)
 obtain ⟨a',b',c',d',e'⟩:=Jo (S.add p ((needs rk p).drop 1)) p ((needs rk p).take 1)
 have h1:(needs rk p).length≤rk.length:=by unfold needs doms; exact Ab (DC ..) (by simp)
 have h2:((needs rk p).drop 1).length≤rk.length:=by rw [Bn]; exact Ab (Bp ..) h1
 have h3:((needs rk p).take 1).length≤rk.length:=Ab (DO ..) h1
 exact ⟨a'.trans a,b'.trans b,c'.trans c,Ab d' (Oe d h2 h3),fun x=>Ab (e' x) (Od (e x) h2 h3)⟩
noncomputable def needF (rk:List (Int×Int)) (p:Int) (v:AV):Option AV:=match v with
 | .int f=>if f>p∧rkV rk f≤rkV rk p then some (.int f) else none
 | _=>none
theorem MZ (rk:List (Int×Int)) (p:Int) (ks:List Int):(nts ks).filterMap (needF rk p)=nts (ks.filter fun f=>decide (f>p∧rkV rk f≤rkV rk p)):=by
 rw [AP]; exact Jh (fun _=>rfl) ks
section
variable {B:Bx} {b:Nat} {rl:Lb} {H:Hp} {Q:AV->Hp->Prop}
theorem Nh {rk:List (Int×Int)} {ep:Nat} (hr:H rl=some (.dict (dI rk) ep)) (hb:rl.1<b) (hf:Free b H) (hz:rk.length≤7) (hsu:∀ q∈(sortF rk).keys,∀ p∈(sortF rk).su q,p∈(sortF rk).keys∧p<q)
  (q:∀ H',So b (sortF rk).prep H'->(∀ l:Lb,l.1<b->H' l=H l)->Free (b+5) H'->Q (.ref (b,0)) H'):WC (gg B) 12 (.ref 354) [.ref rl] H Q:=by
 refine (OW B).wc (ab:=[(_,_)]) (WBind.of1 (by intro v1; kernel_rfl)) rfl ?_
 dsimp only [vS0,retv]
 have n01':((b,0):Lb)≠(b,1):=nn (by decide)
 refine ⟨(b,0),(b,1),2,hf _ (Ak _),hf _ (Ak _),n01',by decide,Ow (fun l hl h0 h1=>(Ha _ _ h0).trans ((Ha _ _ h1).trans (hf l hl))) (Hb ..) ((Ha _ _ n01'.symm).trans (Hb ..)) fun H1 s1 o1=>⟨rfl,?_⟩⟩
 have o1':Out b H H1:=(Out.up0.trans .up0).trans o1
 have below:∀ {H':Hp},Out b H H'->∀ l:Lb,l.1<b->H' l=H l:=fun o l hl=>o l (AE hl) (AE (AQ hl)) (AE (AQ (AQ hl)))
 refine .inr ⟨dI rk,ep,(below o1' rl hb).trans hr,?_⟩
 have hd:(dI rk).map (fun p=>AV.int p.1)=nts (doms rk):=by unfold dI doms nts; rw [AU,AU]; rfl
 rw [hd]
 refine ⟨fun i σ=>Ex3 fun (H':Hp) (o2 o3:Option AV)=>An6 (σ=⟨[some (.ref rl),some (.ref (b,0)),o2,o3],H'⟩) (So b (((doms rk).take i).foldl (addB rk) SS.empty) H') (Out b H H') ((((doms rk).take i).foldl (addB rk) SS.empty).rdy=none) ((((doms rk).take i).foldl (addB rk) SS.empty).keys.length≤16*i) (∀ x,((((doms rk).take i).foldl (addB rk) SS.empty).su x).length≤14*i),⟨H1,none,none,rfl,s1,o1',rfl,Ak _,fun _=>Ak _⟩,?_,?_,?_⟩
 ·rintro i σ ⟨H',o2,o3,rfl,a1,a2,_⟩
  exact (below a2 rl hb).trans hr
 ·rintro i x σ hx ⟨H',o2,o3,rfl,a1,a2,a3,a4,a5⟩
  obtain ⟨p,hp,rfl⟩:=Jz hx
  have hpm:=Au hp
  have hil:i<7:=by have:=(Am.mp hp).1; unfold doms at this; rw [Ae] at this; exact Ab (by assumption) (by assumption)
  have hnext:=Hu (addB rk) SS.empty (doms rk) hp
  generalize ((doms rk).take i).foldl (addB rk) SS.empty=T at a1 a3 a4 a5 hnext
  have hr':=(below a2 rl hb).trans hr
  dsimp only [vS0,retv]
  refine .inr ⟨dI rk,ep,hr',?_,needF rk p,?_,.inl ?_⟩
  ·rw [hd,Hc]; unfold doms; rw [Ae]; unfold big; exact Ab (by assumption) (by decide)
  ·rw [hd]
   intro x hx
   obtain ⟨f,hfm,rfl⟩:=As.mp hx
   refine ⟨fun ht=>?_,fun hf=>⟨rfl,nofun,fun _=>if_neg fun h=>absurd h.1 (of_decide_eq_false hf)⟩⟩
   refine .inr (.inl ⟨dI rk,ep,_,hr',JZ hfm,.inr (.inl ⟨dI rk,ep,_,hr',JZ hpm,?_⟩)⟩)
   exact ⟨rfl,fun h2=>⟨rfl,if_pos ⟨of_decide_eq_true ht,of_decide_eq_true h2⟩⟩,fun h2=>if_neg fun h=>absurd h.2 (of_decide_eq_false h2)⟩
  rw [hd,MZ]
  have hnl:(needs rk p).length≤7:=by unfold needs doms; exact Ab (DC ..) (by rw [Ae]; exact hz)
  have e1:pickL (nts (needs rk p)) (some 1) none none=nts ((needs rk p).drop 1):=(Iw _ 1).trans Dd.symm
  have e2:pickL (nts (needs rk p)) none (some 1) none=nts ((needs rk p).take 1):=(OF _ 1).trans Ci.symm
  have bg:∀ n,n≤1000->n≤big:=fun n hn=>Ab hn (by decide)
  have hn1:((needs rk p).drop 1).length≤7:=by rw [Bn]; exact Ab (Bp ..) hnl
  have hn2:((needs rk p).take 1).length≤7:=Ab (DO ..) hnl
  have k1:T.keys.length≤96:=Ab a4 (CL 16 (B2 hil))
  have k2:14*i≤84:=CL 14 (B2 hil)
  have k3:2*rk.length≤14:=CL 2 hz
  obtain ⟨f1,f2,f3,f4,f5⟩:=Jo T p ((needs rk p).drop 1)
  obtain ⟨g1,g2,g3,g4,g5⟩:=I4 rk T p
  refine ⟨a1.um (u:=.add) rfl,nofun,by rw [Hc]; exact bg _ (by unfold needs at hnl; exact Ab (by assumption) (by decide)),.inl ⟨nts ((needs rk p).drop 1),.inl (.inl (congrArg AV.lst e1)),by rw [Hc]; exact bg _ (by exact Ab (by assumption) (by decide)),7,by decide,?_⟩⟩
  rw [AL]
  refine TV a1 a3 (Ag (AB (Bk k1 hn1)) (by decide)) (W:=14*i) a5 (Ag (Bk k2 hn1) (by decide)) fun H2 s2 o2'=>?_
  refine ⟨s2.um (u:=.add) rfl,nofun,by rw [Hc]; exact bg _ (by unfold needs at hnl; exact Ab (by assumption) (by decide)),.inl ⟨nts ((needs rk p).take 1),.inl (.inl (congrArg AV.lst e2)),by rw [Hc]; exact bg _ (by exact Ab (by assumption) (by decide)),7,by decide,?_⟩⟩
  rw [AL]
  refine TV s2 (f1.trans a3) (Ag (AB (Bk (Ab f4 (Bk (AB k1) hn1)) hn2)) (by decide)) (W:=14*i+7) (fun x=>Ab (f5 x) (Bk (a5 x) hn1)) (Ag (Bk (Cg k2 7) hn2) (by decide)) fun H3 s3 o3'=>?_
  refine ⟨H3,_,_,rfl,?_,(a2.trans o2').trans o3',?_,?_,?_⟩<;>rw [hnext]
  ·exact s3
  ·exact g1.trans a3
  ·exact Ab g4 (show _≤16*i+2+14 from Bk (Cg a4 2) k3)
  ·exact fun x=>Ab (g5 x) (show _≤14*i+14 from Bk (a5 x) k3)
 ·rintro σ ⟨H',o2,o3,rfl,a1,a2,a3,a4,a5⟩
  rw [Hc,CO] at a1 a3 a4 a5
  dsimp only [vS0,retv]
  have hl7:(doms rk).length≤7:=by unfold doms; rw [Ae]; exact hz
  refine ⟨a1.um (u:=.prep) rfl,4,by decide,Td (c:=b+3) a1 a3 (by exact Ak _) (fun l hl=>(a2 l (AG (AA (AA hl))) (AG (AA hl)) (AG hl)).trans (hf l (EF hl))) (L:=98) (fun x=>Ab (a5 x) (CL 14 hl7)) (by decide) hsu fun H3 s3 o3 f3=>?_⟩
  exact q H3 s3 (fun l hl=>(o3 l (An hl (A3 ..)) (AE hl) (AE (AQ hl)) (AE (AQ (AQ hl)))).trans (below a2 l hl)) f3
end
end
section
open Builtin Builtin.Str
theorem KC {H:Hp} {a b:Lb} {x y:AO} (h:a≠b):up (up H a x) b y=up (up H b y) a x:=by
 funext z; unfold up
 by_cases e:z=a
 ·subst e; rw [if_neg h,if_pos rfl,if_pos rfl]
 ·rw [if_neg e,if_neg e]
noncomputable def plc (key:Int):Int:=15 - key.fmod 16
noncomputable def rstep (s:List Int×List Int) (key:Int):List Int×List Int:=if s.1=[]∨plc key>s.1.getLastD 0 then (s.1++[plc key],s.2) else (s.1,s.2++[key])
noncomputable def recs (ds:List Int):List Int×List Int:=ds.foldl rstep ([],[])
theorem OC (ds:List Int):∀ (s:List Int×List Int),(ds.foldl rstep s).1.length≤s.1.length+ds.length∧(ds.foldl rstep s).2.length≤s.2.length+ds.length:=by
 induction ds with
 | nil=>exact fun s=>⟨Ak _,Ak _⟩
 | cons d ds ih =>
  intro s
  obtain ⟨a,b⟩:=ih (rstep s d)
  have h1:(rstep s d).1.length≤s.1.length+1∧(rstep s d).2.length≤s.2.length+1:=by unfold rstep; split<;>simp
  rw [AW]
  exact ⟨Ab a (by lia),Ab b (by lia)⟩
section
variable {B:Bx} {N:Nat} {l:Lb} {H:Hp} {Q:AV->Hp->Prop}
theorem J1 {xs:List Int} (hl:H l=some (.list (nts xs))) (hb:l.1<N) (hf:Free N H) (hz:xs.length≤1000)
  (q:∀ (ds:List Int) H',ds.Perm xs->ds.Pairwise (· ≤ ·)->H' (N,0)=some (.list (nts (recs ds).1))->H' (N,2)=some (.list (nts (recs ds).2.reverse))->(∀ l':Lb,l'.1<N->l'≠l->H' l'=H l')->Free (N+1) H'->Q (.tup [.ref (N,0),.ref (N,2)]) H'):WC (gg B) 8 (.ref 376) [.ref l] H Q:=by
 refine (Ni B).wc (ab:=[(_,_)]) (WBind.of1 (by intro v1; kernel_rfl)) rfl ?_
 dsimp only [vS1,vT]
 have hzb:xs.length≤big:=Ab hz (by decide)
 have nl:∀ {x:Int},l≠(N,x):=fun {x} e=>by rw [e] at hb; exact Cm _ hb
 have n10:((N,1):Lb)≠(N,0):=nn (by decide)
 have n20:((N,2):Lb)≠(N,0):=nn (by decide)
 have n21:((N,2):Lb)≠(N,1):=nn (by decide)
 have f0:∀ x,H (N,x)=none:=fun x=>hf _ (Ak _)
 obtain ⟨hh,hp⟩:=N1 (xs.length / 2) xs (by lia) (JS xs)
 refine ⟨6,by decide,N3 hl hzb ?_⟩
 refine ⟨rfl,.inr ⟨(N,0),(Ha _ _ nl.symm).trans (f0 _),rfl,.inr ⟨(N,1),(Ha _ _ n10).trans ((Ha _ _ nl.symm).trans (f0 _)),?_⟩⟩⟩
 refine ⟨fun n σ=>Ex4 fun (ys ds:List Int) (o3 o4:Option AV)=>An6 (σ=⟨[some (.ref l),some (.ref (N,0)),some (.ref (N,1)),o3,o4],up (up (up H l (.list (nts ys))) (N,0) (.list (nts (recs ds).1))) (N,1) (.list (nts (recs ds).2))⟩) (ys.length=n) (HeapFrom 0 ys) ((ds++ys).Perm xs) (ds.Pairwise (· ≤ ·)) (∀ d∈ds,∀ y∈ys,d≤y),_,
  ⟨hfy (xs.length / 2) xs,[],none,none,rfl,rfl,hh,hp,.nil,nofun⟩,?_⟩
 rintro n σ ⟨ys,ds,o3,o4,rfl,rfl,h1,h2,h3,h4⟩
 have hlen:=h2.length_eq
 rw [A6] at hlen
 have hyz:ys.length≤big:=by lia
 obtain ⟨r1,r2⟩:=OC ds ([],[])
 have r1:(recs ds).1.length≤big:=Ab r1 (by simp; lia)
 have r2:(recs ds).2.length≤big:=Ab r2 (by simp; lia)
 have eL:up (up (up H l (.list (nts ys))) (N,0) (.list (nts (recs ds).1))) (N,1) (.list (nts (recs ds).2)) l=some (.list (nts ys)):=(Ha _ _ nl).trans ((Ha _ _ nl).trans (Hb ..))
 dsimp only [vS1,vT]
 refine Ul (xs:=ys) eL hyz ⟨fun ht=>?_,fun hf'=>?_⟩
 ·have hne:ys≠[]:=by cases ys<;>simp_all
  obtain ⟨p1,p2,p3⟩:=Pg hne h1
  refine ⟨6,by decide,N2 (xs:=ys) eL hyz hne ⟨by decide,?_⟩⟩
  generalize hk:(hpop ys).1=key at p2 p3
  generalize hr:(hpop ys).2=rest at p1 p2
  have comm:up (up (up (up H l (.list (nts ys))) (N,0) (.list (nts (recs ds).1))) (N,1) (.list (nts (recs ds).2))) l (.list (nts rest))=up (up (up H l (.list (nts rest))) (N,0) (.list (nts (recs ds).1))) (N,1) (.list (nts (recs ds).2)):=by
   rw [KC (a:=(N,1)) nl.symm,KC (a:=(N,0)) nl.symm,HC]
  rw [comm]
  have hds:recs (ds++[key])=rstep (recs ds) key:=by unfold recs; rw [List.foldl_append]; rfl
  have e1:up (up (up H l (.list (nts rest))) (N,0) (.list (nts (recs ds).1))) (N,1) (.list (nts (recs ds).2)) (N,0)=some (.list (nts (recs ds).1)):=(Ha _ _ n10.symm).trans (Hb ..)
  have e2:up (up (up H l (.list (nts rest))) (N,0) (.list (nts (recs ds).1))) (N,1) (.list (nts (recs ds).2)) (N,1)=some (.list (nts (recs ds).2)):=Hb ..
  have i1:rest.length<ys.length:=by have:=p2.length_eq; rw [AW] at this; lia
  have i2:(ds++[key]++rest).Perm xs:=by rw [De]; exact (FL ds p2).trans h2
  have hkm:key∈ys:=p2.mem_iff.mp (.head _)
  have i3:(ds++[key]).Pairwise (· ≤ ·):=Bj.mpr ⟨h3,Ey ..,fun d hd y hy=>by rw [Al.mp hy]; exact h4 d hd key hkm⟩
  have i4:∀ d∈ds++[key],∀ y∈rest,d≤y:=fun d hd y hy=>by
   have hy':y∈ys:=p2.mem_iff.mp (.tail _ hy)
   rcases Aj.mp hd with hd | hd
   ·exact h4 d hd y hy'
   ·rw [Al.mp hd]; exact p3 y hy'
  have yes:(recs ds).1=[]∨plc key>(recs ds).1.getLastD 0->mtP .lappend (.ref (N,0)) ⟨[some (.ref l),some (.ref (N,0)),some (.ref (N,1)),some (.int key),some (.int (plc key))],up (up (up H l (.list (nts rest))) (N,0) (.list (nts (recs ds).1))) (N,1) (.list (nts (recs ds).2))⟩∧mcallP B 6 .lappend [.ref (N,0),.int (plc key)] ⟨[some (.ref l),some (.ref (N,0)),some (.ref (N,1)),some (.int key),some (.int (plc key))],up (up (up H l (.list (nts rest))) (N,0) (.list (nts (recs ds).1))) (N,1) (.list (nts (recs ds).2))⟩ fun _ σ1=>∃ m,m<ys.length∧Ex4 fun (ys ds:List Int) (o3 o4:Option AV)=>An6 (σ1=⟨[some (.ref l),some (.ref (N,0)),some (.ref (N,1)),o3,o4],up (up (up H l (.list (nts ys))) (N,0) (.list (nts (recs ds).1))) (N,1) (.list (nts (recs ds).2))⟩) (ys.length=m) (HeapFrom 0 ys) ((ds++ys).Perm xs) (ds.Pairwise (· ≤ ·)) (∀ d∈ds,∀ y∈ys,d≤y):=fun hc=>by
   refine ⟨.inl ⟨_,.inr ⟨_,rfl,e1⟩⟩,.inl ⟨_,e1,by rwa [Hc],rest.length,i1,rest,ds++[key],some (.int key),some (.int (plc key)),?_,rfl,p1,i2,i3,i4⟩⟩
   rw [hds,show rstep (recs ds) key=((recs ds).1++[plc key],(recs ds).2) from if_pos hc]
   rw [KC n10,HC]
   rw [show nts ((recs ds).1++[plc key])=nts (recs ds).1++[.int (plc key)] from Ar]
  refine ⟨rfl,.inl (.inl ⟨(recs ds).1,[],.inr ⟨_,rfl,e1⟩,.inl rfl,fun hf1=>?_,fun ht1=>⟨fun _=>yes (.inl (of_decide_eq_true ht1)),nofun⟩⟩)⟩
  have hc1:(recs ds).1≠[]:=of_decide_eq_false hf1
  have hlast:(recs ds).1[(recs ds).1.length - 1]?=some ((recs ds).1.getLastD 0):=by
   rw [← Dm,CP hc1,BY,CP hc1]; rfl
  have hpos:0<(recs ds).1.length:=CF.mpr hc1
  refine .inl ⟨nts (recs ds).1,.int ((recs ds).1.getLastD 0),e1,⟨by rwa [Hc],.inr ⟨by decide,by rw [Hc]; lia,?_⟩⟩,fun ht2=>yes (.inr (of_decide_eq_true ht2)),fun hf2=>?_⟩
  ·rw [Hc,show ((-1:Int)+((recs ds).1.length:Int)).toNat=(recs ds).1.length - 1 from Jb _]
   exact Iy hlast
  ·have hc:¬((recs ds).1=[]∨plc key>(recs ds).1.getLastD 0):=fun h=>h.elim hc1 fun h=>absurd h (of_decide_eq_false hf2)
   refine ⟨.inl ⟨_,.inr ⟨_,rfl,e2⟩⟩,.inl ⟨_,e2,by rwa [Hc],rest.length,i1,rest,ds++[key],some (.int key),some (.int (plc key)),?_,rfl,p1,i2,i3,i4⟩⟩
   rw [hds,show rstep (recs ds) key=((recs ds).1,(recs ds).2++[key]) from if_neg hc,HC]
   rw [show nts ((recs ds).2++[key])=nts (recs ds).2++[.int key] from Ar]
   rfl
 ·have hye:ys=[]:=by cases ys<;>simp_all
  subst hye
  rw [AL] at h2
  (refine sqN ?_; dsimp only [vS1,vT])
  refine ⟨nofun,.inl ⟨_,Hb ..,by rwa [Hc],.inr ⟨(N,2),(Ha _ _ n21).trans ((Ha _ _ n20).trans ((Ha _ _ nl.symm).trans (f0 _))),rfl,?_⟩⟩⟩
  rw [show pickL (nts (recs ds).2) none none (some (-1))=nts (recs ds).2.reverse from (MK _).trans (List.map_reverse ..).symm]
  refine q ds _ h2 h3 ((Ha _ _ n20.symm).trans ((Ha _ _ n10.symm).trans (Hb ..))) (Hb ..) (fun l' h1' h2'=>?_) fun l' h1'=>?_
  ·have n:∀ x,l'≠(N,x):=fun x e=>by rw [e] at h1'; exact Cm _ h1'
   exact (Ha _ _ (n _)).trans ((Ha _ _ (n _)).trans ((Ha _ _ (n _)).trans (Ha _ _ h2')))
  ·have n:∀ x,l'≠(N,x):=fun x e=>by rw [e] at h1'; exact GN _ h1'
   have n':l'≠l:=fun e=>by rw [e] at h1'; lia
   exact (Ha _ _ (n _)).trans ((Ha _ _ (n _)).trans ((Ha _ _ (n _)).trans ((Ha _ _ n').trans (hf l' (Nat.le_of_succ_le h1')))))
end
end
section
open Builtin Builtin.Str
noncomputable abbrev stems:List (List Nat):=[[59,97],[44,98],[32,99],[9,100],[59,101],[44,102],[32,103],[9,104]]
noncomputable def endsL (ms:List Ch):List (List Nat):=ms.map (·.1)++[[]]
noncomputable def whitesL (ms:List Ch):List (List Nat):=[[]]++ms.map (·.2)
noncomputable def chunkAt (ms:List Ch) (k:Nat):Ch:=((whitesL ms).getD k [],stems.getD k []++(endsL ms).getD k [])
noncomputable def mkCh (ms:List Ch):List Ch:=(A5 8).map (chunkAt ms)
noncomputable def fstF (v:AV):Option AV:=match v with
 | .tup [a,_]=>some a
 | _=>none
noncomputable def sndF (v:AV):Option AV:=match v with
 | .tup [_,b]=>some b
 | _=>none
theorem RH (ms:List Ch):(prs ms).filterMap fstF=sts (ms.map (·.1)):=by
 unfold prs sts
 rw [AP,AU]
 induction ms with
 | nil=>rfl
 | cons m ms ih=>rw [Ct,AM,← ih]; rfl
theorem Q7 (ms:List Ch):(prs ms).filterMap sndF=sts (ms.map (·.2)):=by
 unfold prs sts
 rw [AP,AU]
 induction ms with
 | nil=>rfl
 | cons m ms ih=>rw [Ct,AM,← ih]; rfl
theorem Hi {α β:Type} {f:α->Option β} {g:α->β} {l:List α} (h:∀ x∈l,f x=some (g x)):l.filterMap f=l.map g:=by
 induction l with
 | nil=>rfl
 | cons a l ih=>rw [Ct,h a (.head _),AM,ih fun x hx=>h x (.tail _ hx)]
theorem Kn {xs:List (List Nat)} (hz:xs.length≤1000) {k:Nat} (hk:k<xs.length):itemL (sts xs) (k:Nat) (.str (S (xs.getD k []))) :=
 ⟨by unfold sts; rw [Ae]; exact Ab hz (by decide),.inl ⟨by exact A7 _,by unfold sts; rw [Aw,Ai,Af,Ac hk]; rfl⟩⟩
section
variable {B:Bx} {H:Hp} {Q:AV->Hp->Prop}
noncomputable def chF (ms:List Ch) (v:AV):Option AV:=match v with
 | .int k=>some (.tup [.str (S (chunkAt ms k.toNat).1),.str (S (chunkAt ms k.toNat).2)])
 | _=>none
theorem MOk.len {m:Ch} (h:MOk m):m.1.length≤1∧m.2.length≤2:=by
 obtain ⟨h1,h2⟩:=h
 exact ⟨by rcases h1 with h | h | h<;>(rw [h]; decide),by rcases h2 with h | h | h | h<;>(rw [h]; decide)⟩
theorem Km {ms:List Ch} (hz:ms.length=7) (hm:∀ m∈ms,MOk m) (q:Q (.lst (prs (mkCh ms))) H):WC (gg B) 2 (.ref 359) [.lst (prs ms)] H Q:=by
 refine (Pb B).wc (ab:=[(_,_)]) (WBind.of1 (by intro v1; kernel_rfl)) rfl ?_
 dsimp only [retv]
 have bg:∀ n,n≤1000->n≤big:=fun n hn=>Ab hn (by decide)
 have hpz:(prs ms).length≤big:=by rw [Hd]; exact bg _ (Ab (A1 hz) (by decide))
 refine ⟨rfl,.inl ⟨hpz,fstF,fun x hx=>?_,.inl ⟨rfl,.inl ?_⟩⟩⟩
 ·obtain ⟨m,_,rfl⟩:=As.mp hx
  exact ⟨rfl,fun _=>⟨rfl,rfl⟩,nofun⟩
 rw [RH]
 have e1:sts (ms.map (·.1))++[AV.str (S [])]=sts (endsL ms):=by unfold endsL sts; rw [Ar]; rfl
 have e2:[AV.str (S [])]++sts (ms.map (·.2))=sts (whitesL ms):=by unfold whitesL sts; rw [Ar]; rfl
 have l1:(endsL ms).length=8:=by unfold endsL; simp [hz]
 have l2:(whitesL ms).length=8:=by unfold whitesL; simp [hz]
 refine ⟨_,_,.inl rfl,.inl rfl,by unfold sts; simp [hz]; decide,.inl ?_⟩
 rw [e1]
 refine ⟨rfl,.inl ⟨hpz,sndF,fun x hx=>?_,.inl ?_⟩⟩
 ·obtain ⟨m,_,rfl⟩:=As.mp hx
  exact ⟨rfl,fun _=>⟨rfl,rfl⟩,nofun⟩
 rw [Q7]
 refine ⟨_,_,.inl rfl,.inl rfl,by unfold sts; simp [hz]; decide,.inl ?_⟩
 rw [e2]
 refine ⟨by unfold sts; rw [Ae]; exact bg _ (Ab (A1 l1) (by decide)),by unfold sts; rw [Ae,l1]; decide,?_⟩
 rw [show (sts (endsL ms)).length=8 from by unfold sts; rw [Ae,l1],show ((8:Nat):Int)=((8:Nat):Int) from rfl,Io]
 refine ⟨by decide,chF ms,fun x hx=>?_,.inl ?_⟩
 ·obtain ⟨k,hk,rfl⟩:=As.mp hx
  have hk:=BB.mp hk
  refine ⟨rfl,fun _=>?_,nofun⟩
  refine ⟨_,Kn (xs:=whitesL ms) (Ab (A1 l2) (by decide)) (AJ hk l2.symm),_,Kn (xs:=stems) (by decide) (k:=k) hk,_,Kn (xs:=endsL ms) (Ab (A1 l1) (by decide)) (AJ hk l1.symm),?_⟩
  refine ⟨?_,rfl,rfl,rfl⟩
  rw [HZ,HZ]
  have h1:((stems).getD k []).length≤2:=by
   rw [Af,Ac (show k<stems.length from hk)]
   exact (show ∀ s∈stems,s.length≤2 by decide) _ (Bo _)
  have h2:((endsL ms).getD k []).length≤1:=by
   rw [Af,Ac (AJ hk l1.symm)]
   have:=Bo (AJ hk l1.symm)
   unfold endsL at this ⊢
   rcases Aj.mp this with h | h
   ·obtain ⟨m,hmm,e⟩:=As.mp h
    exact e▸(hm m hmm).len.1
   ·rw [Al.mp h]; decide
  exact bg _ (Ab (Bk h1 h2) (by decide))
 ·have:((A5 8).map fun i=>AV.int (i:Nat)).filterMap (chF ms)=prs (mkCh ms):=by
   unfold prs mkCh
   rw [AP,AU]
   exact Hi fun k _=>rfl
  rw [this]
  exact q
end
end
section
open Builtin Builtin.Str
theorem MI (n:Nat) (h:1≤n):rangeL 1 n 1=(A5 (n - 1)).map fun i=>.int ((i+1:Nat):Int):=by
 unfold rangeL
 have e:(A9 1 n 1).toNat=n - 1:=by
  unfold A9
  rw [if_pos (by decide)]
  by_cases h:(1:Int)<n
  ·rw [if_pos h,EO,Fq]; exact Fp n 1
  ·rw [if_neg h]; exact (GA (Be.mp (BE.mp h))).symm
 rw [e]
 refine Cq fun i _=>?_
 show AV.int _=AV.int _
 exact congrArg AV.int (by rw [Int.mul_one]; exact F3 ..)
noncomputable abbrev nns (l:List Nat):List AV:=nts (l.map fun (n:Nat)=>(n:Int))
noncomputable def bnds (cuts:List Nat) (n:Nat):List Nat:=0::(cuts++[n])
noncomputable def rowAt (ts:List (List Nat)) (bd:List Nat) (k:Nat):List Nat:=((ts.drop (bd.getD k 0)).take (bd.getD (k+1) 0 - bd.getD k 0)).flatten
noncomputable def rowsF (ts:List (List Nat)) (bd:List Nat):List (List Nat):=(A5 (bd.length - 1)).map (rowAt ts bd)
noncomputable def parted (cs:List Ch) (cuts:List Nat):List (List Nat):=(rowsF (txts cs) (bnds cuts (txts cs).length)).dropLast++[(rowsF (txts cs) (bnds cuts (txts cs).length)).getLastD []++Az ((txts cs).flatten.length+1) 122]
noncomputable def txF (v:AV):Option AV:=match v with
 | .tup [.str a,.str b]=>some (.str (S (cp a++cp b)))
 | _=>none
theorem Sw (cs:List Ch):(prs cs).filterMap txF=sts (txts cs):=by
 unfold prs sts txts
 rw [AP,AU]
 exact Hi fun p _=>rfl
theorem KJ:∀ (ts:List (List Nat)) (a b:Nat),((((ts.drop a).take b).map AH).sum)≤(ts.map AH).sum:=fun ts a b=>by
 rw [Ci,Dd]
 refine Ab (JB ..) ?_
 have:=congrArg List.sum (Cw a (ts.map AH))
 rw [C9] at this; exact Ab (CC ..) (A1 this)
theorem getI {xs:List Nat} (hz:xs.length≤1000) {k:Nat} (hk:k<xs.length) {z:Int} (e:z=k):itemL (nns xs) z (.int (xs.getD k 0:Nat)) :=
 ⟨by rw [Hc,Ae]; exact Ab hz (by decide),.inl ⟨by rw [e]; exact A7 _,Iy (by rw [e,Aw,Ai,Af,Ac hk]; rfl)⟩⟩
section
variable {B:Bx} {H:Hp} {Q:AV->Hp->Prop}
noncomputable def rowF (ts:List (List Nat)) (bd:List Nat) (v:AV):Option AV:=match v with
 | .int k=>some (.str (S (rowAt ts bd (k.toNat - 1))))
 | _=>none
theorem MD (ts:List (List Nat)) (bd:List Nat) (k:Nat):rowF ts bd (.int ((k+1:Nat):Int))=some (.str (S (rowAt ts bd k))):=by
 have:((k+1:Nat):Int).toNat - 1=k:=by rw [Aw]; rfl
 unfold rowF; dsimp only; rw [this]
theorem Nj {cs:List Ch} {cuts:List Nat} {cv:AV} (F:Fit cs) (hF:cs.length≤100) (hcz:cuts.length≤100) (hc:∀ loc,isL ⟨loc,H⟩ cv (nns cuts)) (hs:(bnds cuts cs.length).Pairwise (· ≤ ·)) (hsum:((txts cs).map AH).sum≤1000)
  (q:Q (.lst (sts (parted cs cuts))) H):WC (gg B) 2 (.ref 369) [.lst (prs cs),cv] H Q:=by
 refine (OY B).wc (ab:=[(_,_),(_,_)]) (WBind.of2 (by intro v1 v2; kernel_rfl)) rfl ?_
 dsimp only [retv]
 have bg:∀ n,n≤10000->n≤big:=fun n hn=>Ab hn (by decide)
 refine ⟨by rw [Hd]; exact bg _ (by exact Ab (by assumption) (by decide)),txF,fun x hx=>?_,.inl ?_⟩
 ·obtain ⟨m,hm,rfl⟩:=As.mp hx
  exact ⟨rfl,fun _=>⟨by rw [HZ,HZ]; exact F.p m hm,rfl,rfl⟩,nofun⟩
 rw [Sw]
 have htl:(txts cs).length=cs.length:=Ae ..
 have lst:∀ x:List (List Nat),(sts x).length=x.length:=fun x=>Ae ..
 unfold parted at q
 generalize txts cs=ts at q htl hsum
 have htz:ts.length≤10000:=Ab (A1 htl) (Ab hF (by decide))
 refine ⟨rfl,.inl ⟨[.int 0],nns cuts,.inl rfl,hc _,by rw [Hc,Ae,C1]; exact bg _ (Ab (AS hcz 1) (by decide)),.inl ⟨by rw [lst]; exact bg _ htz,rfl,.inl ⟨_,_,.inl rfl,.inl rfl,by rw [A6,Hc,Ae,C1,C1]; exact bg _ (Ab (AB (AS hcz 1)) (by decide)),.inl ?_⟩⟩⟩⟩
 have eb:[AV.int 0]++nns cuts++[AV.int ((sts ts).length:Nat)]=nns (bnds cuts ts.length):=by
  rw [lst]; unfold bnds nns nts; rw [AM,AM,Ar,Ar]; rfl
 rw [eb]
 have hbl:(bnds cuts ts.length).length=cuts.length+2:=by unfold bnds; simp
 rw [← htl] at hs
 have hlast:∀ k,k<cuts.length+2->(bnds cuts ts.length).getD k 0≤ts.length:=fun k hk=>by
  have h1:(bnds cuts ts.length).getD (cuts.length+1) 0=ts.length:=by unfold bnds; rw [Af]; simp
  have hp:=Ee.mp hs
  have hkl:=AJ hk hbl.symm
  have hcl:cuts.length+1<_:=AJ (AY _) hbl.symm
  rcases GB k (cuts.length+1) with h | h
  ·have:=hp k (cuts.length+1) hkl hcl h
   rw [Af,Ac hcl] at h1
   rw [Af,Ac hkl]
   exact Ab this (A1 h1)
  ·rw [FJ (B2 hk) h,h1]; exact Ak _
 have hmon:∀ k,k+1<cuts.length+2->(bnds cuts ts.length).getD k 0≤(bnds cuts ts.length).getD (k+1) 0:=fun k hk=>by
  have hp:=Ee.mp hs
  have hk1:=AJ hk hbl.symm
  rw [Af,Af,Ac (AA hk1),Ac hk1]
  exact hp k (k+1) _ _ (AY k)
 generalize bnds cuts ts.length=bd at q hbl hlast hmon
 have hb10:bd.length≤1000:=Ab (A1 hbl) (Ab (Cg hcz 2) (by decide))
 have hbz:=Ab hb10 (by decide:1000≤10000)
 refine ⟨by rw [Hc,Ae]; exact bg _ hbz,by rw [Hc,Ae]; exact small_one (by decide) (by decide) (by exact A7 _) (C4 (Be.mpr hb10) (by decide)),?_⟩
 rw [Hc,Ae,MI _ (Ab (AB (A4 _)) (A1 hbl.symm))]
 refine ⟨by rw [Ae,AN]; exact bg _ (Ab (Bp ..) hbz),rowF ts bd,fun x hx=>?_,.inl ?_⟩
 ·obtain ⟨k,hk,rfl⟩:=As.mp hx
  have hk:=BB.mp hk
  have hk1:k+1<bd.length:=GO hk
  have h1:=hlast (k+1) (AJ hk1 hbl)
  have h2:=hmon k (AJ hk1 hbl)
  refine ⟨rfl,fun _=>⟨trivial,?_⟩,nofun⟩
  refine ⟨_,getI hb10 (AA hk1) (D6 (k:Int) 1),_,getI hb10 hk1 rfl,nofun,by rw [lst]; exact bg _ htz,.inl ?_⟩
  have e:pickL (sts ts) (some ((bd.getD k 0:Nat):Int)) (some ((bd.getD (k+1) 0:Nat):Int)) none=sts ((ts.drop (bd.getD k 0)).take (bd.getD (k+1) 0 - bd.getD k 0)):=by
   rw [ML _ _ _ (by rw [lst]; exact h1) h2]; unfold sts; rw [Ci,Dd]
  refine ⟨rfl,_,.inl (.inl (congrArg AV.lst e)),Ab (KJ ..) (bg _ (Ab hsum (by decide))),rfl,?_⟩
  exact MD ts bd k
 ·have e:((A5 (bd.length - 1)).map fun i=>AV.int ((i+1:Nat):Int)).filterMap (rowF ts bd)=sts (rowsF ts bd):=by
   unfold sts rowsF
   rw [AP,AU]
   exact Hi fun k _=>MD ts bd k
  rw [e]
  have hrl:(rowsF ts bd).length=bd.length - 1:=by unfold rowsF; rw [Ae,AN]
  have hne:rowsF ts bd≠[]:=fun e=>absurd (hrl.symm.trans (congrArg AH e)) (by rw [hbl]; exact F6 _)
  have hrp:=CF.mpr hne
  have hrz:=Ab (A1 hrl) (Ab (Bp ..) hbz)
  have hfl:ts.flatten.length≤1000:=by rw [CG]; exact hsum
  have hll:((rowsF ts bd).getLastD []).length≤1000:=by
   rw [BY,CP hne]
   have:=List.getLast_mem hne
   obtain ⟨k,_,e⟩:=As.mp this
   rw [Di,← e]
   unfold rowAt; rw [CG]; exact Ab (KJ ..) hsum
  refine ⟨nofun,by rw [lst]; exact bg _ hrz,.inl ?_⟩
  rw [show pickL (sts (rowsF ts bd)) none (some (-1)) none=sts (rowsF ts bd).dropLast from (JK _).trans (Ek ..).symm]
  refine ⟨.str (S ((rowsF ts bd).getLastD [])),⟨by rw [lst]; exact bg _ hrz,.inr ⟨by decide,by rw [lst]; exact FZ (Be.mpr hrp),?_⟩⟩,?_⟩
  ·rw [lst,show ((-1:Int)+((rowsF ts bd).length:Int)).toNat=(rowsF ts bd).length - 1 from Jb _]
   unfold sts
   rw [Ai,← Dm,BY,CP hne]; rfl
  refine ⟨trivial,rfl,ts,.inl (.inl rfl),bg _ (Ab hsum (by decide)),bg _ (Ab hfl (by decide)),?_⟩
  refine ⟨122,ts.flatten.length+1,rfl,by rw [HZ]; rfl,AB (A4 _),bg _ (by exact Ag (by assumption) (by decide)),?_,rfl,.inl ?_⟩
  ·rw [HZ,HZ,C2]; exact bg _ (Ab (Bk hll (AB hfl)) (by decide))
  ·refine ⟨_,_,.inl rfl,.inl rfl,by rw [lst,GD,C1,Cc hrp]; exact bg _ hrz,.inl ?_⟩
   rw [HZ,HZ]
   have:sts (rowsF ts bd).dropLast++[AV.str (S ((rowsF ts bd).getLastD []++Az (ts.flatten.length+1) 122))]=sts ((rowsF ts bd).dropLast++[(rowsF ts bd).getLastD []++Az (ts.flatten.length+1) 122]):=by unfold sts; rw [Ar]; rfl
   rw [this]; exact q
end
end
section
open Builtin Builtin.Str
noncomputable def stepC (sp:List Nat) (mx:Int) (s:List (List Nat)×List Ch) (p:Ch):List (List Nat)×List Ch:=if (lens (s.2++[p])).sum≤mx then (s.1,s.2++[p]) else match findCut sp (s.2++[p]) with
 | some i=>(s.1++[(txts ((s.2++[p]).take i)).flatten],(s.2++[p]).drop i)
 | none=>(s.1,s.2++[p])
noncomputable def feed (size:Nat):Nat->Ch
 | 0=>([],Az (size+1) 122)
 | _+1=>([],[])
noncomputable def lenF (v:AV):Option AV:=match v with
 | .tup [.str a,.str b]=>some (.int ((cp a).length+(cp b).length))
 | _=>none
theorem Ro (cs:List Ch):(prs cs).filterMap lenF=nts (lens cs):=by
 unfold prs nts lens
 rw [AP,AU]
 exact Hi fun p _=>rfl
noncomputable def minF (many:Nat) (v:AV):Option AV:=match v with
 | .int k=>some (.int (if (many:Int)<k+1 then many else k+1))
 | _=>none
section
variable {B:Bx} {v N:Nat} {mx:Int} {sp:List Nat} {H:Hp} {Q:AV->Hp->Prop}
theorem J5 {s:List (List Nat)×List Ch} {a b:List Nat} (h:Vf v mx sp s.1 s.2 H) (F:Fit (s.2++[(a,b)])) (hl:s.1.length<big) (q:∀ H',Vf v mx sp (stepC sp mx s (a,b)).1 (stepC sp mx s (a,b)).2 H'->Only v H H'->Q .none H') :
  WC (gg B) 8 (.ref 211) [.ref (v,0),.str (S a),.str (S b)] H Q:=by
 delta stepC at q
 refine RY h rfl F hl (fun hle H' v1 o1=>?_) (fun hgt i hi H' v1 o1=>?_) fun hgt hi H' v1 o1=>?_
 ·rw [if_pos hle] at q; exact q H' v1 o1
 ·rw [if_neg (DB.mpr hgt),hi] at q; exact q H' v1 o1
 ·rw [if_neg (DB.mpr hgt),hi] at q; exact q H' v1 o1
theorem Uh {s:List (List Nat)×List Ch} (h:Vf v mx sp s.1 s.2 H) {u:Um} (hu:u.cls=some 214) {loc:List (Option AV)}:umP u (.ref (v,0)) ⟨loc,H⟩:=by
 unfold umP; rw [hu]
 refine ⟨_,_,_,rfl,h.i,h.a,?_⟩
 show u.nm∉[At.maxlen.nm,At.cws.nm,At.cwslen.nm,At.splits.nm,At.lines.nm,At.cur.nm]
 cases u<;>first | (cases hu; done) | decide +kernel
theorem Pr {size many j:Nat} {x:AV} (h:([AV.str (S (Az (size+1) 122))]++(Az many [AV.str (S [])]).flatten)[j]?=some x):j≤many∧x=.str (S (feed size j).2):=by
 have hl:∀ n,(Az n [AV.str (S [])]).flatten=Az n (AV.str (S [])):=fun n=>by
  induction n with
  | zero=>rfl
  | succ n ih=>rw [Ds,D9,ih]; rfl
 rw [hl] at h
 cases j with
 | zero=>cases h; exact ⟨A4 _,rfl⟩
 | succ j =>
  rw [Gz,Cj] at h
  obtain ⟨h1,h2⟩:=Am.mp h
  rw [C2] at h1
  rw [Gv] at h2
  exact ⟨h1,h2.symm⟩
theorem Nn {cs:List Ch} {o:List Nat} {many size:Nat} (hf:Free N H) (F:Fit cs) (hcz:cs.length≤100) (hsz:(lens cs).sum=size) (hs:size≤1000) (hmz:many≤100) {T:Nat->List (List Nat)×List Ch} (h0:T 0=([],cs)) (hT:∀ j,j≤many->T (j+1)=stepC o size (T j) (feed size j))
  (hFit:∀ j,j≤many->Fit ((T j).2++[feed size j])) (hlen:∀ j,j≤many->(T (j+1)).1.length=min (j+1) many) {ys:List Ch} {a b:List Nat} (hend:(T (many+1)).2=ys++[(a,b)]) (F2:Fit (ys++[(a,b)])) (hab:[a,b]≠[[32],[]]) (ha:plainT a) (hb:plainT b) (hpos:(lens (ys++[(a,b)])).sum>0) (hw:C5 (S (txts (ys++[(a,b)])).flatten)=false)
  (q:∀ H',H' (N,2)=some (.list (sts ((T (many+1)).1++[(txts (ys++[(a,b)])).flatten])))->(∀ l:Lb,l.1≠N->l.1≠N+1->H' l=H l)->Q (.ref (N,2)) H'):WC (gg B) 12 (.ref 364) [.lst (prs cs),.str (S o),.int many] H Q:=by
 refine (Pa B).wc (ab:=[(_,_),(_,_),(_,_)]) (WBind.of3 (by intro v1 v2 v3; kernel_rfl)) rfl ?_
 dsimp only [vS0,vG,retv]
 have bg:∀ n,n≤10000->n≤big:=fun n hn=>Ab hn (by decide)
 have f0:∀ x,H (N,x)=none:=fun x=>hf _ (Ak _)
 refine ⟨by rw [Hd]; exact bg _ (by exact Ab (by assumption) (by decide)),lenF,fun x hx=>?_,.inl ⟨lens cs,.inl (congrArg AV.lst (Ro cs)),?_⟩⟩
 ·obtain ⟨m,hm,rfl⟩:=As.mp hx
  have:=F.p m hm
  refine ⟨rfl,fun _=>⟨by rw [HZ]; exact Ab (A3 ..) this,by rw [HZ]; exact Ab (CC ..) this,rfl,rfl⟩,nofun⟩
 rw [hsz]
 have n01':((N,0):Lb)≠(N,1):=nn (by decide)
 refine ⟨(N,0),(N,1),5,f0 _,f0 _,n01',by decide,Os (Hb ..) ((Ha _ _ n01'.symm).trans (Hb ..)) ((Ha _ _ (nn (by decide))).trans ((Ha _ _ (nn (by decide))).trans (f0 _))) ((Ha _ _ (nn (by decide))).trans ((Ha _ _ (nn (by decide))).trans (f0 _))) ((Ha _ _ (nn (by decide))).trans ((Ha _ _ (nn (by decide))).trans (f0 _))) fun H1 v1 o1=>⟨rfl,?_⟩⟩
 have o1':Only N H H1:=fun l hl=>(o1 l hl).trans ((Only.refl N H).up.up l hl)
 have rd:∀ {H':Hp},Only N H H'->H' (N+1,0)=none:=fun o=>(o _ (E8 N)).trans (hf _ (BP N))
 refine ⟨fun i σ=>Ex3 fun (H':Hp) (o3 o4:Option AV)=>An3 (σ=⟨[some (.lst (prs cs)),some (.str (S o)),some (.int many),o3,o4,some (.int size),some (.ref (N,0)),none],H'⟩) (Vf N size o [] (cs.take i) H') (Only N H H'),⟨H1,none,none,rfl,v1,o1'⟩,fun _ _ _=>trivial,?_,?_⟩
 ·rintro i x σ hx ⟨H',o3,o4,rfl,a1,a2⟩
  unfold prs at hx
  rw [Ai] at hx
  obtain ⟨p,hp,rfl⟩:=Ao.mp hx
  have e:cs.take i++[p]=cs.take (i+1):=by rw [Ft,hp]; rfl
  dsimp only [pairP]
  dsimp only [vS0,vG,retv]
  refine ⟨Uh (s:=([],cs.take i)) (u:=.chunk) a1 rfl,8,by decide,J5 (s:=([],cs.take i)) (a:=p.1) (b:=p.2) a1 (by show Fit (cs.take i++[p]); rw [e]; exact F.take _) (by show 0<big; decide) fun H2 v2 o2=>⟨H2,_,_,rfl,?_,fun l hl=>(o2 l hl).trans (a2 l hl)⟩⟩
  have hle:(lens (cs.take i++[p])).sum≤size:=by
   rw [e,← hsz,HX,HX]
   have:(txts (cs.take (i+1))).map AH=((txts cs).map AH).take (i+1):=by unfold txts; rw [Ci,Ci]
   rw [this]; exact Be.mpr (JB ..)
  have es:stepC o size ([],cs.take i) (p.1,p.2)=([],cs.take (i+1)):=by delta stepC; rw [if_pos hle,e]
  rw [es] at v2; exact v2
 rintro σ ⟨H',o3,o4,rfl,a1,a2⟩
 rw [Hd,CO] at a1
 dsimp only [vS0,vG,retv]
 refine ⟨rfl,.inr ⟨(N+1,0),rd a2,?_⟩⟩
 refine ⟨122,size+1,rfl,rfl,AB (A4 _),bg _ (by exact Ag (by assumption) (by decide)),rfl,.inl ⟨rfl,.inl ?_⟩⟩
 refine ⟨_,.inl rfl,by exact A7 _,by rw [Aw]; simp; exact bg _ (by exact Ab (by assumption) (by decide)),by rw [show (big:Int)=((big:Nat):Int) from rfl]; exact Be.mpr (bg _ (by exact Ab (by assumption) (by decide))),.inl ?_⟩
 rw [Aw]
 refine ⟨_,_,.inl rfl,.inl rfl,?_,.inl ?_⟩
 ·rw [CG]; simp; exact bg _ (Ab (AS hmz 1) (by decide))
 refine ⟨fun j σ=>Ex3 fun (H':Hp) (o3 o4:Option AV)=>An4 (σ=⟨[some (.lst (prs cs)),some (.str (S o)),some (.int many),o3,o4,some (.int size),some (.ref (N,0)),some (.ref (N+1,0))],H'⟩) (Vf N size o (T j).1 (T j).2 H') (H' (N+1,0)=some (.list (nts ((A5 j).map fun k=>((min (k+1) many:Nat):Int))))) ((∀ l:Lb,l.1≠N->l.1≠N+1->H' l=H l)),⟨_,_,_,rfl,?_,Hb ..,fun l l1 l2=>(Ha _ _ fun e=>l2 (by rw [e])).trans (a2 l l1)⟩,fun _ _ _=>trivial,?_,?_⟩
 ·rw [h0]
  have n:∀ x,((N,x):Lb)≠(N+1,0):=fun x=>n01
  exact ⟨(Ha _ _ (n _)).trans a1.i,(Ha _ _ (n _)).trans a1.a,(Ha _ _ (n _)).trans a1.l,(Ha _ _ (n _)).trans a1.c,(Ha _ _ (n _)).trans a1.d⟩
 ·rintro j x σ hx ⟨H',o3,o4,rfl,b1,b2,b3⟩
  obtain ⟨hj,rfl⟩:=Pr hx
  have hl1:(T j).1.length≤many:=by
   cases j with
   | zero=>rw [h0]; exact A4 _
   | succ j=>rw [hlen j (by exact Ay (by assumption))]; exact Cd ..
  have hl2:=hlen j hj
  have efeed:([],(feed size j).2)=feed size j:=by cases j<;>rfl
  dsimp only [vS0,vG,retv]
  refine ⟨Uh (u:=.chunk) b1 rfl,8,by decide,J5 (a:=[]) (b:=(feed size j).2) b1 (by rw [efeed]; exact hFit j hj) (Ag hl1 (Ag hmz (by decide))) fun H2 v2 o2=>?_⟩
  rw [efeed,← hT j hj] at v2
  have b2':=(o2 (N+1,0) (E8 N)).trans b2
  refine ⟨.inl ⟨_,.inr ⟨_,rfl,b2'⟩⟩,v2.lin (.inl ⟨_,v2.l,by rw [Ae,hl2]; exact bg _ (Ab (Cd ..) (Ab hmz (by decide))),.inl ⟨_,b2',by rw [Hc,Ae,AN]; exact bg _ (Ab hj (Ab hmz (by decide))),_,_,_,rfl,?_,?_,fun l l1 l2=>?_⟩⟩)⟩
  ·have n:∀ x,((N,x):Lb)≠(N+1,0):=fun x=>n01
   exact ⟨(Ha _ _ (n _)).trans v2.i,(Ha _ _ (n _)).trans v2.a,(Ha _ _ (n _)).trans v2.l,(Ha _ _ (n _)).trans v2.c,(Ha _ _ (n _)).trans v2.d⟩
  ·refine (Hb ..).trans ?_
   rw [EH,Ar,show nts (_++_)=nts _++nts _ from Ar,Ae,hl2]; rfl
  ·exact (Ha _ _ fun e=>l2 (by rw [e])).trans ((o2 l l1).trans (b3 l l1 l2))
 ·rintro σ ⟨H',o3,o4,rfl,b1,b2,b3⟩
  have eL:([AV.str (S (Az (size+1) 122))]++(Az many [AV.str (S [])]).flatten).length=many+1:=by
   rw [A6,CG]; simp; exact BU ..
  rw [show (AH _:Nat)=many+1 from eL] at b1 b2
  dsimp only [vS0,vG,retv]
  refine ⟨JE (n:=many+1) (by exact Ag (by assumption) (by decide)),?_⟩
  rw [show ((many:Int)+1)=((many+1:Nat):Int) from rfl,Io]
  refine ⟨by rw [Ae,AN]; exact bg _ (by exact Ag (by assumption) (by decide)),minF many,fun x hx=>?_,.inl ?_⟩
  ·obtain ⟨k,hk,rfl⟩:=As.mp hx
   exact ⟨rfl,fun _=>⟨rfl,rfl⟩,nofun⟩
  have ew:((A5 (many+1)).map fun i=>AV.int (i:Nat)).filterMap (minF many)=nts ((A5 (many+1)).map fun k=>((min (k+1) many:Nat):Int)):=by
   unfold nts
   rw [AP,AU]
   refine Hi fun k _=>?_
   show some (AV.int _)=some (AV.int _)
   congr 2
   by_cases h:(many:Int)<k+1
   ·rw [if_pos h]; exact congrArg Int.ofNat (Ce (Be.mp (Bf h))).symm
   ·rw [if_neg h]; exact congrArg Int.ofNat (CY (Be.mp (BE.mp h))).symm
  rw [ew]
  refine .inl ⟨_,_,.inr ⟨_,rfl,b2⟩,.inl rfl,?_⟩
  rw [decide_eq_true rfl]
  refine ⟨nofun,fun _=>?_⟩
  rw [hend] at b1
  have hl3:=hlen many (Ak _)
  refine ⟨Uh (s:=((T (many+1)).1,ys++[(a,b)])) (u:=.nl) b1 rfl,10,by decide,MY b1 F2 hab ha hb hpos hw (by rw [hl3]; exact Ag (Cd ..) (Ag hmz (by decide))) fun H3 v3 o3=>v3.lin ?_⟩
  exact q H3 v3.l fun l l1 l2=>(o3 l l1).trans (b3 l l1 l2)
end
end
section
open Builtin Builtin.Str
theorem WBind.of4 {G:Gb} {fd:FuncData} {x1 x2 x3 x4:Str} {a1 a2 a3 a4:AV} (h:∀ v1 v2 v3 v4,bindArgs fd ⟨[v1,v2,v3,v4],[]⟩=pure [(x1,v1),(x2,v2),(x3,v3),(x4,v4)]):WBind G fd [a1,a2,a3,a4] [(x1,a1),(x2,a2),(x3,a3),(x4,a4)]:=fun c η σ s args' A E Q R hv k=>by
 obtain ⟨v1,r,rfl,h1,hr⟩:=hv.consE
 obtain ⟨v2,v3,v4,rfl,h2,h3,h4⟩:=hr.E3
 rw [h]; exact Ad (k _ η s.heap s.toks R (.refl ..) (.cons h1 (.cons h2 (.cons h3 (.cons h4 .nil)))))
theorem Il {xs:List Int}:∀ {ys:List Int},xs.Perm ys->xs.Pairwise (· ≤ ·)->ys.Pairwise (· ≤ ·)->xs=ys:=by
 induction xs with
 | nil=>exact fun h _ _=>List.Perm.nil_eq h
 | cons x xs ih =>
  intro ys h hx hy
  cases ys with
  | nil=>cases h.length_eq
  | cons y ys =>
   have hx':=Cz.mp hx
   have hy':=Cz.mp hy
   have e:x=y:=by
    rcases Ap.mp (h.mem_iff.mp (.head _)) with e | h1
    ·exact e
    ·rcases Ap.mp (h.mem_iff.mpr (.head _)) with e | h2
     ·exact e.symm
     ·exact Int.le_antisymm (hx'.1 y h2) (hy'.1 x h1)
   subst e
   rw [ih (List.Perm.cons_inv h) hx'.2 hy'.2]
noncomputable def SS.sgl (S:SS) (c:Int):SS:=(S.done1 c).passed ((S.done1 c).rdy.getD [])
noncomputable def gap (cs lt:List Int) (k:Nat):List Int:=lt.filter fun x=>decide ((0::cs).getD (k - 1) 0<x∧x<(0::cs).getD k 0)
noncomputable def gapF (cs:List Int) (k:Nat) (v:AV):Option AV:=match v with
 | .int x=>if (0::cs).getD (k - 1) 0<x∧x<(0::cs).getD k 0 then some (.int x) else none
 | _=>none
structure K8 (S:SS) (L:Nat):Prop where
 su:∀ x,(S.su x).length≤L
 k:∀ q∈S.keys,∀ p∈S.su q,p∈S.keys
section
variable {B:Bx} {b:Nat} {S:SS} {H:Hp} {Q:AV->Hp->Prop} {cs lt:List Int} {cv lv:AV}
theorem Nm (h:So b S H) {ys:List Int} (hr:S.rdy=some ys) {L:Nat} (D:K8 S L) (hz:ys.length+cs.length*L<1000) (hcz:cs.length≤1000) (hk:∀ p∈cs,p∈S.keys) (hn:∀ i v,cs[i]?=some v->((cs.take i).foldl SS.done1 S).np v=-1)
  (hc:∀ loc,isL ⟨loc,H⟩ cv (nts cs)) (hlv:∀ H',Out b H H'->∀ loc,isL ⟨loc,H'⟩ lv (nts lt)) {zs:List Int} (hzs:(cs.foldl SS.done1 S).rdy=some zs) (hzz:zs.length<64) (hzk:∀ p∈zs,p∈(cs.foldl SS.done1 S).keys) (hp:zs.Perm lt) (hlt:lt.Pairwise (· ≤ ·))
  (q:∀ H',So b ((cs.foldl SS.done1 S).passed zs) H'->Out b H H'->Q (.bool true) H'):WC (gg B) 4 (.ref 381) [.ref (b,0),cv,lv,.bool false] H Q:=by
 refine (Nk B).wc (ab:=[(_,_),(_,_),(_,_),(_,_)]) (WBind.of4 (by intro v1 v2 v3 v4; kernel_rfl)) rfl ?_
 dsimp only [retv]
 have bg:∀ n,n≤10000->n≤big:=fun n hn=>Ab hn (by decide)
 show (true=true->_)∧(true=false->_)
 refine ⟨fun _=>?_,nofun⟩
 refine ⟨h.um (u:=.done) rfl,nts cs,.inl (hc _),by rw [Hc]; exact bg _ (by exact Ab (by assumption) (by decide)),2,by decide,?_⟩
 rw [AL]
 refine Qs h hr D.su (An hz (by decide)) hcz hk D.k hn fun H1 s1 o1=>?_
 refine ⟨s1.um (u:=.ready) rfl,2,by decide,KM s1 hzs (bg _ (Ab (Ay hzz) (by decide))) hzk fun H2 s2 o2=>?_⟩
 refine ⟨zs,.inr rfl,hzz,fun ws hw1 hw2=>.inl ?_⟩
 have e:ws=lt:=Il (hw1.trans hp) hw2 hlt
 refine .inl ⟨ws,lt,.inl rfl,hlv H2 (o1.trans o2) _,?_⟩
 rw [decide_eq_true e]
 exact q H2 s2 (o1.trans o2)
theorem RG (cs:List Int) (k:Nat) (ks:List Int):(nts ks).filterMap (gapF cs k)=nts (gap cs ks k):=by
 rw [AP]; exact Jh (fun _=>rfl) ks
theorem R9 {xs:List Int} (hz:xs.length≤1000) {k:Nat} (hk:k<xs.length) {z:Int} (e:z=k):itemL (nts xs) z (.int (xs.getD k 0)) :=
 ⟨by rw [Hc]; exact Ab hz (by decide),.inl ⟨by rw [e]; exact A7 _,Iy (by rw [e,Aw,Af,Ac hk]; rfl)⟩⟩
variable {cl ll:Lb}
theorem Nl (h:So b S H) (hr:S.rdy=some []) {L:Nat} (hL:L≤100) (hcz:cs.length≤100) (hltz:lt.length≤60)
  (hc:∀ H',Out b H H'->H' cl=some (.list (nts cs))) (hlv:∀ H',Out b H H'->H' ll=some (.list (nts lt))) (hlt:lt.Pairwise (· ≤ ·))
  (hst:∀ (j:Nat) c,cs.reverse[j]?=some c->K8 ((cs.reverse.take j).foldl SS.sgl S) L∧c∈((cs.reverse.take j).foldl SS.sgl S).keys∧((cs.reverse.take j).foldl SS.sgl S).np c=-1 ∧
   ∃ zs,An3 ((((cs.reverse.take j).foldl SS.sgl S).done1 c).rdy=some zs) ((∀ p∈zs,p∈(((cs.reverse.take j).foldl SS.sgl S).done1 c).keys)) (zs.Perm (gap cs lt (cs.length - j))))
  (q:∀ H',So b (cs.reverse.foldl SS.sgl S) H'->Out b H H'->Q (.bool true) H'):WC (gg B) 4 (.ref 381) [.ref (b,0),.ref cl,.ref ll,.bool true] H Q:=by
 refine (Nk B).wc (ab:=[(_,_),(_,_),(_,_),(_,_)]) (WBind.of4 (by intro v1 v2 v3 v4; kernel_rfl)) rfl ?_
 dsimp only [vS1,vS9,vE,vL,vI]
 have bg:∀ n,n≤10000->n≤big:=fun n hn=>Ab hn (by decide)
 show (false=true->_)∧(false=false->_)
 refine ⟨nofun,fun _=>?_⟩
 refine ⟨rfl,.inl ⟨[.int 0],nts cs,.inl rfl,.inr ⟨cl,rfl,hc H (.refl b H)⟩,by rw [Hc]; exact bg _ (Ab (AS hcz 1) (by decide)),.inl ?_⟩⟩
 (refine sqN ?_; dsimp only [vS1,vS9,vE,vL,vI]); refine lenL (hc H (.refl b H)) (bg _ (by exact Ab (by assumption) (by decide))) ⟨by decide,by decide,small_down (A7 _) (C4 (Be.mpr hcz) (by decide)) (by decide) (by decide),?_⟩
 rw [show ((cs.length:Nat):Int)=((cs.length+1:Nat):Int) - 1 from (D6 (cs.length:Int) 1).symm,Jx _ (by exact CW _)]
 refine ⟨fun j σ=>Ex2 fun (H':Hp) (o5:Option AV)=>An4 (σ=⟨[some (.ref (b,0)),some (.ref cl),some (.ref ll),some (.bool true),some (.lst (nts (0::cs))),o5],H'⟩) (So b ((cs.reverse.take j).foldl SS.sgl S) H') (Out b H H') (((cs.reverse.take j).foldl SS.sgl S).rdy=some []),⟨H,none,rfl,h,.refl b H,hr⟩,fun _ _ _=>trivial,?_,?_⟩
 ·rintro j x σ hx ⟨H',o5,rfl,a1,a2,a3⟩
  rw [Ai] at hx
  obtain ⟨k,hk,rfl⟩:=Ao.mp hx
  obtain ⟨k1,k2⟩:=HT hk
  have k1:j<cs.length:=by assumption
  have k2:k=cs.length - j:=by assumption
  have hkp:1≤k:=by rw [k2]; exact BX k1
  have hkl:k<(0::cs).length:=by rw [k2]; exact B1 (Bp ..)
  have hz1:(0::cs).length≤1000:=Ab (AB hcz) (by decide)
  have hj:cs.reverse[j]?=some (cs.getD (k - 1) 0):=by
   rw [EI k1,Af,show cs.length - 1 - j=k - 1 from k2▸Ed ..,Ac (show k - 1<cs.length from k2▸Ag (GL (Bp ..) 1) (Br k1))]; rfl
  obtain ⟨D,hck,hcn,zs,hzs,hzk,hzp⟩:=hst j _ hj
  have hnext:=Hu SS.sgl S cs.reverse hj
  rw [← k2] at hzp
  generalize (cs.reverse.take j).foldl SS.sgl S=T at a1 a3 D hck hcn hzs hzk hnext
  have hbd:(0::cs).getD k 0=cs.getD (k - 1) 0:=by
   rw [← Cc hkp]; rfl
  dsimp only [vS1,vS9,vE,vL,vI]
  refine ⟨a1.um (u:=.done) rfl,_,R9 hz1 hkl rfl,2,by decide,?_⟩
  rw [hbd]
  generalize hcc:cs.getD (k - 1) 0=cc at hck hcn hzs hzk hnext hbd
  have hgz:zs.length≤60:=by rw [hzp.length_eq]; unfold gap; exact Ab (DC ..) hltz
  refine Qs (vs':=[cc]) a1 a3 D.su (An (show _<1000 by simp; exact Ag (by assumption) (by decide)) (by decide)) (by simp) (fun p hp=>by rw [Al.mp hp]; exact hck) D.k (fun i v hv=>by
   match i,hv with
   | 0,hv=>cases hv; exact hcn) fun H1 s1 o1=>?_
  have s1:So b (T.done1 cc) H1:=s1
  refine ⟨s1.um (u:=.ready) rfl,2,by decide,KM s1 hzs (bg _ (by exact Ab (by assumption) (by decide))) hzk fun H2 s2 o2=>?_⟩
  refine ⟨zs,.inr rfl,by exact Ag (by assumption) (by decide),fun ws hw1 hw2=>.inl ?_⟩
  have o3:=(a2.trans o1).trans o2
  have e:ws=gap cs lt k:=Il (hw1.trans hzp) hw2 (hlt.filter _)
  refine .inl ⟨nts lt,hlv H2 o3,?_⟩
  refine ⟨by rw [Hc]; exact bg _ (by exact Ab (by assumption) (by decide)),gapF cs k,fun x hx=>?_,.inl ?_⟩
  ·obtain ⟨f,hfm,rfl⟩:=As.mp hx
   refine ⟨_,R9 hz1 (Ag (Bp ..) hkl) (D5 hkp).symm,fun hf=>⟨rfl,nofun,fun _=>if_neg fun h=>absurd h.1 (of_decide_eq_false hf)⟩,fun ht=>?_⟩
   refine ⟨_,R9 hz1 hkl rfl,rfl,fun h2=>⟨rfl,if_pos ⟨of_decide_eq_true ht,of_decide_eq_true h2⟩⟩,fun h2=>if_neg fun h=>absurd h.2 (of_decide_eq_false h2)⟩
  rw [RG]
  refine .inl ⟨ws,gap cs lt k,.inl rfl,.inl rfl,?_⟩
  rw [decide_eq_true e]
  refine ⟨nofun,fun _=>⟨H2,_,rfl,?_,o3,?_⟩⟩
  ·rw [hnext]; unfold SS.sgl; rw [hzs]; exact s2
  ·rw [hnext]; rfl
 ·rintro σ ⟨H',o5,rfl,a1,a2,a3⟩
  rw [Ae,N9,Nat.add_sub_cancel,AR (by rw [EW]; exact Ak _)] at a1
  exact q H' a1 a2
end
end
section
noncomputable def waits (rk:List (Int×Int)) (q:Int):List Int:=(doms rk).filter fun p=>decide (q∈needs rk p)
structure Bld (S:SS):Prop where
 k0:∀ x,x∉S.keys->S.np x=0∧S.su x=[]
 nd:S.keys.Nodup
theorem Nw {S:SS} (h:Bld S) (p:Int):Bld (S.ins p)∧(S.ins p).np=S.np∧(S.ins p).su=S.su:=by
 unfold SS.ins
 by_cases hp:p∈S.keys
 ·rw [if_pos hp]; exact ⟨h,rfl,rfl⟩
 ·rw [if_neg hp]
  have e1:upd S.np p 0=S.np:=by
   funext x; by_cases e:x=p
   ·subst e; rw [Hg,(h.k0 x hp).1]
   ·rw [Hl _ _ e]
  have e2:upd S.su p []=S.su:=by
   funext x; by_cases e:x=p
   ·subst e; rw [Hg,(h.k0 x hp).2]
   ·rw [Hl _ _ e]
  refine ⟨⟨fun x hx=>?_,BH.mpr ⟨h.nd,by simp,fun x hx y hy e=>hp (by rw [← Al.mp hy,← e]; exact hx)⟩⟩,e1,e2⟩
  have hx':x∉S.keys:=fun m=>hx (Aj.mpr (.inl m))
  dsimp only; rw [e1,e2]; exact h.k0 x hx'
theorem Oq {S:SS} (h:Bld S) (p q:Int):Bld (S.wait p q)∧(S.wait p q).np=S.np∧(S.wait p q).su=upd S.su q (S.su q++[p])∧∀ x,x∈(S.wait p q).keys↔x∈S.keys∨x=q:=by
 obtain ⟨a,b,c⟩:=Nw h q
 refine ⟨⟨fun x hx=>?_,a.nd⟩,b,by unfold SS.wait; rw [c],fun x=>IJ⟩
 have hx:x∉(S.ins q).keys:=hx
 have e:x≠q:=fun e=>hx (e▸KX S q)
 refine ⟨(a.k0 x hx).1,?_⟩
 show upd (S.ins q).su q _ x=[]
 rw [Hl _ _ e]; exact (a.k0 x hx).2
theorem M0 (p:Int) {qs:List Int}:∀ {S:SS},Bld S->qs.Nodup->Bld (qs.foldl (SS.wait p) S)∧(qs.foldl (SS.wait p) S).np=S.np∧(∀ x,(qs.foldl (SS.wait p) S).su x=S.su x++if x∈qs then [p] else [])∧∀ x,x∈(qs.foldl (SS.wait p) S).keys↔x∈S.keys∨x∈qs:=by
 induction qs with
 | nil=>exact fun h _=>⟨h,rfl,fun x=>(AL _).symm,fun x=>⟨.inl,fun h=>h.elim id fun h=>nomatch h⟩⟩
 | cons q qs ih =>
  intro S h nd
  rw [BA] at nd
  obtain ⟨a1,a2,a3,a4⟩:=Oq h p q
  obtain ⟨b1,b2,b3,b4⟩:=ih a1 nd.2
  refine ⟨b1,b2.trans a2,fun x=>?_,fun x=>?_⟩
  ·rw [Cr,b3,a3]
   by_cases e:x=q
   ·subst e; rw [Hg,if_neg nd.1,if_pos (.head _),AL]
   ·rw [Hl _ _ e]; exact congrArg _ (JP (Ap.trans (or_iff_right e)).symm)
  ·rw [Cr,b4,a4,Ap,or_assoc]
theorem Of {S:SS} (h:Bld S) (p:Int) {qs:List Int} (nd:qs.Nodup):Bld (S.add p qs)∧(S.add p qs).np=upd S.np p (S.np p+qs.length)∧(∀ x,(S.add p qs).su x=S.su x++if x∈qs then [p] else [])∧∀ x,x∈(S.add p qs).keys↔x∈S.keys∨x=p∨x∈qs:=by
 obtain ⟨a,b,c⟩:=Nw h p
 have hown:Bld (S.own p qs.length):=⟨fun x hx=>by
  have hx:x∉(S.ins p).keys:=hx
  have e:x≠p:=fun e=>hx (e▸KX S p)
  refine ⟨?_,(a.k0 x hx).2⟩
  show upd (S.ins p).np p _ x=0
  rw [Hl _ _ e]; exact (a.k0 x hx).1,a.nd⟩
 obtain ⟨w1,w2,w3,w4⟩:=M0 p hown nd
 refine ⟨w1,?_,fun x=>?_,fun x=>?_⟩
 ·refine w2.trans ?_
  show upd (S.ins p).np p ((S.ins p).np p+_)=_
  rw [b]
 ·refine (w3 x).trans ?_
  show (S.ins p).su x++_=_
  rw [c]
 ·refine (w4 x).trans ?_
  show x∈(S.ins p).keys∨_↔_
  rw [IJ,or_assoc]
section
variable {rk:List (Int×Int)}
theorem L9 (hnd:(doms rk).Nodup) (p:Int):(needs rk p).Nodup:=hnd.sublist A2
theorem Hq {p f:Int}:f∈needs rk p↔f∈doms rk∧f>p∧rkV rk f≤rkV rk p:=by unfold needs; rw [BC,decide_eq_true_iff]
theorem P4 (hnd:(doms rk).Nodup) {S:SS} (h:Bld S) (p:Int):Bld (addB rk S p)∧(addB rk S p).np=upd S.np p (S.np p+(needs rk p).length)∧(∀ x,(addB rk S p).su x=S.su x++if x∈needs rk p then [p] else [])∧∀ x,x∈(addB rk S p).keys↔x∈S.keys∨x=p∨x∈needs rk p:=by
 have nd:=L9 hnd p
 obtain ⟨a1,a2,a3,a4⟩:=Of h p (nd.sublist (List.drop_sublist 1 _))
 obtain ⟨b1,b2,b3,b4⟩:=Of a1 p (nd.sublist (D8 1 _))
 have hl:((needs rk p).drop 1).length+((needs rk p).take 1).length=(needs rk p).length:=by rw [Bn,Dp]; exact Mo _
 have hm:∀ x,x∈needs rk p↔x∈(needs rk p).drop 1∨x∈(needs rk p).take 1:=fun x=>by
  rw [or_comm,← Aj,Cw]
 refine ⟨b1,?_,fun x=>?_,fun x=>?_⟩
 ·refine b2.trans ?_
  rw [a2]
  funext x
  by_cases e:x=p
  ·subst e; rw [Hg,Hg,Hg]; lia
  ·rw [Hl _ _ e,Hl _ _ e,Hl _ _ e]
 ·refine (b3 x).trans ?_
  rw [a3]
  by_cases h1:x∈(needs rk p).drop 1
  ·have h2:x∉(needs rk p).take 1:=fun h2=>by
    have:=nd
    rw [← Cw 1 (needs rk p)] at this
    exact (BH.mp this).2.2 x h2 x h1 rfl
   rw [if_pos h1,if_neg h2,if_pos ((hm x).mpr (.inl h1)),AL]
  ·rw [if_neg h1,AL]
   by_cases h2:x∈(needs rk p).take 1
   ·rw [if_pos h2,if_pos ((hm x).mpr (.inr h2))]
   ·rw [if_neg h2,if_neg fun h=>((hm x).mp h).elim h1 h2]
 ·rw [show (addB rk S p).keys=((S.add p ((needs rk p).drop 1)).add p ((needs rk p).take 1)).keys from rfl,b4,a4,hm]
  constructor
  ·rintro ((h | h | h) | h | h)
   ·exact .inl h
   ·exact .inr (.inl h)
   ·exact .inr (.inr (.inl h))
   ·exact .inr (.inl h)
   ·exact .inr (.inr (.inr h))
  ·rintro (h | h | h | h)
   ·exact .inl (.inl h)
   ·exact .inr (.inl h)
   ·exact .inl (.inr (.inr h))
   ·exact .inr (.inr h)
theorem Pm (hnd:(doms rk).Nodup) {ps:List Int}:∀ {S:SS},Bld S->ps.Nodup->Bld (ps.foldl (addB rk) S)∧(∀ x,(ps.foldl (addB rk) S).np x=S.np x+if x∈ps then ((needs rk x).length:Int) else 0)∧(∀ x,(ps.foldl (addB rk) S).su x=S.su x++ps.filter fun p=>decide (x∈needs rk p))∧∀ x,x∈(ps.foldl (addB rk) S).keys↔x∈S.keys∨x∈ps∨∃ p∈ps,x∈needs rk p:=by
 induction ps with
 | nil=>exact fun h _=>⟨h,fun x=>(Int.add_zero _).symm,fun x=>(AL _).symm,fun x=>⟨.inl,fun h=>h.elim id fun h=>h.elim (fun h=>nomatch h) fun ⟨_,h,_⟩=>nomatch h⟩⟩
 | cons p ps ih =>
  intro S h nd
  rw [BA] at nd
  obtain ⟨a1,a2,a3,a4⟩:=P4 hnd h p
  obtain ⟨b1,b2,b3,b4⟩:=ih a1 nd.2
  refine ⟨b1,fun x=>?_,fun x=>?_,fun x=>?_⟩
  ·rw [Cr,b2,a2]
   by_cases e:x=p
   ·subst e; rw [Hg,if_neg nd.1,if_pos (.head _),Int.add_zero]
   ·rw [Hl _ _ e]; exact congrArg _ (JP (Ap.trans (or_iff_right e)).symm)
  ·rw [Cr,b3,a3,CQ]
   by_cases e:x∈needs rk p
   ·rw [if_pos e,if_pos (decide_eq_true e),De]; rfl
   ·rw [if_neg e,if_neg (fun h=>e (of_decide_eq_true h)),AL]
  ·rw [Cr,b4,a4]
   simp only [Ap,exists_eq_or_imp]
   constructor
   ·rintro ((h | h | h) | h | h)
    ·exact .inl h
    ·exact .inr (.inl (.inl h))
    ·exact .inr (.inr (.inl h))
    ·exact .inr (.inl (.inr h))
    ·exact .inr (.inr (.inr h))
   ·rintro (h | (h | h) | h | h)
    ·exact .inl (.inl h)
    ·exact .inl (.inr (.inl h))
    ·exact .inr (.inl h)
    ·exact .inl (.inr (.inr h))
    ·exact .inr (.inr h)
theorem IS (hnd:(doms rk).Nodup):(sortF rk).keys.Nodup∧(∀ x,(sortF rk).np x=if x∈doms rk then ((needs rk x).length:Int) else 0)∧(∀ x,(sortF rk).su x=waits rk x)∧∀ x,x∈(sortF rk).keys↔x∈doms rk:=by
 obtain ⟨a1,a2,a3,a4⟩:=Pm hnd (S:=SS.empty) ⟨fun _ _=>⟨rfl,rfl⟩,.nil⟩ hnd
 refine ⟨a1.nd,fun x=>(a2 x).trans (Int.zero_add _),fun x=>a3 x,fun x=>(a4 x).trans ⟨?_,fun h=>.inr (.inl h)⟩⟩
 rintro (h | h | ⟨p,_,h⟩)
 ·cases h
 ·exact h
 ·exact (Hq.mp h).1
end
end
section
structure Inv (rk:List (Int×Int)) (S:SS) (D P R:List Int):Prop where
 kd:∀ x,x∈S.keys↔x∈doms rk
 su:∀ x,S.su x=waits rk x
 np:∀ x∈doms rk,S.np x=if x∈D then -2 else if x∈P then -1 else (((needs rk x).filter fun q=>decide (q∉D)).length:Int)
 rd:S.rdy=some R
 rm:∀ x,x∈R↔x∈doms rk∧x∉D∧x∉P∧∀ q∈needs rk x,q∈D
 rn:R.Nodup
 dp:∀ x,x∈D∨x∈P->x∈doms rk∧∀ q∈needs rk x,q∈D
 pd:∀ x∈P,x∉D
 pn:P.Nodup
 fin:S.fin=D.length
 pas:S.pas=D.length+P.length
theorem RQ {ps:List Int}:∀ {S:SS},ps.Nodup->(∀ x,(ps.foldl SS.dec S).np x=if x∈ps then S.np x - 1 else S.np x)∧(ps.foldl SS.dec S).rdy=S.rdy.map (· ++ps.filter fun x=>decide (S.np x - 1=0)):=by
 induction ps with
 | nil =>
  intro S _
  refine ⟨fun x=>(if_neg (fun h=>nomatch h)).symm,?_⟩
  show S.rdy=S.rdy.map (· ++[])
  cases S.rdy with
  | none=>rfl
  | some l=>exact congrArg some (AL l).symm
 | cons p ps ih =>
  intro S nd
  rw [BA] at nd
  obtain ⟨a1,a2⟩:=ih (S:=S.dec p) nd.2
  have hnp:∀ x,(S.dec p).np x=if x=p then S.np p - 1 else S.np x:=fun x=>rfl
  refine ⟨fun x=>?_,?_⟩
  ·rw [Cr,a1,hnp]
   by_cases e:x=p
   ·subst e; rw [if_neg nd.1,if_pos rfl,if_pos (.head _)]
   ·rw [if_neg e]; exact JP (Ap.trans (or_iff_right e)).symm
  ·rw [Cr,a2,CQ]
   have hf:ps.filter (fun x=>decide ((S.dec p).np x - 1=0))=ps.filter fun x=>decide (S.np x - 1=0):=Fv fun x hx=>by
    rw [hnp,if_neg fun e:x=p=>nd.1 (e▸hx)]
   rw [hf]
   show (if S.np p - 1=0 then S.rdy.map (· ++[p]) else S.rdy).map _=_
   by_cases e:S.np p - 1=0
   ·rw [if_pos e,if_pos (decide_eq_true e)]
    cases S.rdy with
    | none=>rfl
    | some l=>exact congrArg some (De l [p] _)
   ·rw [if_neg e,if_neg fun h=>e (of_decide_eq_true h)]
section
variable {rk:List (Int×Int)} {S:SS} {D P R:List Int}
theorem Hn {q p:Int}:p∈waits rk q↔p∈doms rk∧q∈needs rk p:=by unfold waits; rw [BC,decide_eq_true_iff]
theorem Ld {l:List Int} (nd:l.Nodup) {v:Int} (hv:v∈l) {D:List Int} (hD:v∉D):(l.filter fun q=>decide (q∉D)).length=(l.filter fun q=>decide (q∉v::D)).length+1:=by
 induction l with
 | nil=>cases hv
 | cons a l ih =>
  rw [BA] at nd
  rw [CQ,CQ]
  by_cases e:a=v
  ·subst e
   rw [if_pos (decide_eq_true hD),if_neg (by simp)]
   have:l.filter (fun q=>decide (q∉a::D))=l.filter fun q=>decide (q∉D):=Fv fun q hq=>by
    have:q≠a:=fun e=>nd.1 (by rw [← e]; exact hq)
    simp [this]
   rw [this]; rfl
  ·have hv':v∈l:=(Ap.mp hv).resolve_left fun h=>e h.symm
   have ih:=ih nd.2 hv'
   by_cases h:a∈D
   ·rw [if_neg (by simpa using h),if_neg (by simp [h])]; exact ih
   ·rw [if_pos (decide_eq_true h),if_pos (by simp [e,h]),AW,AW,ih]
theorem Lc {l:List Int} {v:Int} (hv:v∉l) {D:List Int}:(l.filter fun q=>decide (q∉v::D))=l.filter fun q=>decide (q∉D):=Fv fun q hq=>by
 have:q≠v:=fun e=>hv (by rw [← e]; exact hq)
 simp [this]
theorem Ji {l D:List Int}:(l.filter fun q=>decide (q∉D)).length=0↔∀ q∈l,q∈D:=by
 rw [List.length_eq_zero_iff,List.filter_eq_nil_iff]
 exact ⟨fun h q hq=>Decidable.not_not.mp fun n=>h q hq (decide_eq_true n),fun h q hq n=>absurd (h q hq) (of_decide_eq_true n)⟩
theorem Inv.done (hnd:(doms rk).Nodup) (I:Inv rk S D P R) {v:Int} (hv:v∈P):∃ R',Inv rk (S.done1 v) (v::D) (P.erase v) R':=by
 have hvD:=I.pd v hv
 have hvd:=(I.dp v (.inr hv)).1
 have wn:(waits rk v).Nodup:=hnd.sublist A2
 obtain ⟨a1,a2⟩:=RQ (S:={ S with np:=upd S.np v (-2) }) (ps:=S.su v) (by rw [I.su]; exact wn)
 obtain ⟨b1,b2,b3,b4⟩:=LN { S with np:=upd S.np v (-2) } (S.su v)
 have hvw:v∉waits rk v:=fun h=>by have:=(Hq.mp (Hn.mp h).2).2.1; exact B3 _ this
 have notDP:∀ x,x∈waits rk v->x∉D∧x∉P:=fun x hx=>⟨fun h=>hvD ((I.dp x (.inl h)).2 v (Hn.mp hx).2),fun h=>hvD ((I.dp x (.inr h)).2 v (Hn.mp hx).2)⟩
 have cnt:∀ x∈waits rk v,S.np x=(((needs rk x).filter fun q=>decide (q∉v::D)).length:Int)+1:=fun x hx=>by
  obtain ⟨n1,n2⟩:=notDP x hx
  rw [I.np x (Hn.mp hx).1,if_neg n1,if_neg n2,Ld (L9 hnd x) (Hn.mp hx).2 hvD]; rfl
 have mE:∀ x,x∈P.erase v↔x≠v∧x∈P:=fun x=>I.pn.mem_erase_iff
 refine ⟨R++(S.su v).filter fun x=>decide (upd S.np v (-2) x - 1=0),fun x=>?_,fun x=>?_,fun x hx=>?_,?_,fun x=>?_,?_,fun x hx=>?_,fun x hx=>?_,I.pn.erase v,?_,?_⟩
 ·show x∈((S.su v).foldl SS.dec _).keys↔_
  rw [b2]; exact I.kd x
 ·show ((S.su v).foldl SS.dec _).su x=_
  rw [b1]; exact I.su x
 ·show ((S.su v).foldl SS.dec _).np x=_
  rw [a1,I.su]
  dsimp only
  by_cases hw:x∈waits rk v
  ·have e:x≠v:=fun e=>hvw (e▸hw)
   obtain ⟨n1,n2⟩:=notDP x hw
   rw [if_pos hw,Hl _ _ e,cnt x hw,if_neg (show x∉v::D from fun h=>(Ap.mp h).elim e n1),if_neg (show x∉P.erase v from fun h=>n2 ((mE x).mp h).2)]; exact D6 _ 1
  ·rw [if_neg hw]
   by_cases e:x=v
   ·subst e; rw [Hg,if_pos (.head _)]
   ·rw [Hl _ _ e,I.np x hx]
    have hvn:v∉needs rk x:=fun h=>hw (Hn.mpr ⟨hx,h⟩)
    by_cases h1:x∈D
    ·rw [if_pos h1,if_pos (.tail _ h1)]
    ·rw [if_neg h1,if_neg (show x∉v::D from fun h=>(Ap.mp h).elim e h1)]
     by_cases h2:x∈P
     ·rw [if_pos h2,if_pos ((mE x).mpr ⟨e,h2⟩)]
     ·rw [if_neg h2,if_neg (show x∉P.erase v from fun h=>h2 ((mE x).mp h).2),Lc hvn]
 ·show ((S.su v).foldl SS.dec _).rdy=_
  rw [a2]; dsimp only; rw [I.rd]; rfl
 ·rw [Aj,BC,I.su,I.rm]
  constructor
  ·rintro (⟨h1,h2,h3,h4⟩ | ⟨h1,h2⟩)
   ·have e:x≠v:=fun e=>h3 (e▸hv)
    exact ⟨h1,by simp [e,h2],fun h=>h3 ((mE x).mp h).2,fun q hq=>.tail _ (h4 q hq)⟩
   ·have e:x≠v:=fun e=>hvw (e▸h1)
    obtain ⟨n1,n2⟩:=notDP x h1
    have h2:=of_decide_eq_true h2
    rw [Hl _ _ e,cnt x h1] at h2
    exact ⟨(Hn.mp h1).1,by simp [e,n1],fun h=>n2 ((mE x).mp h).2,Ji.mp (Int.ofNat_eq_zero.mp ((D6 _ 1).symm.trans h2))⟩
  ·rintro ⟨h1,h2,h3,h4⟩
   have e:x≠v:=fun e=>h2 (e▸.head _)
   have n1:x∉D:=fun h=>h2 (.tail _ h)
   have n2:x∉P:=fun h=>h3 ((mE x).mpr ⟨e,h⟩)
   by_cases hvn:v∈needs rk x
   ·have hw:=Hn.mpr ⟨h1,hvn⟩
    refine .inr ⟨hw,decide_eq_true ?_⟩
    rw [Hl _ _ e,cnt x hw,Ji.mpr h4]; rfl
   ·exact .inl ⟨h1,n1,n2,fun q hq=>(Ap.mp (h4 q hq)).resolve_left fun e=>hvn (e▸hq)⟩
 ·refine BH.mpr ⟨I.rn,by rw [I.su]; exact wn.sublist A2,fun x hx y hy e=>?_⟩
  subst e
  have:=(BC.mp hy).1
  rw [I.su] at this
  exact hvD (((I.rm x).mp hx).2.2.2 v (Hn.mp this).2)
 ·rcases hx with hx | hx
  ·rcases Ap.mp hx with rfl | hx
   ·exact ⟨hvd,fun q hq=>.tail _ ((I.dp x (.inr hv)).2 q hq)⟩
   ·exact ⟨(I.dp x (.inl hx)).1,fun q hq=>.tail _ ((I.dp x (.inl hx)).2 q hq)⟩
  ·have hx:=((mE x).mp hx).2
   exact ⟨(I.dp x (.inr hx)).1,fun q hq=>.tail _ ((I.dp x (.inr hx)).2 q hq)⟩
 ·obtain ⟨e,hx⟩:=(mE x).mp hx
  exact fun h=>(Ap.mp h).elim e (I.pd x hx)
 ·show ((S.su v).foldl SS.dec _).fin+1=_
  rw [b3]; dsimp only; rw [I.fin,AW]; rfl
 ·show ((S.su v).foldl SS.dec _).pas=_
  have:0<P.length:=Gs hv
  rw [b4]; dsimp only; rw [I.pas,AW,FY hv]; exact (congrArg Int.ofNat ((Ge D.length (P.length - 1)).trans (congrArg (D.length+·) (Cc this)))).symm
theorem Ot (v:Int) (ys:List Int):∀ (f:Int->Int) (x:Int),(ys.foldl (fun f p=>upd f p v) f) x=if x∈ys then v else f x:=by
 induction ys with
 | nil=>exact fun f x=>(if_neg (fun h=>nomatch h)).symm
 | cons y ys ih =>
  intro f x
  rw [Cr,ih]
  by_cases h:x∈ys
  ·rw [if_pos h,if_pos (.tail _ h)]
  ·rw [if_neg h]
   by_cases e:x=y
   ·subst e; rw [Hg,if_pos (.head _)]
   ·rw [Hl _ _ e,if_neg fun q=>(Ap.mp q).elim e h]
theorem Inv.pass (I:Inv rk S D P R):Inv rk (S.passed R) D (P++R) [] where
 kd:=I.kd
 su:=I.su
 np:=fun x hx=>by
  show (R.foldl (fun f p=>upd f p (-1)) S.np) x=_
  rw [Ot,I.np x hx]
  by_cases h:x∈R
  ·rw [if_pos h,if_neg ((I.rm x).mp h).2.1,if_pos (Aj.mpr (.inr h))]
  ·rw [if_neg h]
   by_cases h1:x∈D
   ·rw [if_pos h1,if_pos h1]
   ·rw [if_neg h1,if_neg h1]
    by_cases h2:x∈P
    ·rw [if_pos h2,if_pos (Aj.mpr (.inl h2))]
    ·rw [if_neg h2,if_neg fun m=>(Aj.mp m).elim h2 h]
 rd:=rfl
 rm:=fun x=>⟨nofun,fun ⟨h1,h2,h3,h4⟩=>absurd ((I.rm x).mpr ⟨h1,h2,fun m=>h3 (Aj.mpr (.inl m)),h4⟩) fun m=>h3 (Aj.mpr (.inr m))⟩
 rn:=.nil
 dp:=fun x hx=>by
  rcases hx with hx | hx
  ·exact I.dp x (.inl hx)
  ·rcases Aj.mp hx with hx | hx
   ·exact I.dp x (.inr hx)
   ·exact ⟨((I.rm x).mp hx).1,((I.rm x).mp hx).2.2.2⟩
 pd:=fun x hx=>(Aj.mp hx).elim (I.pd x) fun m=>((I.rm x).mp m).2.1
 pn:=BH.mpr ⟨I.pn,I.rn,fun x hx y hy e=>((I.rm y).mp hy).2.2.1 (e▸hx)⟩
 fin:=I.fin
 pas:=by
  show S.pas+(R.length:Int)=_
  rw [I.pas,A6]; lia
theorem Inv.start (hnd:(doms rk).Nodup):∃ R,Inv rk (sortF rk).prep [] [] R:=by
 obtain ⟨a1,a2,a3,a4⟩:=IS hnd
 refine ⟨_,a4,a3,fun x hx=>?_,rfl,fun x=>?_,a1.sublist A2,fun x hx=>hx.elim nofun nofun,nofun,.nil,?_,?_⟩
 ·refine (a2 x).trans ?_
  rw [if_pos hx,if_neg (by simp),if_neg (by simp),EX.mpr fun q _=>by simp]
 ·rw [BC,a4,decide_eq_true_iff,a2]
  constructor
  ·rintro ⟨h1,h2⟩
   rw [if_pos h1] at h2
   have:needs rk x=[]:=DL (by lia)
   exact ⟨h1,by simp,by simp,fun q hq=>by rw [this] at hq; cases hq⟩
  ·rintro ⟨h1,_,_,h4⟩
   refine ⟨h1,?_⟩
   have:needs rk x=[]:=DF.mpr fun q hq=>by cases h4 q hq
   rw [if_pos h1,this]; rfl
 ·have:∀ (ps:List Int) (S:SS),(ps.foldl (addB rk) S).fin=S.fin:=fun ps=>by
   induction ps with
   | nil=>intro S; rfl
   | cons p ps ih=>intro S; exact (ih _).trans (I4 rk S p).2.2.1
  exact this _ _
 ·have:∀ (ps:List Int) (S:SS),(ps.foldl (addB rk) S).pas=S.pas:=fun ps=>by
   induction ps with
   | nil=>intro S; rfl
   | cons p ps ih=>intro S; exact (ih _).trans (I4 rk S p).2.1
  exact this _ _
end
end
section
noncomputable def blkr (rk:List (Int×Int)) (Rm:List Int) (p:Int):List Int:=Rm.filter fun q=>decide (q>p∧rkV rk q≤rkV rk p)
noncomputable def cutsOf (rk:List (Int×Int)) (Rm:List Int):List Int:=Rm.filter fun p=>(blkr rk Rm p).isEmpty
noncomputable def restOf (rk:List (Int×Int)) (Rm:List Int):List Int:=Rm.filter fun p=>!(blkr rk Rm p).isEmpty
section
variable {rk:List (Int×Int)} {Rm:List Int}
theorem IL {p q:Int}:q∈blkr rk Rm p↔q∈Rm∧q>p∧rkV rk q≤rkV rk p:=by unfold blkr; rw [BC,decide_eq_true_iff]
theorem Hf {p:Int}:p∈cutsOf rk Rm↔p∈Rm∧∀ q∈Rm,q>p->rkV rk p<rkV rk q:=by
 unfold cutsOf
 rw [BC,List.isEmpty_iff,DF]
 exact ⟨fun ⟨h1,h2⟩=>⟨h1,fun q hq hg=>DB.mp fun hl=>h2 q (IL.mpr ⟨hq,hg,hl⟩)⟩,fun ⟨h1,h2⟩=>⟨h1,fun q hq=>by
  obtain ⟨a,b,c⟩:=IL.mp hq
  exact absurd (h2 q a b) (BE.mpr c)⟩⟩
theorem Hh {p:Int}:p∈restOf rk Rm↔p∈Rm∧p∉cutsOf rk Rm:=by
 unfold restOf cutsOf
 rw [BC,BC]
 constructor
 ·rintro ⟨h1,h2⟩; exact ⟨h1,fun h=>by rw [h.2] at h2; cases h2⟩
 ·rintro ⟨h1,h2⟩; refine ⟨h1,?_⟩; cases h:(blkr rk Rm p).isEmpty<;>simp_all
theorem Qi {l:List Int} (h:l≠[]):∃ m∈l,∀ x∈l,x≤m:=by
 induction l with
 | nil=>exact absurd rfl h
 | cons a l ih =>
  by_cases e:l=[]
  ·exact ⟨a,.head _,fun x hx=>by rw [e] at hx; rw [Al.mp hx]; exact CN _⟩
  ·obtain ⟨m,hm,h⟩:=ih e
   by_cases c:m≤a
   ·exact ⟨a,.head _,fun x hx=>(Ap.mp hx).elim (fun e=>DJ e) fun hx=>Bw (h x hx) c⟩
   ·exact ⟨m,.tail _ hm,fun x hx=>(Ap.mp hx).elim (fun e=>e▸Bf (DB.mp c)) (h x)⟩
theorem Ir {x:Int} (hx:x∈restOf rk Rm):∃ c∈cutsOf rk Rm,x<c∧rkV rk c≤rkV rk x:=by
 have hx2:=(BC.mp hx).2
 have hne:blkr rk Rm x≠[]:=fun e=>by rw [e] at hx2; cases hx2
 obtain ⟨c,hc,hm⟩:=Qi hne
 obtain ⟨a1,a2,a3⟩:=IL.mp hc
 refine ⟨c,Hf.mpr ⟨a1,fun q hq hg=>DB.mp fun hl=>?_⟩,a2,a3⟩
 have:=hm q (IL.mpr ⟨hq,by lia,Bw hl a3⟩)
 lia
theorem RS (h:Rm≠[]):cutsOf rk Rm≠[]:=by
 obtain ⟨m,hm,h⟩:=Qi h
 exact Fi (Hf.mpr ⟨hm,fun q hq hg=>absurd (h q hq) (by lia)⟩)
theorem Pv {c d:Int} (hc:c∈cutsOf rk Rm) (hd:d∈cutsOf rk Rm) (h:c<d):rkV rk c<rkV rk d:=(Hf.mp hc).2 d (Hf.mp hd).1 h
noncomputable def RInv (rk:List (Int×Int)) (S:SS) (Rm cs:List Int):Prop:=Ex2 fun D P=>An3 (Inv rk S D P []) ((∀ x,x∈D↔x∈doms rk∧x∉Rm)) (∀ x,x∈P↔x∈cs)
variable {S:SS}
theorem Mz (rk:List (Int×Int)) (x:Int):(waits rk x).length≤rk.length:=by unfold waits doms; exact Ab (DC ..) (by simp)
theorem Inv.ok {D P R:List Int} (I:Inv rk S D P R) (hz:rk.length≤7):K8 S 7:=⟨fun x=>by rw [I.su]; exact Ab (Mz ..) hz,fun q _ p hp=>by rw [I.su] at hp; exact (I.kd p).mpr (Hn.mp hp).1⟩
theorem Pl (hsub:∀ x∈Rm,x∈doms rk) {D':List Int} (hD:∀ x,x∈D'↔x∈doms rk∧x∉restOf rk Rm) {x:Int}:(x∈doms rk∧x∉D'∧∀ q∈needs rk x,q∈D')↔x∈cutsOf rk (restOf rk Rm):=by
 rw [Hf]
 constructor
 ·rintro ⟨h1,h2,h3⟩
  have hx:x∈restOf rk Rm:=AI fun n=>h2 ((hD x).mpr ⟨h1,n⟩)
  refine ⟨hx,fun q hq hg=>DB.mp fun hl=>?_⟩
  exact ((hD q).mp (h3 q (Hq.mpr ⟨hsub q (Hh.mp hq).1,hg,hl⟩))).2 hq
 ·rintro ⟨h1,h2⟩
  have hd:=hsub x (Hh.mp h1).1
  refine ⟨hd,fun h=>((hD x).mp h).2 h1,fun q hq=>(hD q).mpr ⟨(Hq.mp hq).1,fun hr=>?_⟩⟩
  obtain ⟨_,g,l⟩:=Hq.mp hq
  exact absurd (h2 q hr g) (BE.mpr l)
theorem Ks (hnd:(doms rk).Nodup) {cs:List Int}:∀ {S:SS} {D P R:List Int},Inv rk S D P R->cs.Nodup->(∀ c∈cs,c∈P)->Ex3 fun D' P' R'=>An3 (Inv rk (cs.foldl SS.done1 S) D' P' R') ((∀ x,x∈D'↔x∈D∨x∈cs)) (∀ x,x∈P'↔x∈P∧x∉cs):=by
 induction cs with
 | nil=>exact fun {S D P R} I _ _=>⟨D,P,R,I,fun x=>⟨.inl,fun h=>h.elim id fun h=>nomatch h⟩,fun x=>⟨fun h=>⟨h,fun h=>nomatch h⟩,And.left⟩⟩
 | cons c cs ih =>
  intro S D P R I nd h
  rw [BA] at nd
  obtain ⟨R',I'⟩:=I.done hnd (h c (.head _))
  have mE:∀ x,x∈P.erase c↔x≠c∧x∈P:=fun x=>I.pn.mem_erase_iff
  obtain ⟨D2,P2,R2,I2,e1,e2⟩:=ih I' nd.2 fun x hx=>(mE x).mpr ⟨fun e=>nd.1 (e▸hx),h x (.tail _ hx)⟩
  refine ⟨D2,P2,R2,I2,fun x=>?_,fun x=>?_⟩
  ·rw [e1,Ap,Ap,or_assoc,or_left_comm]
  ·rw [e2,mE,Ap,not_or,and_assoc,and_left_comm]
theorem IW {xs ys:List Int} (h1:xs.Nodup) (h2:ys.Nodup) (h:∀ x,x∈xs↔x∈ys):xs.Perm ys:=(List.perm_ext_iff_of_nodup h1 h2).mpr h
theorem Ta (hnd:(doms rk).Nodup) (hz:rk.length≤7) (hsub:∀ x∈Rm,x∈doms rk) (hn:Rm.Nodup) (I:RInv rk S Rm (cutsOf rk Rm)) :
  S.rdy=some []∧K8 S 7∧(∀ p∈cutsOf rk Rm,p∈S.keys)∧(∀ i v,(cutsOf rk Rm)[i]?=some v->(((cutsOf rk Rm).take i).foldl SS.done1 S).np v=-1) ∧
  ∃ zs,An4 (((cutsOf rk Rm).foldl SS.done1 S).rdy=some zs) ((∀ p∈zs,p∈((cutsOf rk Rm).foldl SS.done1 S).keys)) (zs.Perm (cutsOf rk (restOf rk Rm))) (RInv rk (((cutsOf rk Rm).foldl SS.done1 S).passed zs) (restOf rk Rm) (cutsOf rk (restOf rk Rm))):=by
 obtain ⟨D,P,I,hD,hP⟩:=I
 have cn:(cutsOf rk Rm).Nodup:=hn.sublist A2
 refine ⟨I.rd,I.ok hz,fun p hp=>(I.kd p).mpr (hsub p (Hf.mp hp).1),fun i v hv=>?_,?_⟩
 ·obtain ⟨D',P',R',I',e1,e2⟩:=Ks hnd I (cn.sublist (D8 i _)) fun c hc=>(hP c).mpr (Cf hc)
  have hvm:=Au hv
  have hvP:v∈P':=(e2 v).mpr ⟨(hP v).mpr hvm,fun h=>by
   have h2:=cn
   rw [← Cw i (cutsOf rk Rm)] at h2
   refine (BH.mp h2).2.2 v h v ?_ rfl
   refine Au (i:=0) ?_
   rw [Dz,Nat.add_zero]; exact hv⟩
  rw [I'.np v (hsub v (Hf.mp hvm).1),if_neg (I'.pd v hvP),if_pos hvP]
 ·obtain ⟨D',P',R',I',e1,e2⟩:=Ks hnd I cn fun c hc=>(hP c).mpr hc
  have hP':∀ x,x∉P':=fun x hx=>((e2 x).mp hx).2 ((hP x).mp ((e2 x).mp hx).1)
  have hD':∀ x,x∈D'↔x∈doms rk∧x∉restOf rk Rm:=fun x=>by
   rw [e1,hD,Hh]
   constructor
   ·rintro (⟨h1,h2⟩ | h)
    ·exact ⟨h1,fun h=>h2 h.1⟩
    ·exact ⟨hsub x (Hf.mp h).1,fun h'=>h'.2 h⟩
   ·rintro ⟨h1,h2⟩
    by_cases h3:x∈Rm
    ·exact .inr (AI fun h4=>h2 ⟨h3,h4⟩)
    ·exact .inl ⟨h1,h3⟩
  have hR:∀ x,x∈R'↔x∈cutsOf rk (restOf rk Rm):=fun x=>by
   rw [I'.rm,← Pl hsub hD']
   exact ⟨fun ⟨a,b,c,d⟩=>⟨a,b,d⟩,fun ⟨a,b,d⟩=>⟨a,b,hP' x,d⟩⟩
  have rn:(cutsOf rk (restOf rk Rm)).Nodup:=(hn.sublist A2).sublist A2
  refine ⟨R',I'.rd,fun p hp=>(I'.kd p).mpr ((I'.rm p).mp hp).1,IW I'.rn rn hR,D',P'++R',I'.pass,hD',fun x=>?_⟩
  rw [Aj,hR]
  exact ⟨fun h=>h.resolve_left (hP' x),.inr⟩
end
end
section
section
variable {rk:List (Int×Int)} {Rm:List Int} {S:SS}
theorem Ij {cs:List Int} (h:cs.Pairwise (· < ·)) {i j:Nat} (hij:i<j) (hj:j<cs.length):cs.getD i 0<cs.getD j 0:=by
 have:=Ee.mp h i j (by exact BK (by assumption) (by assumption)) hj hij
 rw [Af,Af,Ac (by exact BK (by assumption) (by assumption)),Ac hj]; exact this
theorem NV {cs:List Int} (h:cs.Pairwise (· < ·)) {i j:Nat} (hij:i≤j) (hj:j<cs.length):cs.getD i 0≤cs.getD j 0:=by
 rcases C3 hij with h1 | rfl
 ·exact Bf (Ij h h1 hj)
 ·exact CN _
theorem Hr {cs:List Int} {k:Nat} {x:Int}:x∈cs.take k↔∃ i,An3 (i<k) (i<cs.length) (cs.getD i 0=x):=by
 rw [Bl]
 constructor
 ·rintro ⟨i,hi⟩
  obtain ⟨h1,h2⟩:=Am.mp hi
  simp only [Dp] at h1
  rw [List.getElem_take] at h2
  exact ⟨i,An h1 (Nat.min_le_left ..),An h1 (Cd ..),by rw [Af,Ac (An h1 (Cd ..))]; exact h2⟩
 ·rintro ⟨i,h1,h2,h3⟩
  refine ⟨i,?_⟩
  rw [El h1,Ac h2]
  rw [Af,Ac h2] at h3
  exact congrArg some h3
theorem Hs {cs:List Int} {k:Nat} {x:Int}:x∈cs.drop k↔∃ i,An3 (k≤i) (i<cs.length) (cs.getD i 0=x):=by
 rw [Bl]
 constructor
 ·rintro ⟨i,hi⟩
  simp only [Dz] at hi
  obtain ⟨h1,h2⟩:=Am.mp hi
  exact ⟨k+i,by exact A3 ..,h1,by rw [Af,Ac h1]; exact h2⟩
 ·rintro ⟨i,h1,h2,h3⟩
  refine ⟨i - k,?_⟩
  simp only [Dz,Eo h1,Ac h2]
  rw [Af,Ac h2] at h3
  exact congrArg some h3
theorem Nd (hasc:(cutsOf rk Rm).Pairwise (· < ·)) {x:Int} (hx:x∈restOf rk Rm) {k:Nat} (hk:k<(cutsOf rk Rm).length) (h1:x<(cutsOf rk Rm).getD k 0) (h0:∀ i,i<k->(cutsOf rk Rm).getD i 0<x):rkV rk ((cutsOf rk Rm).getD k 0)≤rkV rk x:=by
 obtain ⟨c,hc,hcx,hr⟩:=Ir hx
 obtain ⟨j,hj,e⟩:=CH hc
 have e':(cutsOf rk Rm).getD j 0=c:=by rw [Af,Ac hj]; exact e
 have hjk:k≤j:=Bh.mp fun h=>B3 _ (Du (h0 j h) (e'▸hcx))
 rcases C3 hjk with h | rfl
 ·have hm:(cutsOf rk Rm).getD k 0∈cutsOf rk Rm:=by rw [Af,Ac hk]; exact Bo _
  exact Bw (Bf (Pv hm hc (e'▸Ij hasc h hj))) hr
 ·rw [e']; exact hr
theorem IK {cs:List Int} {k:Nat} (h:k<cs.length):cs.getD k 0∈cs:=by rw [Af,Ac h]; exact Bo _
noncomputable def bd (cs:List Int) (k:Nat):Int:=(0::cs).getD k 0
theorem NS (cs:List Int) (k:Nat):bd cs (k+1)=cs.getD k 0:=rfl
structure Stg (rk:List (Int×Int)) (Rm:List Int) (T:SS) (k:Nat) (D P:List Int):Prop where
 i:Inv rk T D P []
 d:∀ x,x∈D↔(x∈doms rk∧x∉Rm)∨x∈(cutsOf rk Rm).drop k
 p:∀ x,x∈P↔x∈(cutsOf rk Rm).take k∨(x∈cutsOf rk (restOf rk Rm)∧bd (cutsOf rk Rm) k<x)
theorem Jv (hnd:(doms rk).Nodup) (hsub:∀ x∈Rm,x∈doms rk) (hn:Rm.Nodup) (hpos:∀ x∈Rm,0<x) (hasc:(cutsOf rk Rm).Pairwise (· < ·)) {T:SS} {k:Nat} {D P:List Int} (hk:k<(cutsOf rk Rm).length) (G:Stg rk Rm T (k+1) D P) :
  (cutsOf rk Rm).getD k 0∈P∧∃ R,An3 (Inv rk (T.done1 ((cutsOf rk Rm).getD k 0)) ((cutsOf rk Rm).getD k 0::D) (P.erase ((cutsOf rk Rm).getD k 0)) R) (R.Perm (gap (cutsOf rk Rm) (cutsOf rk (restOf rk Rm)) (k+1))) (Stg rk Rm (T.sgl ((cutsOf rk Rm).getD k 0)) k ((cutsOf rk Rm).getD k 0::D) (P.erase ((cutsOf rk Rm).getD k 0)++R)):=by
 have hcm:=IK hk
 have hb1:bd (cutsOf rk Rm) (k+1)=(cutsOf rk Rm).getD k 0:=rfl
 have hbl:bd (cutsOf rk Rm) k<(cutsOf rk Rm).getD k 0:=by
  cases k with
  | zero=>exact hpos _ (Hf.mp hcm).1
  | succ k=>exact Ij hasc (AY k) hk
 have hcP:(cutsOf rk Rm).getD k 0∈P:=(G.p _).mpr (.inl (Hr.mpr ⟨k,AY k,hk,rfl⟩))
 have notcut:∀ x,x∈cutsOf rk (restOf rk Rm)->x∈Rm∧x∉cutsOf rk Rm:=fun x hx=>Hh.mp (Hf.mp hx).1
 have mE:∀ x,x∈P.erase ((cutsOf rk Rm).getD k 0)↔x≠(cutsOf rk Rm).getD k 0∧x∈P:=fun x=>G.i.pn.mem_erase_iff
 obtain ⟨R,I'⟩:=G.i.done hnd hcP
 have hD':∀ x,x∈(cutsOf rk Rm).getD k 0::D↔(x∈doms rk∧x∉Rm)∨x∈(cutsOf rk Rm).drop k:=fun x=>by
  rw [Ap,G.d]
  constructor
  ·rintro (rfl | h | h)
   ·exact .inr (Hs.mpr ⟨k,Ak k,hk,rfl⟩)
   ·exact .inl h
   ·obtain ⟨i,a,b,e⟩:=Hs.mp h; exact .inr (Hs.mpr ⟨i,by exact Ay (by assumption),b,e⟩)
  ·rintro (h | h)
   ·exact .inr (.inl h)
   ·obtain ⟨i,a,b,e⟩:=Hs.mp h
    rcases C3 a with a | rfl
    ·exact .inr (.inr (Hs.mpr ⟨i,a,b,e⟩))
    ·exact .inl e.symm
 have hR:∀ x,x∈R↔x∈cutsOf rk (restOf rk Rm)∧bd (cutsOf rk Rm) k<x∧x<(cutsOf rk Rm).getD k 0:=fun x=>by
  rw [I'.rm]
  constructor
  ·rintro ⟨h1,h2,h3,h4⟩
   have n1:=fun h=>h2 ((hD' x).mpr (.inl h))
   have n2:=fun h=>h2 ((hD' x).mpr (.inr h))
   have hxR:x∈Rm:=AI fun h=>n1 ⟨h1,h⟩
   have n3:x∉(cutsOf rk Rm).take k:=fun h=>by
    obtain ⟨i,a,b,e⟩:=Hr.mp h
    refine h3 ((mE x).mpr ⟨fun e2=>?_,(G.p x).mpr (.inl (Hr.mpr ⟨i,by exact AQ (by assumption),b,e⟩))⟩)
    exact absurd (e.trans e2) (CZ (Ij hasc a hk))
   have n4:x∉cutsOf rk Rm:=fun h=>by
    rw [← Cw k (cutsOf rk Rm)] at h
    exact (Aj.mp h).elim n3 n2
   have hxr:x∈restOf rk Rm:=Hh.mpr ⟨hxR,n4⟩
   have hlt:x∈cutsOf rk (restOf rk Rm):=Hf.mpr ⟨hxr,fun q hq hg=>DB.mp fun hl=>by
    obtain ⟨q1,q2⟩:=Hh.mp hq
    rcases (hD' q).mp (h4 q (Hq.mpr ⟨hsub q q1,hg,hl⟩)) with h | h
    ·exact h.2 q1
    ·exact q2 (DN h)⟩
   have below:∀ i,i<k->(cutsOf rk Rm).getD i 0<x:=by
    intro i
    induction i using Nat.strongRecOn with
    | ind i ih =>
     intro hi
     have hil:i<(cutsOf rk Rm).length:=by exact BK (by assumption) (by assumption)
     have hne:(cutsOf rk Rm).getD i 0≠x:=fun e=>n4 (e▸IK hil)
     refine AI fun hc=>?_
     have hgt:=Iq hc hne
     have hr:=Nd hasc hxr hil hgt fun i' hi'=>ih i' hi' (by exact BK (by assumption) (by assumption))
     have hcd:=IK hil
     rcases (hD' _).mp (h4 _ (Hq.mpr ⟨hsub _ (Hf.mp hcd).1,hgt,hr⟩)) with h | h
     ·exact h.2 (Hf.mp hcd).1
     ·obtain ⟨i2,a,b,e⟩:=Hs.mp h
      exact absurd e.symm (CZ (Ij hasc (An hi a) b))
   refine ⟨hlt,?_,?_⟩
   ·cases k with
    | zero=>exact hpos x hxR
    | succ k=>exact below k (AY k)
   ·have hne:x≠(cutsOf rk Rm).getD k 0:=fun e=>n4 (e▸hcm)
    refine AI fun hc=>?_
    exact h3 ((mE x).mpr ⟨hne,(G.p x).mpr (.inr ⟨hlt,Iq hc hne⟩)⟩)
  ·rintro ⟨h1,h2,h3⟩
   obtain ⟨a1,a2⟩:=notcut x h1
   refine ⟨hsub x a1,fun h=>?_,fun h=>?_,fun q hq=>(hD' q).mpr ?_⟩
   ·rcases (hD' x).mp h with h | h
    ·exact h.2 a1
    ·exact a2 (DN h)
   ·rcases (G.p x).mp ((mE x).mp h).2 with h | h
    ·exact a2 (Cf h)
    ·exact B3 _ (Du h.2 h3)
   ·obtain ⟨q1,q2,q3⟩:=Hq.mp hq
    by_cases hqR:q∈Rm
    ·by_cases hqc:q∈cutsOf rk Rm
     ·refine .inr ?_
      obtain ⟨i,hi,e⟩:=CH hqc
      have e':(cutsOf rk Rm).getD i 0=q:=by rw [Af,Ac hi]; exact e
      refine Hs.mpr ⟨i,Bh.mp fun hik=>?_,hi,e'⟩
      cases k with
      | zero=>exact absurd hik (CX _)
      | succ k =>
       have:=NV hasc (show i≤k by exact B2 (by assumption)) (by exact Ay (by assumption))
       exact B3 _ (B8 (Du h2 q2) (e'▸this))
     ·exact absurd ((Hf.mp h1).2 q (Hh.mpr ⟨hqR,hqc⟩) q2) (BE.mpr q3)
    ·exact .inl ⟨q1,hqR⟩
 have gn:(gap (cutsOf rk Rm) (cutsOf rk (restOf rk Rm)) (k+1)).Nodup:=((hn.sublist A2).sublist A2).sublist A2
 refine ⟨hcP,R,I',IW I'.rn gn fun x=>?_,?_,hD',fun x=>?_⟩
 ·rw [hR]
  unfold gap
  rw [BC,decide_eq_true_iff]; rfl
 ·have:=I'.pass
  unfold SS.sgl
  rw [I'.rd]; exact this
 ·rw [Aj,mE,G.p,hR]
  constructor
  ·rintro (⟨h1,h2 | h2⟩ | h)
   ·obtain ⟨i,a,b,e⟩:=Hr.mp h2
    refine .inl (Hr.mpr ⟨i,?_,b,e⟩)
    rcases C3 (B2 a) with a | rfl
    ·exact a
    ·exact absurd e.symm h1
   ·exact .inr ⟨h2.1,Du hbl h2.2⟩
   ·exact .inr ⟨h.1,h.2.1⟩
  ·rintro (h | ⟨h1,h2⟩)
   ·obtain ⟨i,a,b,e⟩:=Hr.mp h
    refine .inl ⟨fun e2=>?_,.inl (Hr.mpr ⟨i,by exact AQ (by assumption),b,e⟩)⟩
    exact absurd (e.trans e2) (CZ (Ij hasc a hk))
   ·have hne:x≠(cutsOf rk Rm).getD k 0:=fun e=>(notcut x h1).2 (e▸hcm)
    by_cases hc:x<(cutsOf rk Rm).getD k 0
    ·exact .inr ⟨h1,h2,hc⟩
    ·exact .inl ⟨hne,.inr ⟨h1,Iq hc hne⟩⟩
theorem SZ (hnd:(doms rk).Nodup) (hz:rk.length≤7) (hsub:∀ x∈Rm,x∈doms rk) (hn:Rm.Nodup) (hpos:∀ x∈Rm,0<x) (hasc:(cutsOf rk Rm).Pairwise (· < ·)) (I:RInv rk S Rm (cutsOf rk Rm)) :
  (∀ (j:Nat) c,(cutsOf rk Rm).reverse[j]?=some c->K8 (((cutsOf rk Rm).reverse.take j).foldl SS.sgl S) 7∧c∈(((cutsOf rk Rm).reverse.take j).foldl SS.sgl S).keys∧(((cutsOf rk Rm).reverse.take j).foldl SS.sgl S).np c=-1 ∧
   ∃ zs,An3 (((((cutsOf rk Rm).reverse.take j).foldl SS.sgl S).done1 c).rdy=some zs) ((∀ p∈zs,p∈((((cutsOf rk Rm).reverse.take j).foldl SS.sgl S).done1 c).keys)) (zs.Perm (gap (cutsOf rk Rm) (cutsOf rk (restOf rk Rm)) ((cutsOf rk Rm).length - j)))) ∧
  RInv rk ((cutsOf rk Rm).reverse.foldl SS.sgl S) (restOf rk Rm) (cutsOf rk (restOf rk Rm)):=by
 have hrev:∀ j,j<(cutsOf rk Rm).length->(cutsOf rk Rm).reverse[j]?=some ((cutsOf rk Rm).getD ((cutsOf rk Rm).length - 1 - j) 0):=fun j hj=>by
  rw [EI hj,Af,Ac (Kh hj)]; rfl
 have st:∀ j,j≤(cutsOf rk Rm).length->Ex2 fun D P=>Stg rk Rm (((cutsOf rk Rm).reverse.take j).foldl SS.sgl S) ((cutsOf rk Rm).length - j) D P:=by
  intro j
  induction j with
  | zero =>
   intro _
   obtain ⟨D,P,I,hD,hP⟩:=I
   refine ⟨D,P,I,fun x=>?_,fun x=>?_⟩
   ·simp only [hD,Nat.sub_zero,E5]; simp
   ·simp only [hP,Nat.sub_zero,CO]
    refine ⟨.inl,fun h=>h.elim id fun ⟨h1,h2⟩=>?_⟩
    exfalso
    obtain ⟨c,hc,hcx,_⟩:=Ir (Hf.mp h1).1
    obtain ⟨i,hi,e⟩:=CH hc
    have e':(cutsOf rk Rm).getD i 0=c:=by simp only [Af,Ac hi]; exact e
    have hl:0<(cutsOf rk Rm).length:=Cp hi
    have:bd (cutsOf rk Rm) (cutsOf rk Rm).length=(cutsOf rk Rm).getD ((cutsOf rk Rm).length - 1) 0:=by
     conv=>lhs; rw [← Cc hl]
     rfl
    simp only [this] at h2
    exact B3 _ (Du h2 (B8 hcx (Bw (DJ e'.symm) (NV hasc (B6 hi) (Br hl)))))
  | succ j ih =>
   intro hj
   obtain ⟨D,P,G⟩:=ih (by exact Ay (by assumption))
   rw [show (cutsOf rk Rm).length - j=((cutsOf rk Rm).length - (j+1))+1 from IQ (by assumption)] at G
   obtain ⟨_,R,_,_,G'⟩:=Jv hnd hsub hn hpos hasc (Gf (Cp hj) (CW _)) G
   rw [show (cutsOf rk Rm).length - (j+1)=(cutsOf rk Rm).length - 1 - j from by rw [FI,BU 1]] at G'
   rw [Hu SS.sgl S _ (hrev j (by assumption)),show (cutsOf rk Rm).length - (j+1)=(cutsOf rk Rm).length - 1 - j from by rw [FI,BU 1]]
   exact ⟨_,_,G'⟩
 refine ⟨fun j c hc=>?_,?_⟩
 ·have hj:j<(cutsOf rk Rm).length:=by have:=(Am.mp hc).1; rwa [EW] at this
  obtain ⟨D,P,G⟩:=st j (by exact Ay (by assumption))
  simp only [hrev j hj] at hc
  have hc:=(Option.some.inj hc)
  rw [show (cutsOf rk Rm).length - j=((cutsOf rk Rm).length - 1 - j)+1 from LZ (by assumption)] at G ⊢
  obtain ⟨h1,R,I',hp,_⟩:=Jv hnd hsub hn hpos hasc (Kh hj) G
  rw [hc] at h1 I'
  have hcd:=(G.i.dp c (.inr h1)).1
  exact ⟨G.i.ok hz,(G.i.kd c).mpr hcd,by rw [G.i.np c hcd,if_neg (G.i.pd c h1),if_pos h1],R,I'.rd,fun p hp=>(I'.kd p).mpr ((I'.rm p).mp hp).1,hp⟩
 ·obtain ⟨D,P,G⟩:=st _ (Ak _)
  rw [G9,AR (by rw [EW]; exact Ak _)] at G
  refine ⟨D,P,G.i,fun x=>?_,fun x=>?_⟩
  ·rw [G.d,List.drop_zero,Hh]
   constructor
   ·rintro (⟨h1,h2⟩ | h)
    ·exact ⟨h1,fun h=>h2 h.1⟩
    ·exact ⟨hsub x (Hf.mp h).1,fun h'=>h'.2 h⟩
   ·rintro ⟨h1,h2⟩
    by_cases h3:x∈Rm
    ·exact .inr (AI fun h4=>h2 ⟨h3,h4⟩)
    ·exact .inl ⟨h1,h3⟩
  ·rw [G.p,List.take_zero]
   exact ⟨fun h=>h.elim nofun (·.1),fun h=>.inr ⟨h,hpos x (Hh.mp (Hf.mp h).1).1⟩⟩
end
end
section
noncomputable def CutD (pre:List Int) (d:Int):Prop:=∀ e∈pre,e<d->plc e<plc d
structure RI (pre:List Int) (cs ks:List Int):Prop where
 a:cs.Pairwise (· < ·)
 b:∀ e∈pre,∃ c∈cs,plc e≤c
 d:∀ x,x∈cs↔∃ d∈pre,plc d=x∧CutD pre d
 e:∀ x,x∈ks↔x∈pre∧¬CutD pre x
 n:ks.Nodup
theorem JO {cs:List Int} (h:cs.Pairwise (· < ·)) (hne:cs≠[]):cs.getLastD 0∈cs∧∀ x∈cs,x≤cs.getLastD 0:=by
 rcases DE cs with rfl | ⟨r,z,rfl⟩
 ·exact absurd rfl hne
 ·rw [DG] at h ⊢
  have e:(r++[z]).getLastD 0=z:=by rw [BY,Df]; rfl
  rw [e]
  refine ⟨by simp,fun x hx=>?_⟩
  rcases Aj.mp hx with hx | hx
  ·exact Bf ((Bj.mp h).2.2 x hx z (.head _))
  ·rw [Al.mp hx]; exact CN _
theorem RI.step {pre cs ks:List Int} (I:RI pre cs ks) {d:Int} (hd:∀ e∈pre,e<d):RI (pre++[d]) (rstep (cs,ks) d).1 (rstep (cs,ks) d).2:=by
 have old:∀ x∈pre,(CutD (pre++[d]) x↔CutD pre x):=fun x hx=>⟨fun h e he=>h e (Aj.mpr (.inl he)),fun h e he hl=>by
  rcases Aj.mp he with he | he
  ·exact h e he hl
  ·rw [Al.mp he] at hl; exact absurd (hd x hx) (Int.lt_asymm hl)⟩
 have new:CutD (pre++[d]) d↔∀ e∈pre,plc e<plc d:=⟨fun h e he=>h e (Aj.mpr (.inl he)) (hd e he),fun h e he hl=>by
  rcases Aj.mp he with he | he
  ·exact h e he
  ·rw [Al.mp he] at hl; exact absurd hl (B3 _)⟩
 have dn:d∉pre:=fun h=>B3 _ (hd d h)
 have key:(cs=[]∨plc d>cs.getLastD 0)↔∀ e∈pre,plc e<plc d:=by
  constructor
  ·rintro (h | h) e he
   ·obtain ⟨c,hc,_⟩:=I.b e he; rw [h] at hc; cases hc
   ·obtain ⟨c,hc,hl⟩:=I.b e he
    exact C4 (Bw hl ((JO I.a (Fi hc)).2 c hc)) h
  ·intro h
   by_cases hc:cs=[]
   ·exact .inl hc
   ·obtain ⟨e,he,h1,_⟩:=(I.d _).mp (JO I.a hc).1
    exact .inr (h1▸h e he)
 unfold rstep
 by_cases hc:cs=[]∨plc d>cs.getLastD 0
 ·rw [if_pos hc]
  have hall:=key.mp hc
  have gt:∀ x∈cs,x<plc d:=fun x hx=>by
   obtain ⟨e,he,h1,_⟩:=(I.d x).mp hx; exact h1▸hall e he
  refine ⟨Bj.mpr ⟨I.a,by simp,fun x hx y hy=>by rw [Al.mp hy]; exact gt x hx⟩,fun e he=>?_,fun x=>?_,fun x=>?_,I.n⟩
  ·rcases Aj.mp he with he | he
   ·obtain ⟨c,h1,h2⟩:=I.b e he; exact ⟨c,Aj.mpr (.inl h1),h2⟩
   ·rw [Al.mp he]; exact ⟨plc d,by simp,CN _⟩
  ·rw [Aj,I.d]
   constructor
   ·rintro (⟨e,he,h1,h2⟩ | h)
    ·exact ⟨e,Aj.mpr (.inl he),h1,(old e he).mpr h2⟩
    ·exact ⟨d,by simp,(Al.mp h).symm,new.mpr hall⟩
   ·rintro ⟨e,he,h1,h2⟩
    rcases Aj.mp he with he | he
    ·exact .inl ⟨e,he,h1,(old e he).mp h2⟩
    ·rw [Al.mp he] at h1; exact .inr (by simp [h1])
  ·rw [I.e]
   constructor
   ·rintro ⟨h1,h2⟩; exact ⟨Aj.mpr (.inl h1),fun h=>h2 ((old x h1).mp h)⟩
   ·rintro ⟨h1,h2⟩
    rcases Aj.mp h1 with h1 | h1
    ·exact ⟨h1,fun h=>h2 ((old x h1).mpr h)⟩
    ·rw [Al.mp h1] at h2; exact absurd (new.mpr hall) h2
 ·rw [if_neg hc]
  have hno:¬CutD (pre++[d]) d:=fun h=>hc (key.mpr (new.mp h))
  refine ⟨I.a,fun e he=>?_,fun x=>?_,fun x=>?_,?_⟩
  ·rcases Aj.mp he with he | he
   ·exact I.b e he
   ·rw [Al.mp he]
    have h1:cs≠[]:=fun h=>hc (.inl h)
    exact ⟨_,(JO I.a h1).1,BE.mp fun h=>hc (.inr h)⟩
  ·show x∈cs↔_
   rw [I.d]
   constructor
   ·rintro ⟨e,he,h1,h2⟩; exact ⟨e,Aj.mpr (.inl he),h1,(old e he).mpr h2⟩
   ·rintro ⟨e,he,h1,h2⟩
    rcases Aj.mp he with he | he
    ·exact ⟨e,he,h1,(old e he).mp h2⟩
    ·rw [Al.mp he] at h2; exact absurd h2 hno
  ·rw [Aj,I.e]
   constructor
   ·rintro (⟨h1,h2⟩ | h)
    ·exact ⟨Aj.mpr (.inl h1),fun h=>h2 ((old x h1).mp h)⟩
    ·rw [Al.mp h]; exact ⟨by simp,hno⟩
   ·rintro ⟨h1,h2⟩
    rcases Aj.mp h1 with h1 | h1
    ·exact .inl ⟨h1,fun h=>h2 ((old x h1).mpr h)⟩
    ·exact .inr h1
  ·exact BH.mpr ⟨I.n,by simp,fun x hx y hy e=>dn (by rw [← Al.mp hy,← e]; exact ((I.e x).mp hx).1)⟩
theorem QQ (suf:List Int):∀ (pre cs ks:List Int),RI pre cs ks->(pre++suf).Pairwise (· < ·)->RI (pre++suf) (suf.foldl rstep (cs,ks)).1 (suf.foldl rstep (cs,ks)).2:=by
 induction suf with
 | nil=>exact fun pre cs ks I _=>(AL pre).symm▸I
 | cons d suf ih =>
  intro pre cs ks I h
  rw [List.append_cons] at h ⊢
  exact ih (pre++[d]) _ _ (I.step fun x hx=>(Bj.mp (Bj.mp h).1).2.2 x hx d (.head _)) h
section
variable {rk:List (Int×Int)} {Rm:List Int}
noncomputable def keyOf (rk:List (Int×Int)) (p:Int):Int:=16*rkV rk p+15 - p
theorem QU {p:Int} (h0:0≤p) (h1:p≤15):plc (keyOf rk p)=p:=by
 unfold plc keyOf
 rw [Int.fmod_eq_emod_of_nonneg _ (by decide),Int.add_sub_assoc,F3,Int.add_mul_emod_self_left,Int.emod_eq_of_lt (Int.sub_nonneg.mpr h1) (C4 (Int.sub_le_self 15 h0) (by decide)),Int.sub_sub_self]
theorem HE {p:Int} (h:0<p∧p≤7):plc (keyOf rk p)=p:=QU (Bf h.1) (Bw h.2 (by decide))
theorem Ql {p q:Int} (hp:0<p∧p≤7) (hq:0<q∧q≤7):(keyOf rk q<keyOf rk p->q<p)↔(q>p->rkV rk p<rkV rk q):=by
 unfold keyOf; constructor
 ·intro h hg; exact AI fun hc=>Int.lt_asymm hg (h (Int.sub_lt_sub_of_le_of_lt (Int.add_le_add_right (Int.mul_le_mul_of_nonneg_left (BE.mp hc) (by decide)) 15) hg))
 ·intro h hl
  exact AI fun hc=>by
   by_cases e:q=p
   ·subst e; exact B3 _ hl
   ·have:=h (Iq hc e); lia
theorem Ki (hr:∀ x∈Rm,0<x∧x≤7) (hasc:Rm.Pairwise (· < ·)) {ds:List Int} (hp:ds.Perm (Rm.map (keyOf rk))) (hs:ds.Pairwise (· ≤ ·)):(recs ds).1=cutsOf rk Rm∧(recs ds).2.Perm ((restOf rk Rm).map (keyOf rk)):=by
 have inj:∀ x∈Rm,∀ y∈Rm,keyOf rk x=keyOf rk y->x=y:=fun x hx y hy e=>by
  have h1:=hr x hx; have h2:=hr y hy
  exact (HE h1).symm.trans ((congrArg plc e).trans (HE h2))
 have nodup_map:∀ {l:List Int},l.Pairwise (· < ·)->(∀ x∈l,x∈Rm)->(l.map (keyOf rk)).Nodup:=fun {l} h1 h2=>Fu.mpr (h1.imp_of_mem fun {a b} ha hb hab e=>CZ hab (inj a (h2 a ha) b (h2 b hb) e))
 have hnd:ds.Nodup:=hp.nodup_iff.mpr (nodup_map hasc fun _ h=>h)
 have hlt:ds.Pairwise (· < ·):=(hs.and hnd).imp fun {x y} ⟨a,b⟩=>DQ.mpr ⟨a,b⟩
 have I:=QQ ds [] [] [] ⟨.nil,nofun,fun x=>⟨nofun,fun ⟨_,h,_⟩=>nomatch h⟩,fun x=>⟨nofun,fun h=>nomatch h.1⟩,.nil⟩ (by simpa using hlt)
 rw [List.nil_append] at I
 have I:RI ds (recs ds).1 (recs ds).2:=I
 have dm:∀ x,x∈ds↔∃ p∈Rm,keyOf rk p=x:=fun x=>by rw [hp.mem_iff,As]
 have cutIff:∀ p∈Rm,(CutD ds (keyOf rk p)↔p∈cutsOf rk Rm):=fun p hp'=>by
  have h1:=hr p hp'
  rw [Hf]
  constructor
  ·intro h
   refine ⟨hp',fun q hq hg=>?_⟩
   have h2:=hr q hq
   refine (Ql h1 h2).mp (fun hl=>?_) hg
   have:=h _ ((dm _).mpr ⟨q,hq,rfl⟩) hl
   rwa [HE h2,HE h1] at this
  ·rintro ⟨_,h⟩ e he hl
   obtain ⟨q,hq,rfl⟩:=(dm e).mp he
   have h2:=hr q hq
   rw [HE h2,HE h1]
   exact (Ql h1 h2).mpr (h q hq) hl
 have casc:(cutsOf rk Rm).Pairwise (· < ·):=hasc.sublist A2
 have rasc:(restOf rk Rm).Pairwise (· < ·):=hasc.sublist A2
 refine ⟨Il (IW (I.a.imp CZ) (casc.imp CZ) fun x=>?_) (I.a.imp Bf) (casc.imp Bf),IW I.n (nodup_map rasc fun x hx=>(Hh.mp hx).1) fun x=>?_⟩
 ·rw [I.d]
  constructor
  ·rintro ⟨d,hd,h1,h2⟩
   obtain ⟨p,hp',rfl⟩:=(dm d).mp hd
   have h3:=hr p hp'
   rw [HE h3] at h1
   rw [← h1]; exact (cutIff p hp').mp h2
  ·intro hx
   have hx':=(Hf.mp hx).1
   have h3:=hr x hx'
   exact ⟨_,(dm _).mpr ⟨x,hx',rfl⟩,HE h3,(cutIff x hx').mpr hx⟩
 ·rw [I.e,As,dm]
  constructor
  ·rintro ⟨⟨p,hp',rfl⟩,h2⟩
   exact ⟨p,Hh.mpr ⟨hp',fun h=>h2 ((cutIff p hp').mpr h)⟩,rfl⟩
  ·rintro ⟨p,hp',rfl⟩
   obtain ⟨a,b⟩:=Hh.mp hp'
   exact ⟨⟨p,a,rfl⟩,fun h=>b ((cutIff p a).mp h)⟩
end
end
section
open Builtin Builtin.Str
noncomputable def sg (m:Ch) (ch:Nat):Bool:=m.1==[ch]||m.2.take 1==[ch]
noncomputable abbrev allM:List Ch:=[[],[59],[44]].flatMap fun a=>[[],[32],[9],[32,9]].map fun b=>(a,b)
theorem LB {m:Ch} (h:MOk m):m∈allM:=List.mem_flatMap.mpr ⟨m.1,by simpa using h.1,As.mpr ⟨m.2,by simpa using h.2,rfl⟩⟩
theorem OE:(allL 4).all (fun o=>allM.all fun m=>rankOf o m==(o.findIdx? (sg m)).map fun (n:Nat)=>(n:Int))=true:=by decide +kernel
theorem RD:stems.all (fun s=>allM.all fun m=>sgn.all fun ch=>((C5 (S [ch])&&(m.2.head?==some ch))||((s++m.1).getLast?==some ch))==sg m ch)=true:=by decide +kernel
theorem KN {o:List Nat} {m:Ch} (h:MOk m) (ho1:o.length≤4) (ho2:∀ c∈o,c∈sgn):rankOf o m=(o.findIdx? (sg m)).map fun (n:Nat)=>(n:Int) :=
 beq_iff_eq.mp (AX.mp (AX.mp OE o (JM 4 o ho1 ho2)) m (LB h))
theorem Ph {m:Ch} (h:MOk m) {s:List Nat} (hs:s∈stems) {ch:Nat} (hc:ch∈sgn):((C5 (S [ch])&&(m.2.head?==some ch))||((s++m.1).getLast?==some ch))=sg m ch :=
 beq_iff_eq.mp (AX.mp (AX.mp (AX.mp RD s hs) m (LB h)) ch hc)
noncomputable def tl (size j:Nat):List Ch:=([],Az (size+1) 122)::Az j ([],[])
theorem PQ (size j:Nat):(tl size j).length=j+1:=by unfold tl; rw [AW,C2]
theorem PP {size j:Nat} {x:Ch} (h:x∈tl size j):x.1=[]∧(x.2=Az (size+1) 122∨x.2=[]):=by
 unfold tl at h
 rcases Ap.mp h with rfl | h
 ·exact ⟨rfl,.inl rfl⟩
 ·rw [(Ea.mp h).2]; exact ⟨rfl,.inr rfl⟩
theorem M6 (size j i:Nat):((tl size j)[i]?.getD ([],[])).1=[]∧(((tl size j)[i]?.getD ([],[])).2=Az (size+1) 122∨((tl size j)[i]?.getD ([],[])).2=[]):=by
 rcases GB i (tl size j).length with h | h
 ·rw [Ac h]; exact PP (Bo h)
 ·rw [BI h]; exact ⟨rfl,.inr rfl⟩
section
variable {ms:List Ch} {size j c ch:Nat}
noncomputable abbrev mk (ms:List Ch) (k:Nat):Ch:=ms[k]?.getD ([],[])
theorem Hm (ms:List Ch):(mkCh ms).length=8:=by unfold mkCh; rw [Ae,AN]
theorem Rg (ms:List Ch) {k:Nat} (h:k<8):(mkCh ms)[k]?=some (chunkAt ms k):=by
 unfold mkCh; rw [Ai,BW h]; rfl
theorem Mx (hc:c≤7) {i:Nat} (h:c+i<8):((mkCh ms).drop c++tl size j)[i]?=some (chunkAt ms (c+i)):=by
 rw [BD (by rw [Bn,Hm]; exact Dj (by rw [BU]; exact h)),Dz,Rg ms h]
theorem My (hc:c≤7) {i:Nat} (h:8≤c+i):((mkCh ms).drop c++tl size j)[i]?=(tl size j)[c+i - 8]?:=by
 rw [B4 (by rw [Bn,Hm]; exact Nat.sub_le_iff_le_add'.mpr h),Bn,Hm,JD (AK hc)]
theorem Jm (hz:ms.length=7) {k:Nat} (h:k<7):(chunkAt ms (k+1)).1=(mk ms k).2:=by
 show (whitesL ms).getD (k+1) []=_
 unfold whitesL
 rw [Af,Gz,Cj,Ai]; unfold mk; rw [Ac (AJ h hz.symm)]; rfl
theorem Kz (hz:ms.length=7) {k:Nat} (h:k<7):(chunkAt ms k).2=stems.getD k []++(mk ms k).1:=by
 show _++(endsL ms).getD k []=_
 congr 1
 unfold endsL
 rw [Af,BD (by rw [Ae,hz]; exact h),Ai]; unfold mk; rw [Ac (AJ h hz.symm)]; rfl
theorem J6 (hz:ms.length=7):(chunkAt ms 7).2=[9,104]:=by
 have:(endsL ms).getD 7 []=[]:=by
  unfold endsL
  rw [Af,B4 (by rw [Ae,hz]; exact Ak _),Ae,hz]; rfl
 show _++(endsL ms).getD 7 []=_
 rw [this]; rfl
theorem KR (hz:ms.length=7) (hm:∀ m∈ms,MOk m) (k:Nat):MOk (mk ms k):=by
 rcases GB k ms.length with h | h
 ·show MOk (ms[k]?.getD _); rw [Ac h]; exact hm _ (Bo h)
 ·show MOk (ms[k]?.getD _); rw [BI h]; exact ⟨.inl rfl,.inl rfl⟩
theorem Lp {k:Nat} (h:k<8):stems.getD k []∈stems:=by
 rw [Af,Ac (show k<stems.length from h)]; exact Bo _
theorem N0 (hz:ms.length=7) (hm:∀ m∈ms,MOk m) (hc:c≤7) (hch:ch∈sgn) {i:Nat} (hi:0<i):hit ch ((mkCh ms).drop c++tl size j) i=if c+i≤7 then sg (mk ms (c+i - 1)) ch else false:=by
 unfold hit hitF hitP
 by_cases h:c+i≤7
 ·rw [if_pos h,Mx hc (by exact B1 (by assumption)),Mx hc (Ag (AS (Bp ..) c) (B1 h)),Di,Di,show c+(i - 1)=c+i - 1 from (Ep hi c).symm]
  obtain ⟨k,hk⟩:=CR (AG (Fy c hi))
  have h7:k<7:=Nat.lt_of_succ_le (hk▸h)
  rw [hk,Nat.succ_sub_one,Jm hz h7,Kz hz h7]
  exact Ph (KR hz hm k) (Lp (AQ h7)) hch
 ·rw [if_neg h,My hc (by exact DS.mp (by assumption)),(M6 ..).1]
  have e:((((mkCh ms).drop c++tl size j)[i - 1]?.getD ([],[])).2.getLast?==some ch)=false:=by
   by_cases h2:c+i=8
   ·rw [Mx hc (by rw [← Ep hi c,h2]; decide),Di,show c+(i - 1)=7 from by rw [← Ep hi c,h2],J6 hz]
    revert hch; revert ch; decide
   ·rw [My hc (by rw [← Ep hi c]; exact B6 (Nat.lt_of_le_of_ne (DS.mp h) (Dc h2)))]
    rcases (M6 size j (c+(i - 1) - 8)).2 with e | e
    ·rw [e,List.getLast?_replicate,if_neg (F6 _)]
     revert hch; revert ch; decide
    ·rw [e]; rfl
  rw [e]; simp
theorem Sv (hc:c≤7):((mkCh ms).drop c++tl size j).length=9 - c+j:=by rw [A6,Bn,Hm,PQ,show 9 - c=8 - c+1 from Nat.succ_sub (AK hc),D4]; rfl
theorem J3 (hz:ms.length=7) (hm:∀ m∈ms,MOk m) (hc:c≤7) (hch:ch∈sgn) (h:∀ q,c≤q->q<7->sg (mk ms q) ch=false):findI ((mkCh ms).drop c++tl size j) ch=none:=by
 refine Kt fun k i hk=>?_
 obtain ⟨h1,h2⟩:=HT hk
 have hi:0<i:=h2▸BX h1
 rw [N0 hz hm hc hch hi]
 by_cases q:c+i≤7
 ·rw [if_pos q]; exact h _ (B6 (Gq hi)) (An (FX (AG (Fy c hi))) q)
 ·rw [if_neg q]
theorem Pq (hz:ms.length=7) (hm:∀ m∈ms,MOk m) (hc:c≤7) (hch:ch∈sgn) {p:Nat} (hp:c≤p∧p<7) (h1:sg (mk ms p) ch=true) (h:∀ q,p<q->q<7->sg (mk ms q) ch=false):findI ((mkCh ms).drop c++tl size j) ch=some (p+1 - c):=by
 have hl:=Sv (ms:=ms) (size:=size) (j:=j) hc
 obtain ⟨hp,h7⟩:=hp
 obtain ⟨d,rfl⟩:=Gr hp
 rw [DR,D3]
 have hN:d+1<((mkCh ms).drop c++tl size j).length:=by rw [hl]; exact An (Dj (by rw [D4,BU d]; exact AQ (DM h7))) (A3 ..)
 refine N7 (k:=((mkCh ms).drop c++tl size j).length - 1 - (d+1)) ?_ ?_ fun j' y hj hy=>?_
 ·unfold downs
  rw [Ai,BW (Gf (BX (Ag (CC ..) hN)) (CW d))]
  exact congrArg some (JC hN)
 ·rw [N0 hz hm hc hch (CW d),if_pos (show c+(d+1)≤7 from h7)]; exact h1
 ·obtain ⟨h2,h3⟩:=HT hy
  have hy':d+1<y:=h3▸Dj (by rw [BU]; exact GO hj)
  have hi:0<y:=Ag (A4 _) hy'
  rw [N0 hz hm hc hch hi]
  by_cases q:c+y≤7
  ·rw [if_pos q]; exact h _ (Dj (CM hy' c)) (An (FX (AG (Fy c hi))) q)
  ·rw [if_neg q]
noncomputable def Rk (o:List Nat) (ms:List Ch) (rk:List (Int×Int)) (Rm:List Int):Prop:=∀ k,k<7->rankOf o (mk ms k)=if ((k+1:Nat):Int)∈Rm then some (rkV rk ((k+1:Nat):Int)) else none
variable {o:List Nat} {rk:List (Int×Int)} {Rm:List Int}
theorem Pw (hz:ms.length=7) (hm:∀ m∈ms,MOk m) (ho1:o.length≤4) (ho2:∀ c∈o,c∈sgn) (R:Rk o ms rk Rm) (hc:c≤7) (h:∀ q∈Rm,q≤c):findCut o ((mkCh ms).drop c++tl size j)=none:=by
 unfold findCut
 refine FK.mpr fun ch hch=>J3 hz hm hc (ho2 ch hch) fun q h1 h2=>?_
 have:=R q h2
 rw [if_neg (fun hq=>GN q (Ab (Be.mp (h _ hq)) h1)),KN (KR hz hm q) ho1 ho2,Ex,FP] at this
 exact this ch hch
theorem TI (hz:ms.length=7) (hm:∀ m∈ms,MOk m) (ho1:o.length≤4) (ho2:∀ c∈o,c∈sgn) (R:Rk o ms rk Rm) (hc:c≤7) {p:Nat} (hp:c≤p∧p<7) (hcut:((p+1:Nat):Int)∈cutsOf rk Rm) (hleast:∀ q∈cutsOf rk Rm,(c:Int)<q->((p+1:Nat):Int)≤q):findCut o ((mkCh ms).drop c++tl size j)=some (p+1 - c):=by
 obtain ⟨hpm,hpr⟩:=Hf.mp hcut
 have low:∀ q∈Rm,(c:Int)<q->rkV rk ((p+1:Nat):Int)≤rkV rk q:=fun q hq hg=>by
  by_cases hqc:q∈cutsOf rk Rm
  ·have h1:=hleast q hqc hg
   by_cases e:q=((p+1:Nat):Int)
   ·simp only [e]; exact CN _
   ·exact Bf (hpr q hq (DQ.mpr ⟨h1,Dc e⟩))
  ·obtain ⟨d,hd,hdq,hdr⟩:=Ir (Hh.mpr ⟨hq,hqc⟩)
   have h1:=hleast d hd (Du hg hdq)
   by_cases e:d=((p+1:Nat):Int)
   ·rw [← e]; exact hdr
   ·exact Bw (Bf (hpr d (Hf.mp hd).1 (DQ.mpr ⟨h1,Dc e⟩))) hdr
 have Rp:=R p hp.2
 rw [if_pos hpm,KN (KR hz hm p) ho1 ho2,Ao] at Rp
 obtain ⟨r,hr,er⟩:=Rp
 obtain ⟨r1,r2,r3⟩:=D0.mp hr
 have none_below:∀ q,q<7->∀ i (hi:i<o.length),(((q+1:Nat):Int)∈Rm->(i:Int)<rkV rk ((q+1:Nat):Int))->sg (mk ms q) o[i]=false:=fun q hq i hi h=>by
  have Rq:=R q hq
  simp only [KN (KR hz hm q) ho1 ho2] at Rq
  by_cases hqm:((q+1:Nat):Int)∈Rm
  ·rw [if_pos hqm,Ao] at Rq
   obtain ⟨s,hs,es⟩:=Rq
   obtain ⟨s1,s2,s3⟩:=D0.mp hs
   have:=h hqm
   exact Fx.mpr (s3 i (B7.mp (B8 this (DJ es.symm))))
  ·rw [if_neg hqm,Ex,FP] at Rq
   exact Rq _ (Bo hi)
 refine MA (Ac r1) (Pq hz hm hc (ho2 _ (Bo r1)) hp r2 fun q h1 h2=>none_below q h2 r r1 fun hq=>?_) fun j' y hj hy=>?_
 ·have:=hpr _ hq (B7.mpr (DM h1))
  simp only [er]; exact this
 ·obtain ⟨y1,y2⟩:=Am.mp hy
  subst y2
  refine J3 hz hm hc (ho2 _ (Bo y1)) fun q h1 h2=>none_below q h2 j' y1 fun hq=>?_
  exact B8 (B7.mpr hj) (Bw (DJ er) (low _ hq (B7.mpr (B1 h1))))
end
end
section
open Builtin Builtin.Str
theorem NT {cs:List Int} (h:(0::cs).Pairwise (· < ·)) {i j:Nat} (hij:i≤j) (hj:j≤cs.length):bd cs i≤bd cs j:=NV h hij (B1 hj)
noncomputable def bn (cs:List Int) (k:Nat):Nat:=(bd cs k).toNat
noncomputable def cutN (cs:List Int):List Nat:=cs.map Int.toNat
section
variable {cs:List Int}
theorem NP (h:(0::cs).Pairwise (· < ·)) {k:Nat} (hk:k≤cs.length):(bn cs k:Int)=bd cs k:=by
 have:=NT h (A4 k) hk
 exact DW this
theorem UK (h:(0::cs).Pairwise (· < ·)) {i j:Nat} (hij:i≤j) (hj:j≤cs.length):bn cs i≤bn cs j:=by
 have:=NT h hij hj
 unfold bn; exact Int.toNat_le_toNat this
theorem bn_7 (h7:∀ x∈cs,0<x∧x≤7) (k:Nat):bn cs k≤7:=by
 unfold bn bd
 rw [Af]
 cases h:(0::cs)[k]? with
 | none=>exact A4 _
 | some x =>
  rcases Ap.mp (Au h) with rfl | hx
  ·exact A4 _
  ·exact Int.toNat_le.mpr (h7 x hx).2
theorem Lf (cs:List Int) {k:Nat} (hk:k≤cs.length):(bnds (cutN cs) 8).getD k 0=bn cs k:=by
 unfold bnds bn bd cutN
 cases k with
 | zero=>rfl
 | succ k =>
  rw [Af,Af,Cj,Cj,BD (by rw [Ae]; assumption),Ai,Ac (by assumption:k<cs.length)]; rfl
theorem P0 (cs:List Int):(bnds (cutN cs) 8).getD (cs.length+1) 0=8:=by
 unfold bnds cutN
 rw [Af,Cj,B4 (by rw [Ae]; exact Ak _),Ae,G9]; rfl
theorem Pz (cs:List Int):(bnds (cutN cs) 8).length=cs.length+2:=by unfold bnds cutN; simp
end
theorem HI (a b:List Ch):txts (a++b)=txts a++txts b:=Ar
theorem KD (size j:Nat):(txts (tl size j)).flatten=Az (size+1) 122:=by
 unfold tl txts
 rw [AM,D9,List.map_replicate]
 show []++_++_=_
 have:(Az j ([]++[]:List Nat)).flatten=[]:=by
  induction j with
  | zero=>rfl
  | succ j ih=>rw [Ds,D9,ih]; rfl
 rw [this]; simp
theorem PO (size j:Nat):((txts (tl size j)).map AH).sum=size+1:=by rw [← CG,KD,C2]
theorem M5 (size j:Nat):tl size j++[([],[])]=tl size (j+1):=by unfold tl; exact congrArg (_::·) List.replicate_succ'.symm
section
variable {ms:List Ch} {o:List Nat} {rk:List (Int×Int)} {Rm:List Int} {size:Nat}
structure Rd (ms:List Ch) (o:List Nat) (rk:List (Int×Int)) (Rm:List Int):Prop where
 z:ms.length=7
 m:∀ m∈ms,MOk m
 o1:o.length≤4
 o2:∀ c∈o,c∈sgn
 r:Rk o ms rk Rm
 p:∀ x∈Rm,0<x∧x≤7
 a:Rm.Pairwise (· < ·)
theorem Rd.asc (D:Rd ms o rk Rm):(0::cutsOf rk Rm).Pairwise (· < ·):=Cz.mpr ⟨fun x hx=>(D.p x (Hf.mp hx).1).1,D.a.sublist A2⟩
theorem Rd.b7 (D:Rd ms o rk Rm) (k:Nat):bn (cutsOf rk Rm) k≤7:=bn_7 (fun x hx=>D.p x (Hf.mp hx).1) k
theorem Rd.next (D:Rd ms o rk Rm) {k j:Nat} (hk:k<(cutsOf rk Rm).length):findCut o ((mkCh ms).drop (bn (cutsOf rk Rm) k)++tl size j)=some (bn (cutsOf rk Rm) (k+1) - bn (cutsOf rk Rm) k):=by
 have ha:=D.asc
 have h1:bd (cutsOf rk Rm) k<bd (cutsOf rk Rm) (k+1):=Ij ha (AY k) (DM hk)
 have e0:=NP ha (Ay hk)
 have e1:=NP ha (k:=k+1) hk
 have hbb:bn (cutsOf rk Rm) k<bn (cutsOf rk Rm) (k+1):=B7.mp (by rw [e0,e1]; exact h1)
 obtain ⟨p,hp⟩:∃ p,bn (cutsOf rk Rm) (k+1)=p+1:=⟨_,(Cc (Cp hbb)).symm⟩
 have h7:=D.b7 (k+1)
 rw [hp] at e1 ⊢
 refine TI D.z D.m D.o1 D.o2 D.r (D.b7 k) (p:=p) ⟨B2 (AJ hbb hp),An (AJ (AY p) hp.symm) h7⟩ ?_ fun q hq hg=>?_
 ·rw [e1]; exact IK hk
 ·obtain ⟨i,hi,e⟩:=CH hq
  have e':bd (cutsOf rk Rm) (i+1)=q:=by rw [NS,Af,Ac hi]; exact e
  rw [e1,← e']
  refine NT ha (Bh.mp fun h=>?_) hi
  have:=NT ha (B2 h) (Ay hk)
  exact B3 _ (B8 (C4 (DJ e0.symm) hg) (Bw (DJ e'.symm) this))
theorem Rd.stop (D:Rd ms o rk Rm) {j:Nat}:findCut o ((mkCh ms).drop (bn (cutsOf rk Rm) (cutsOf rk Rm).length)++tl size j)=none:=by
 refine Pw D.z D.m D.o1 D.o2 D.r (D.b7 _) fun q hq=>?_
 rw [NP D.asc (Ak _)]
 refine AI fun h=>?_
 have key:∀ x∈cutsOf rk Rm,x≤bd (cutsOf rk Rm) (cutsOf rk Rm).length:=fun x hx=>by
  obtain ⟨i,hi,e⟩:=CH hx
  have e':bd (cutsOf rk Rm) (i+1)=x:=by rw [NS,Af,Ac hi]; exact e
  rw [← e']; exact NT D.asc hi (Ak _)
 by_cases hc:q∈cutsOf rk Rm
 ·exact h (key q hc)
 ·obtain ⟨d,hd,hdq,_⟩:=Ir (Hh.mpr ⟨hq,hc⟩)
  exact h (Bf (B8 hdq (key d hd)))
noncomputable def Tn (o:List Nat) (size:Nat) (cs:List Ch):Nat->List (List Nat)×List Ch
 | 0=>([],cs)
 | j+1=>stepC o size (Tn o size cs j) (feed size j)
noncomputable def rows (ms:List Ch) (cs:List Int) (k:Nat):List (List Nat):=(A5 k).map (rowAt (txts (mkCh ms)) (bnds (cutN cs) 8))
theorem NR (ms:List Ch) (c size j:Nat):(lens ((mkCh ms).drop c++tl size j)).sum>size:=by
 rw [HX,HI,Ar,C9,PO]; exact B7.mpr (An (AY size) (CC ..))
theorem Rd.step (D:Rd ms o rk Rm) {k j:Nat} (hk:k≤(cutsOf rk Rm).length) {s:List (List Nat)×List Ch} {p:Ch} (h1:s.1=rows ms (cutsOf rk Rm) k) (h2:s.2++[p]=(mkCh ms).drop (bn (cutsOf rk Rm) k)++tl size j) :
  stepC o size s p=(rows ms (cutsOf rk Rm) (min (k+1) (cutsOf rk Rm).length),(mkCh ms).drop (bn (cutsOf rk Rm) (min (k+1) (cutsOf rk Rm).length))++tl size j):=by
 unfold stepC
 rw [h2,if_neg (DB.mpr (NR ms _ size j)),h1]
 rcases C3 hk with hk | rfl
 ·rw [D.next hk,CY hk]
  have hle:=UK D.asc (j:=k+1) (BP k) hk
  have h7:=D.b7 (k+1)
  have hl:bn (cutsOf rk Rm) (k+1) - bn (cutsOf rk Rm) k≤((mkCh ms).drop (bn (cutsOf rk Rm) k)).length:=by rw [Bn,Hm]; exact GL (AK h7) _
  dsimp only
  rw [F0 hl,List.drop_append_of_le_length hl,List.drop_drop,Eo hle]
  refine Prod.ext ?_ rfl
  unfold rows
  rw [EH,Ar]
  refine congrArg (_++·) ?_
  show [_]=[_]
  unfold rowAt
  rw [Lf _ hk,Lf _ (Ay hk)]
  unfold txts
  rw [Ci,Dd]
 ·rw [D.stop,Ce (BP _)]
theorem Rd.at (D:Rd ms o rk Rm) (j:Nat):(Tn o size (mkCh ms) j).1=rows ms (cutsOf rk Rm) (min j (cutsOf rk Rm).length)∧(Tn o size (mkCh ms) j).2++[feed size j]=(mkCh ms).drop (bn (cutsOf rk Rm) (min j (cutsOf rk Rm).length))++tl size j ∧
  Tn o size (mkCh ms) (j+1)=(rows ms (cutsOf rk Rm) (min (j+1) (cutsOf rk Rm).length),(mkCh ms).drop (bn (cutsOf rk Rm) (min (j+1) (cutsOf rk Rm).length))++tl size j):=by
 induction j with
 | zero =>
  rw [Nat.zero_min]
  exact ⟨rfl,rfl,D.step (A4 _) rfl rfl⟩
 | succ j ih =>
  obtain ⟨_,_,c⟩:=ih
  have h1:=congrArg Prod.fst c
  have h2:(Tn o size (mkCh ms) (j+1)).2++[feed size (j+1)]=(mkCh ms).drop (bn (cutsOf rk Rm) (min (j+1) (cutsOf rk Rm).length))++tl size (j+1):=by
   rw [c]; show _++_++[([],[])]=_
   rw [De,M5]
  refine ⟨h1,h2,(D.step (Cd ..) h1 h2).trans ?_⟩
  rw [show min (min (j+1) (cutsOf rk Rm).length+1) (cutsOf rk Rm).length=min (j+1+1) (cutsOf rk Rm).length from OP ..]
theorem Lw (ms:List Ch) (cs:List Int):rowsF (txts (mkCh ms)) (bnds (cutN cs) 8)=rows ms cs cs.length++[rowAt (txts (mkCh ms)) (bnds (cutN cs) 8) cs.length]:=by
 unfold rowsF rows
 rw [Pz,show cs.length+2 - 1=cs.length+1 from rfl,EH,Ar]; rfl
theorem OU (D:Rd ms o rk Rm) (hs:((txts (mkCh ms)).flatten).length=size):rows ms (cutsOf rk Rm) (cutsOf rk Rm).length++[(txts ((mkCh ms).drop (bn (cutsOf rk Rm) (cutsOf rk Rm).length)++tl size (cutsOf rk Rm).length)).flatten]=parted (mkCh ms) (cutN (cutsOf rk Rm)):=by
 unfold parted
 have hl:(txts (mkCh ms)).length=8:=by unfold txts; rw [Ae,Hm]
 rw [hl,Lw,C7,BY,Df,Di,HI,GR,KD,hs]
 unfold rowAt
 rw [P0,Lf _ (Ak _)]
 congr 3
 have:txts ((mkCh ms).drop (bn (cutsOf rk Rm) (cutsOf rk Rm).length))=(txts (mkCh ms)).drop (bn (cutsOf rk Rm) (cutsOf rk Rm).length):=Dd
 rw [this,AR (by rw [Bn,hl]; exact Ak _)]
end
end
section
open Builtin Builtin.Str
section
variable {ms:List Ch} {o:List Nat} {rk:List (Int×Int)} {Rm:List Int} {size:Nat}
theorem JW (hz:ms.length=7) (hm:∀ m∈ms,MOk m) {x:Ch} (hx:x∈mkCh ms):x.1.length+x.2.length≤5∧∀ c∈x.1++x.2,c≤122:=by
 obtain ⟨k,hk,e⟩:=As.mp hx
 have hk:=BB.mp hk
 have w1:x.1∈[[],[32],[9],[32,9]]:=by
  rw [← e]
  cases k with
  | zero=>exact .head _
  | succ k=>rw [Jm hz (by exact B2 (by assumption))]; simpa using (KR hz hm k).2
 have w2:∃ s∈stems,∃ t∈[[],[59],[44]],x.2=s++t:=by
  rw [← e]
  rcases C3 (B2 hk) with h | rfl
  ·exact ⟨_,Lp hk,_,by simpa using (KR hz hm k).1,Kz hz h⟩
  ·exact ⟨[9,104],by decide,[],.head _,by rw [J6 hz]; rfl⟩
 obtain ⟨s,hs,t,ht,e2⟩:=w2
 rw [e2]
 clear e2
 generalize x.1=a at w1
 revert s; revert t; revert a; decide
theorem PR {k:Nat}:∀ {l:List Nat},(∀ x∈l,x≤k)->l.sum≤l.length*k
 | [],_=>A4 _
 | a::l,h=>by
  have h1:=PR (k:=k) fun x hx=>h x (.tail _ hx)
  have h2:=h a (.head _)
  rw [Gh,AW,G8]; exact Ab (A1 (BU ..)) (Bk h1 h2)
noncomputable def sz (ms:List Ch):Nat:=((txts (mkCh ms)).map AH).sum
theorem Q0 (hz:ms.length=7) (hm:∀ m∈ms,MOk m):sz ms≤40:=by
 unfold sz
 refine Ab (PR (k:=5) fun x hx=>?_) (by unfold txts; rw [Ae,Ae,Hm]; decide)
 obtain ⟨t,ht,rfl⟩:=As.mp hx
 obtain ⟨c,hc,rfl⟩:=As.mp ht
 rw [A6]; exact (JW hz hm hc).1
theorem KZ (hz:ms.length=7) (hm:∀ m∈ms,MOk m) (c:Nat) {j:Nat} (hj:j≤1000):Fit ((mkCh ms).drop c++tl (sz ms) j):=by
 have h40:=Q0 hz hm
 refine ⟨fun x hx=>?_,?_,?_⟩
 ·rcases Aj.mp hx with hx | hx
  ·exact Ab (JW hz hm (DN hx)).1 (by decide)
  ·obtain ⟨a,b⟩:=PP hx
   rw [a]
   rcases b with b | b
   ·rw [b,C2,Dy]; exact Ab (AS (AB h40) 0) (by decide)
   ·rw [b]; decide
 ·rw [HI,Ar,C9,PO]
  have:txts ((mkCh ms).drop c)=(txts (mkCh ms)).drop c:=Dd
  have h2:=KJ (txts (mkCh ms)) c ((txts (mkCh ms)).length)
  rw [AR (by rw [Bn]; exact Bp ..)] at h2
  rw [this]
  exact Ab (Bk (Ab h2 h40) (AB h40)) (by decide)
 ·rw [A6,Bn,Hm,PQ]; exact Ab (Bk (Bp 8 c) (AB hj)) (by decide)
theorem Qq (hz:ms.length=7) (hm:∀ m∈ms,MOk m):Fit (mkCh ms):=by
 have:=(KZ hz hm 0 (j:=0) (A4 _)).take 8
 rwa [List.drop_zero,F0 (by rw [Hm]; exact Ak _),AR (by rw [Hm]; exact Ak _)] at this
theorem JJ {x:List Nat} (h:∀ c∈x,c≤122):plainT x:=by
 show Array.all _ _=true
 rw [GW]
 intro c hc
 exact decide_eq_true (Ag (h c (by simpa [S] using hc)) (by decide))
theorem O3 {x:List Nat} (h:122∈x):C5 (S x)=false:=by
 have:(S x).cps.all Unicode.isSpace=false:=by
  refine Fx.mpr fun e=>?_
  rw [GW] at e
  exact absurd (e 122 (by simpa [S] using h)) (by decide)
 unfold C5
 rw [this,FT]
theorem Qy (size j:Nat):Ex2 fun ys b=>tl size j=ys++[([],b)]∧∀ c∈b,c≤122:=by
 cases j with
 | zero=>exact ⟨[],_,rfl,fun c hc=>by rw [(Ea.mp hc).2]; exact Ak _⟩
 | succ j=>exact ⟨tl size j,[],(M5 size j).symm,nofun⟩
theorem RM (hz:ms.length=7) (hm:∀ m∈ms,MOk m) {ts:List (List Nat)} (h:∀ t∈ts,t∈txts (mkCh ms)):∀ c∈ts.flatten,c≤122:=fun c hc=>by
 obtain ⟨t,ht,hc⟩:=List.mem_flatten.mp hc
 obtain ⟨x,hx,rfl⟩:=As.mp (h t ht)
 exact (JW hz hm hx).2 c hc
theorem PW (hz:ms.length=7) (hm:∀ m∈ms,MOk m) (b:List Nat) (k:Nat):∀ c∈rowAt (txts (mkCh ms)) b k,c≤122:=RM hz hm fun t ht=>DN (Cf ht)
theorem I7 (hz:ms.length=7) (hm:∀ m∈ms,MOk m) (cs:List Int):∀ x∈parted (mkCh ms) (cutN cs),plainT x:=by
 have hl:(txts (mkCh ms)).length=8:=by unfold txts; rw [Ae,Hm]
 unfold parted
 rw [hl,Lw,C7,BY,Df,Di]
 intro x hx
 refine JJ fun c hc=>?_
 rcases Aj.mp hx with hx | hx
 ·obtain ⟨k,_,rfl⟩:=As.mp hx
  exact PW hz hm _ _ c hc
 ·rw [Al.mp hx] at hc
  rcases Aj.mp hc with hc | hc
  ·exact PW hz hm _ _ c hc
  ·rw [(Ea.mp hc).2]; exact Ak _
end
section
variable {B:Bx} {N:Nat} {H:Hp} {Q:AV->Hp->Prop} {ms:List Ch} {o:List Nat} {rk:List (Int×Int)} {Rm:List Int}
theorem Rd.cuts_len (D:Rd ms o rk Rm):(cutsOf rk Rm).length≤7:=by
 have key:∀ (l:List Int) (b:Int),b≤7->l.Pairwise (· < ·)->(∀ x∈l,b<x∧x≤7)->(l.length:Int)≤7 - b:=by
  intro l
  induction l with
  | nil=>exact fun b h _ _=>Int.sub_nonneg.mpr h
  | cons a l ih =>
   intro b _ h1 h2
   have h1:=Cz.mp h1
   have h:=h2 a (.head _)
   exact Int.add_le_of_le_sub_right (Bw (ih a h.2 h1.2 fun x hx=>⟨h1.1 x hx,(h2 x (.tail _ hx)).2⟩) (Bw (Int.sub_le_sub_left h.1 7) (DJ (Int.sub_sub ..).symm)))
 exact Be.mp (key (cutsOf rk Rm) 0 (by decide) (Cz.mp D.asc).2 fun x hx=>D.p x (Hf.mp hx).1)
theorem Qp (D:Rd ms o rk Rm) (hf:Free N H) {many:Int} (hmany:many=((cutsOf rk Rm).length:Nat)) (q:∀ H',H' (N,2)=some (.list (sts (parted (mkCh ms) (cutN (cutsOf rk Rm)))))->(∀ l:Lb,l.1≠N->l.1≠N+1->H' l=H l)->Q (.ref (N,2)) H'):WC (gg B) 12 (.ref 364) [.lst (prs (mkCh ms)),.str (S o),.int many] H Q:=by
 subst hmany
 have h7:=D.cuts_len
 have h40:=Q0 D.z D.m
 obtain ⟨ys,b,e1,e2⟩:=Qy (sz ms) (cutsOf rk Rm).length
 obtain ⟨t1,t2,t3⟩:=D.at (size:=sz ms) (cutsOf rk Rm).length
 rw [Ce (BP _)] at t3
 have e3:(mkCh ms).drop (bn (cutsOf rk Rm) (cutsOf rk Rm).length)++tl (sz ms) (cutsOf rk Rm).length=((mkCh ms).drop (bn (cutsOf rk Rm) (cutsOf rk Rm).length)++ys)++[([],b)]:=by rw [e1,De]
 have F:=KZ D.z D.m (bn (cutsOf rk Rm) (cutsOf rk Rm).length) (j:=(cutsOf rk Rm).length) (by exact Ab (by assumption) (by decide))
 have h122:122∈(txts ((mkCh ms).drop (bn (cutsOf rk Rm) (cutsOf rk Rm).length)++tl (sz ms) (cutsOf rk Rm).length)).flatten:=by
  rw [HI,GR,KD]
  exact Aj.mpr (.inr (Ea.mpr ⟨F6 _,rfl⟩))
 have hb:=NR ms (bn (cutsOf rk Rm) (cutsOf rk Rm).length) (sz ms) (cutsOf rk Rm).length
 have hlines:=OU D (size:=sz ms) (CG ..)
 rw [e3] at F h122 hb hlines
 refine Nn (T:=Tn o (sz ms) (mkCh ms)) (size:=sz ms) hf (Qq D.z D.m) (by rw [Hm]; decide) (HX _) (Ab h40 (by decide)) (Ab h7 (by decide)) rfl (fun j _=>rfl) (fun j hj=>?_) (fun j hj=>?_) (ys:=(mkCh ms).drop (bn (cutsOf rk Rm) (cutsOf rk Rm).length)++ys) (a:=[]) (b:=b) ?_ F nofun (JJ nofun) (JJ e2) (by lia) (O3 h122) fun H' h1 h2=>q H' ?_ h2
 ·rw [(D.at j).2.1]; exact KZ D.z D.m _ (Ab hj (Ab h7 (by decide)))
 ·rw [(D.at j).2.2]; unfold rows; rw [Ae,AN]
 ·rw [t3]; exact e3
 ·rw [t3] at h1
  rw [← hlines]; exact h1
end
end
section
open Builtin Builtin.Str
noncomputable def newM (cs:List Int) (ms:List Ch) (k:Nat):Ch:=if cs.any (· ==(k:Int)+1) then ([],[]) else mk ms k
noncomputable def newMs (cs:List Int) (ms:List Ch):List Ch:=(A5 7).map (newM cs ms)
section
variable {ms:List Ch} {o:List Nat} {rk:List (Int×Int)} {Rm:List Int}
theorem Ob {cs:List Int} {x:Int}:cs.any (· ==x)=true↔x∈cs:=by simp
theorem OO (cs:List Int) (ms:List Ch) {k:Nat} (h:k<7):mk (newMs cs ms) k=newM cs ms k:=by
 unfold mk newMs; rw [Ai,BW h]; rfl
theorem Rf (D:Rd ms o rk Rm) (cs:List Int) (k:Nat):MOk (newM cs ms k):=by
 unfold newM; split
 ·exact ⟨.inl rfl,.inl rfl⟩
 ·exact KR D.z D.m k
theorem Rd.marks (D:Rd ms o rk Rm):Rd (newMs (cutsOf rk Rm) ms) o rk (restOf rk Rm) where
 z:=by unfold newMs; rw [Ae,AN]
 m:=fun m hm=>by
  obtain ⟨k,_,rfl⟩:=As.mp hm
  exact Rf D _ k
 o1:=D.o1
 o2:=D.o2
 r:=fun k hk=>by
  rw [OO _ _ hk]
  unfold newM
  by_cases h:((k+1:Nat):Int)∈cutsOf rk Rm
  ·rw [if_pos ((Ob (x:=(k:Int)+1)).mpr h),if_neg fun h2=>(Hh.mp h2).2 h]; rfl
  ·rw [if_neg fun h2=>h ((Ob (x:=(k:Int)+1)).mp h2),D.r k hk]
   by_cases h2:((k+1:Nat):Int)∈Rm
   ·rw [if_pos h2,if_pos (Hh.mpr ⟨h2,h⟩)]
   ·rw [if_neg h2,if_neg fun h3=>h2 (Hh.mp h3).1]
 p:=fun x hx=>D.p x (Hh.mp hx).1
 a:=D.a.sublist A2
theorem MG (h:cutsOf rk Rm≠[]):(restOf rk Rm).length<Rm.length:=by
 obtain ⟨c,hc⟩:=List.exists_mem_of_ne_nil _ h
 unfold restOf
 refine List.length_filter_lt_length_iff_exists.mpr ⟨c,(Hf.mp hc).1,?_⟩
 have:=(BC.mp hc).2
 simp [this]
theorem Rd.nts (D:Rd ms o rk Rm):nns (cutN (cutsOf rk Rm))=nts (cutsOf rk Rm):=by
 unfold nns cutN
 rw [AU]
 congr 1
 refine (Cq (g:=fun x=>x) fun x hx=>?_).trans (List.map_id' _)
 have:=D.p x (Hf.mp hx).1
 exact DW (Bf this.1)
theorem Rd.bnds (D:Rd ms o rk Rm):(bnds (cutN (cutsOf rk Rm)) 8).Pairwise (· ≤ ·):=by
 have ha:=Cz.mp D.asc
 unfold Mine.bnds cutN
 refine Cz.mpr ⟨fun x _=>A4 x,Bj.mpr ⟨Fu.mpr (ha.2.imp fun {a b} h=>Int.toNat_le_toNat (Bf h)),Ey ..,fun x hx y hy=>?_⟩⟩
 obtain ⟨c,hc,rfl⟩:=As.mp hx
 have:=D.p c (Hf.mp hc).1
 rw [Al.mp hy]; exact Int.toNat_le.mpr (Bw this.2 (by decide))
theorem Rd.nil (D:Rd ms o rk Rm) (h:cutsOf rk Rm=[]):Rm=[]:=AI fun hn=>RS hn h
theorem RInv.act {S:SS} (I:RInv rk S Rm (cutsOf rk Rm)):S.rdy=some []∧(decide (S.fin<S.pas)||!([]:List Int).isEmpty)=decide (cutsOf rk Rm≠[]):=by
 obtain ⟨D,P,I,hD,hP⟩:=I
 refine ⟨I.rd,?_⟩
 rw [I.fin,I.pas]
 cases P with
 | nil =>
  have:cutsOf rk Rm=[]:=DF.mpr fun x hx=>nomatch (hP x).mpr hx
  rw [this]; simp
 | cons x P =>
  have:cutsOf rk Rm≠[]:=Fi ((hP x).mp (.head _))
  rw [decide_eq_true this,decide_eq_true (show ((D.length:Nat):Int)<(D.length:Int)+((x::P).length:Nat) from Int.lt_add_of_pos_right _ (B7.mpr (CW _)))]; rfl
end
end
section
open Builtin Builtin.Str
structure UM (b:Nat) (o:List Nat) (rk:List (Int×Int)) (Rm:List Int) (ms:List Ch) (cl hl:Lb) (N:Nat) (T:SS) (H:Hp):Prop where
 so:So b T H
 ri:RInv rk T Rm (cutsOf rk Rm)
 d:Rd ms o rk Rm
 sub:∀ x∈Rm,x∈doms rk
 c:H cl=some (.list (nts (cutsOf rk Rm)))
 h:∃ hs,H hl=some (.list (nts hs))∧hs.Perm ((restOf rk Rm).map (keyOf rk))
 f:Free N H
 cN:b+2<cl.1∧cl.1<N
 hN:b+2<hl.1∧hl.1<N
 ne:cl≠hl
noncomputable def mkF (cs:List Int) (ms:List Ch) (v:AV):Option AV:=match v with
 | .int k=>some (.tup [.str (S (newM cs ms k.toNat).1),.str (S (newM cs ms k.toNat).2)])
 | _=>none
section
variable {B:Bx} {b N:Nat} {cl hl:Lb} {T:SS} {H:Hp} {Q:AV->Hp->Prop} {ms:List Ch} {o:List Nat} {rk:List (Int×Int)} {Rm:List Int}
theorem RJ {sg:Bool} {ll:Lb} (hnd:(doms rk).Nodup) (hz:rk.length≤7) (hsub:∀ x∈Rm,x∈doms rk) (D:Rd ms o rk Rm) (h:So b T H) (I:RInv rk T Rm (cutsOf rk Rm)) (hcl:b+2<cl.1) (hll:b+2<ll.1) (hc:H cl=some (.list (nts (cutsOf rk Rm)))) (hl:H ll=some (.list (nts (cutsOf rk (restOf rk Rm)))))
  (q:∀ T' H',So b T' H'->RInv rk T' (restOf rk Rm) (cutsOf rk (restOf rk Rm))->Out b H H'->Q (.bool true) H'):WC (gg B) 4 (.ref 381) [.ref (b,0),.ref cl,.ref ll,.bool sg] H Q:=by
 have hn:Rm.Nodup:=D.a.imp CZ
 have asc:(cutsOf rk Rm).Pairwise (· < ·):=D.a.sublist A2
 have asc2:(cutsOf rk (restOf rk Rm)).Pairwise (· < ·):=(D.a.sublist A2).sublist A2
 have h7:=D.cuts_len
 have h8:=D.marks.cuts_len
 have keep:∀ {l:Lb},b+2<l.1->∀ H',Out b H H'->H' l=H l:=fun hl H' oo=>oo _ (AG (AA (AA hl))) (AG (AA hl)) (AG hl)
 obtain ⟨r1,r2,r3,r4,zs,z1,z2,z3,z4⟩:=Ta hnd hz hsub hn I
 obtain ⟨s1,s2⟩:=SZ hnd hz hsub hn (fun x hx=>(D.p x hx).1) asc I
 cases sg with
 | false=>exact Nm h r1 r2 (by show 0+_<_; lia) (by exact Ab (by assumption) (by decide)) r3 r4 (fun loc=>.inr ⟨_,rfl,hc⟩) (fun H' oo loc=>.inr ⟨_,rfl,(keep hll H' oo).trans hl⟩) z1 (by rw [z3.length_eq]; exact Ag (by assumption) (by decide)) z2 z3 (asc2.imp Bf) fun H' a1 a2=>q _ H' a1 z4 a2
 | true=>exact Nl h r1 (L:=7) (by decide) (by exact Ab (by assumption) (by decide)) (by exact Ab (by assumption) (by decide)) (fun H' oo=>(keep hcl H' oo).trans hc) (fun H' oo=>(keep hll H' oo).trans hl) (asc2.imp Bf) s1 fun H' a1 a2=>q _ H' a1 s2 a2
theorem OQ (cs:List Int) (ms:List Ch):((A5 7).map fun i=>AV.int (i:Nat)).filterMap (mkF cs ms)=prs (newMs cs ms):=by
 unfold prs newMs
 rw [AP,AU]
 exact Hi fun k _=>rfl
theorem bg {n:Nat} (hn:n≤10000):n≤big:=Ab hn (by decide)
theorem Qb {cv:AV} (D:Rd ms o rk Rm) (hc:∀ loc,isL ⟨loc,H⟩ cv (nts (cutsOf rk Rm))) (q:Q (.lst (sts (parted (mkCh ms) (cutN (cutsOf rk Rm))))) H):WC (gg B) 2 (.ref 369) [.lst (prs (mkCh ms)),cv] H Q:=by
 have h7:=D.cuts_len
 have h40:=Q0 D.z D.m
 refine Nj (Qq D.z D.m) (by rw [Hm]; decide) (by unfold cutN; rw [Ae]; exact Ab (by assumption) (by decide)) (fun loc=>by rw [D.nts]; exact hc loc) (by rw [Hm]; exact D.bnds) (Ab h40 (by decide)) q
theorem MH (I:UM b o rk Rm ms cl hl N T H):(restOf rk Rm).length≤rk.length:=by
 have h:(restOf rk Rm).Nodup:=(I.d.a.sublist A2).imp CZ
 have:=h.length_le_of_subset (l₂:=doms rk) fun x hx=>I.sub x (Hh.mp hx).1
 unfold doms at this
 rwa [Ae] at this
theorem T7 (hnd:(doms rk).Nodup) (hz:rk.length≤7) (I:UM b o rk Rm ms cl hl N T H) (q:∀ H',Q (.bool true) H'):WC (gg B) 14 (.ref 386) [.ref (b,0),.ref cl,.ref hl,.lst (prs ms),.str (S o)] H Q:=by
 refine (U6 B).wc (ab:=[(_,_),(_,_),(_,_),(_,_),(_,_)]) (WBind.of5 (by intro v1 v2 v3 v4 v5; kernel_rfl)) rfl ?_
 dsimp only [vS1,vS2,vE,vT,vL,List.set]
 refine ⟨fun n σ=>Ex5 fun (Rm:List Int) (ms:List Ch) (cl hl:Lb) (N:Nat)=>Ex5 fun (T:SS) (H':Hp) (sg:Bool) (o6 o7:Option AV)=>An3 (σ=⟨[some (.ref (b,0)),some (.ref cl),some (.ref hl),some (.lst (prs ms)),some (.str (S o)),some (.bool sg),o6,o7],H'⟩) (Rm.length=n) (UM b o rk Rm ms cl hl N T H'),_,⟨Rm,ms,cl,hl,N,T,H,true,none,none,rfl,rfl,I⟩,?_⟩
 clear I
 rintro n σ ⟨Rm,ms,cl,hl,N,T,H1,sg,o6,o7,rfl,rfl,I⟩
 have h7:=I.d.cuts_len
 obtain ⟨hr,hact⟩:=I.ri.act
 dsimp only [vS1,vS2,vE,vT,vL,List.set]
 refine ⟨rfl,.inl (.inl ⟨cutsOf rk Rm,[],.inr ⟨_,rfl,I.c⟩,.inl rfl,fun ht=>?_,fun hf=>?_⟩)⟩
 ·have hne:cutsOf rk Rm≠[]:=fun e=>by rw [e] at ht; cases ht
  rw [decide_eq_true hne] at hact
  dsimp only [vS1,vS2,vE,vT,vL,List.set]
  refine ⟨2,by decide,Km I.d.z I.d.m ?_⟩
  dsimp only [vS1,vS2,vE,vT,vL,List.set]
  refine ⟨I.so.um (u:=.active) rfl,2,by decide,LV I.so hr (A4 _) ?_⟩
  rw [hact]
  refine ⟨fun _=>?_,nofun⟩
  dsimp only [vS1,vS2,vE,vT,vL,List.set]
  refine .inl ⟨nts (cutsOf rk Rm),I.c,by rw [Hc]; exact bg (by exact Ab (by assumption) (by decide)),12,by decide,Qp I.d I.f (by rw [Hc]) fun H2 p1 p2=>?_⟩
  have lowN:∀ {l:Lb},l.1<N->H2 l=H1 l:=fun h=>p2 _ (AE h) (AE (AQ h))
  have hclN:=I.cN; have hhlN:=I.hN
  refine ⟨2,by decide,Qb I.d (fun loc=>.inr ⟨_,rfl,(lowN hclN.2).trans I.c⟩) ?_⟩
  have pp:=I7 I.d.z I.d.m (cutsOf rk Rm)
  refine .inr ⟨_,_,.inr ⟨_,rfl,p1⟩,.inl rfl,pp,pp,?_⟩
  rw [decide_eq_true rfl]
  refine ⟨nofun,fun _=>?_⟩
  dsimp only [vS1,vS2,vE,vT,vL,List.set]
  obtain ⟨hs,hs1,hs2⟩:=I.h
  have hsz:hs.length≤1000:=by
   rw [hs2.length_eq,Ae]
   exact Ab (MH I) (by exact Ab (by assumption) (by decide))
  have f2:Free (N+2) H2:=fun l hl=>(p2 l (AG (AA hl)) (AG hl)).trans (I.f l (EF hl))
  refine ⟨8,by decide,J1 (l:=hl) (N:=N+2) ((lowN hhlN.2).trans hs1) (An hhlN.2 (A3 ..)) f2 hsz fun ds H3 g1 g2 g3 g4 g5 g6=>?_⟩
  have D2:=I.d.marks
  obtain ⟨c1,c2⟩:=Ki D2.p D2.a (g1.trans hs2) g2
  rw [c1] at g3
  have low3:∀ {l:Lb},l.1<N->l≠hl->H3 l=H1 l:=fun h e=>(g5 _ (An h (A3 ..)) e).trans (lowN h)
  dsimp only [vS1,vS2,vE,vT,vL,List.set]
  have so3:So b T H3:=I.so.congr (c:=b+3) (by exact Ak _) fun l h=>low3 (BK (An h hclN.1) hclN.2) fun e=>by rw [e] at h; exact Cm _ (An h hhlN.1)
  have hbN:b+2<N+2:=An (BK hclN.1 hclN.2) (A3 ..)
  refine ⟨4,by decide,RJ (ll:=(N+2,0)) hnd hz I.sub I.d so3 I.ri hclN.1 hbN ((low3 hclN.2 I.ne).trans I.c) g3 fun T4 H4 s4 r4 o4=>?_⟩
  have keep:∀ {l:Lb},b+2<l.1->H4 l=H3 l:=fun h=>o4 _ (AG (AA (AA h))) (AG (AA h)) (AG h)
  refine ⟨nofun,fun _=>?_⟩
  dsimp only [vS1,vS2,vE,vT,vL,List.set]
  refine ⟨by rw [Hd]; exact bg (by rw [I.d.z]; decide),by rw [Hd,I.d.z]; decide,?_⟩
  rw [Hd,I.d.z,show ((7:Nat):Int)=((7:Nat):Int) from rfl,Io]
  refine ⟨by decide,mkF (cutsOf rk Rm) ms,fun x hx=>?_,.inl ?_⟩
  ·obtain ⟨k,hk,rfl⟩:=As.mp hx
   have hk:=BB.mp hk
   refine ⟨rfl,fun _=>?_,nofun⟩
   refine .inl ⟨cutsOf rk Rm,(keep hclN.1).trans ((low3 hclN.2 I.ne).trans I.c),fun h1=>⟨rfl,rfl,?_⟩,fun h1=>?_⟩
   ·unfold mkF newM; dsimp only; rw [Aw,if_pos h1]
   ·refine ⟨.tup [.str (S (mk ms k).1),.str (S (mk ms k).2)],⟨by rw [Hd]; exact bg (by rw [I.d.z]; decide),.inl ⟨by exact A7 _,?_⟩⟩,rfl,?_⟩
    ·rw [Aw]; unfold prs mk; rw [Ai,Ac (by rw [I.d.z]; exact hk)]; rfl
    ·unfold mkF newM; dsimp only
     rw [Aw,if_neg (fun h2=>by rw [h2] at h1; cases h1)]
  ·rw [OQ]
   refine ⟨(restOf rk Rm).length,MG hne,restOf rk Rm,newMs (cutsOf rk Rm) ms,(N+2,0),(N+2,2),N+3,T4,H4,!sg,_,_,rfl,rfl,?_⟩
   exact ⟨s4,r4,D2,fun x hx=>I.sub x (Hh.mp hx).1,(keep hbN).trans g3,⟨_,(keep hbN).trans g4,(List.reverse_perm _).trans c2⟩,fun l hl=>(keep (An hbN (Nat.le_of_succ_le hl))).trans (g6 l hl),⟨hbN,AY _⟩,⟨hbN,AY _⟩,nn (by decide)⟩
 ·have he:cutsOf rk Rm=[]:=by
   by_cases e:cutsOf rk Rm=[]
   ·exact e
   ·rw [decide_eq_false e] at hf; cases hf
  have hact:=hact.trans (decide_eq_false fun h=>h he)
  (refine sqN ?_; dsimp only [vS1,vS2,vE,vT,vL,List.set])
  refine ⟨2,by decide,Km I.d.z I.d.m ?_⟩
  dsimp only [vS1,vS2,vE,vT,vL,List.set]
  refine ⟨I.so.um (u:=.active) rfl,2,by decide,LV I.so hr (A4 _) ?_⟩
  rw [hact]
  refine ⟨nofun,fun _=>?_⟩
  dsimp only [vS1,vS2,vE,vT,vL,List.set]
  refine ⟨12,by decide,Qp I.d I.f (by rw [he]; rfl) fun H2 p1 p2=>?_⟩
  refine ⟨rfl,.inl ⟨2,by decide,Qb I.d (fun loc=>.inl (by rw [he]; rfl)) ?_⟩⟩
  have pp:=I7 I.d.z I.d.m (cutsOf rk Rm)
  refine .inr ⟨_,_,.inr ⟨_,rfl,p1⟩,.inl rfl,pp,pp,?_⟩
  rw [decide_eq_true rfl]
  exact q _
end
end
section
open Builtin Builtin.Str
section
variable {o:List Nat} {ms:List Ch}
theorem Lx (n:Nat):∀ (k:Nat),k<n->(rkN o ms n).find? (fun x=>x.1=((k+1:Nat):Int))=rkAt o ms k:=by
 induction n with
 | zero=>exact fun k h=>absurd h (CX k)
 | succ n ih =>
  intro k hk
  rw [IH,List.find?_append]
  have key:∀ p∈(rkAt o ms n).toList,p.1=((n+1:Nat):Int):=fun p hp=>by
   rw [GK] at hp
   unfold rkAt at hp
   obtain ⟨r,_,rfl⟩:=Ao.mp hp
   rfl
  rcases C3 (B2 hk) with h | rfl
  ·rw [ih k h]
   cases e:rkAt o ms k with
   | some x=>rfl
   | none =>
    rw [Option.none_or]
    exact D1.mpr fun p hp q=>by have:=(key p hp).symm.trans (of_decide_eq_true q); lia
  ·have h1:(rkN o ms k).find? (fun x=>x.1=((k+1:Nat):Int))=none:=D1.mpr fun p hp q=>by
    have:=JI hp
    have:=of_decide_eq_true q
    lia
   rw [h1,Option.none_or]
   cases e:rkAt o ms k with
   | none=>rfl
   | some x=>rw [Option.toList_some,Cs,decide_eq_true (key x (by rw [e]; exact .head _))]
theorem QN (n:Nat):(doms (rkN o ms n)).Pairwise (· < ·):=by
 induction n with
 | zero=>exact .nil
 | succ n ih =>
  unfold doms
  rw [IH,Ar]
  refine Bj.mpr ⟨ih,?_,fun x hx y hy=>?_⟩
  ·cases rkAt o ms n with
   | none=>exact .nil
   | some x=>exact Ey ..
  ·obtain ⟨p,hp,rfl⟩:=As.mp hx
   obtain ⟨p',hp',rfl⟩:=As.mp hy
   have:=JI hp
   rw [GK] at hp'
   unfold rkAt at hp'
   obtain ⟨r,_,rfl⟩:=Ao.mp hp'
   show p.1<(n:Int)+1
   lia
theorem ME {n k:Nat} (hk:k<n):((k+1:Nat):Int)∈doms (rkN o ms n)↔∃ x,rkAt o ms k=some x:=by
 constructor
 ·intro h
  obtain ⟨p,hp,e⟩:=As.mp h
  rw [← Lx n k hk]
  cases h2:(rkN o ms n).find? (fun x=>x.1=((k+1:Nat):Int)) with
  | none=>exact absurd (decide_eq_true e) (D1.mp h2 p hp)
  | some x=>exact ⟨x,rfl⟩
 ·rintro ⟨x,e⟩
  refine As.mpr ⟨x,C0.mpr ⟨k,BB.mpr hk,e⟩,?_⟩
  unfold rkAt at e
  obtain ⟨r,_,rfl⟩:=Ao.mp e
  rfl
theorem Rd.start (hz:ms.length=7) (hm:∀ m∈ms,MOk m) (o1:o.length≤4) (o2:∀ c∈o,c∈sgn):Rd ms o (rkN o ms 7) (doms (rkN o ms 7)) where
 z:=hz
 m:=hm
 o1:=o1
 o2:=o2
 r:=fun k hk=>by
  have hb:rkAt o ms k=(rankOf o (Mine.mk ms k)).map fun r=>((k:Int)+1,r):=by
   unfold rkAt Mine.mk
   rw [Ac (by lia:k<ms.length)]; rfl
  have hf:=Lx (o:=o) (ms:=ms) 7 k hk
  by_cases h:((k+1:Nat):Int)∈doms (rkN o ms 7)
  ·rw [if_pos h]
   obtain ⟨x,e⟩:=(ME hk).mp h
   unfold rkV
   rw [hf,e]
   rw [hb] at e
   obtain ⟨r,e2,rfl⟩:=Ao.mp e
   exact e2
  ·rw [if_neg h]
   cases e:rankOf o (Mine.mk ms k) with
   | none=>rfl
   | some r=>exact absurd ((ME hk).mpr ⟨_,by rw [hb,e]; rfl⟩) h
 p:=fun x hx=>by
  obtain ⟨p,hp,rfl⟩:=As.mp hx
  have:=JI hp
  assumption
 a:=QN 7
theorem QM (n:Nat):(rkN o ms n).length≤n:=by unfold rkN; exact Ab (Dt ..) (by simp)
variable {rk:List (Int×Int)} {R:List Int}
theorem La (I:Inv rk (sortF rk).prep [] [] R) (hnd:(doms rk).Nodup):R.Perm (cutsOf rk (doms rk))∧RInv rk ((sortF rk).prep.passed R) (doms rk) (cutsOf rk (doms rk)):=by
 have hR:∀ x,x∈R↔x∈cutsOf rk (doms rk):=fun x=>by
  rw [I.rm,Hf]
  constructor
  ·rintro ⟨h1,_,_,h2⟩
   exact ⟨h1,fun q hq hg=>DB.mp fun hl=>nomatch h2 q (Hq.mpr ⟨hq,hg,hl⟩)⟩
  ·rintro ⟨h1,h2⟩
   refine ⟨h1,nofun,nofun,fun q hq=>?_⟩
   obtain ⟨a,g,l⟩:=Hq.mp hq
   exact absurd (h2 q a g) (BE.mpr l)
 refine ⟨IW I.rn (hnd.sublist A2) hR,[],R,I.pass,fun x=>?_,hR⟩
 exact ⟨nofun,fun h=>absurd h.1 h.2⟩
end
end
section
open Builtin Builtin.Str
noncomputable abbrev ends3:List (List Nat):=[[],[59],[44]]
noncomputable abbrev whites4:List (List Nat):=[[],[32],[9],[32,9]]
noncomputable def markOf (i:Int):Ch:=(ends3.getD (i.fmod 3).toNat [],whites4.getD ((i.fdiv 3).fmod 4).toNat [])
noncomputable def markF (v:AV):Option AV:=match v with
 | .int i=>some (.tup [.str (S (markOf i).1),.str (S (markOf i).2)])
 | _=>none
theorem Na (i:Int):MOk (markOf i):=by
 obtain ⟨m,hm,hml⟩:=HL i (n:=3) (by decide)
 obtain ⟨k,hk,hkl⟩:=HL (i.fdiv 3) (n:=4) (by decide)
 unfold markOf
 rw [show i.fmod 3=(m:Int) from hm,show (i.fdiv 3).fmod 4=(k:Int) from hk,Aw,Aw]
 refine ⟨?_,?_⟩
 ·have:∀ m,m<3->ends3.getD m []=[]∨ends3.getD m []=[59]∨ends3.getD m []=[44]:=by decide
  exact this m hml
 ·have:∀ k,k<4->whites4.getD k []=[]∨whites4.getD k []=[32]∨whites4.getD k []=[9]∨whites4.getD k []=[32,9]:=by decide
  exact this k hkl
theorem OS:∀ xs:List Int,(nts xs).filterMap markF=prs (xs.map markOf):=fun xs=>by
 unfold nts prs
 rw [AP,AU]
 exact Hi fun k _=>rfl
noncomputable def keyF (rk:List (Int×Int)) (v:AV):Option AV:=match v with
 | .int p=>some (.int (keyOf rk p))
 | _=>none
theorem Rz (rk:List (Int×Int)) (xs:List Int):(nts xs).filterMap (keyF rk)=nts (xs.map (keyOf rk)):=by
 unfold nts
 rw [AP,AU]
 exact Hi fun k _=>rfl
section
variable {B:Bx} {H:Hp} {Q:AV->Hp->Prop}
theorem U5 {script:List Int} (hf:Free 0 H) (hs:script.length≤1000) (q:∀ H',Q (.bool true) H'):vS B 14 lawY ⟨loc0 [((snm "script" false).1,.lst (nts script))] lawN,H⟩ fun fl σ'=>Q (retv fl) σ'.H:=by
 dsimp only [vS0,vG]
 refine ⟨rfl,.inl ⟨2,by decide,Pc (N:=0) (base:=[0,1,5,9,7,3,2,6]) (hf _ (A4 _)) hs (by decide) (by decide) fun cells hcz=>?_⟩⟩
 have hcz:cells.length=8:=hcz
 have bgc:(nts cells).length≤big:=by rw [Hc,hcz]; decide
 have c0:up H (0,0) (.list (nts cells)) (0,0)=some (.list (nts cells)):=Hb ..
 have f1:Free 1 (up H (0,0) (.list (nts cells))):=fun l hl=>(Ha _ _ fun e=>by rw [e] at hl; exact absurd hl (by decide)).trans (hf l (A4 _))
 generalize up H (0,0) (.list (nts cells))=H1 at c0 f1
 dsimp only [vS0,vG]
 refine N6 (σ:=⟨_,H1⟩) (xs:=cells) (n:=0) c0 (by rw [hcz]; decide) rfl (by lia) ?_
 refine ⟨2,by decide,OZ (N:=1) (f1 _ (Ak _)) fun o xs ho1 ho2=>?_⟩
 have c1:up H1 (1,0) (.list xs) (0,0)=some (.list (nts cells)):=(Ha _ _ (fun e=>absurd (congrArg Prod.fst e) (by decide))).trans c0
 have f2:Free 2 (up H1 (1,0) (.list xs)):=fun l hl=>(Ha _ _ fun e=>by rw [e] at hl; exact absurd hl (by decide)).trans (f1 l (by exact Ay (by assumption)))
 generalize up H1 (1,0) (.list xs)=H2 at c1 f2
 clear c0 f1
 dsimp only [vS0,vG]
 refine ⟨nofun,.inl ⟨_,c1,bgc,.inl ?_⟩⟩
 rw [show pickL (nts cells) (some 1) none none=nts (cells.drop 1) from (Iw _ 1).trans Dd.symm]
 have hd:(cells.drop 1).length=7:=by rw [Bn,hcz]
 generalize cells.drop 1=ds at hd
 refine ⟨by rw [Hc,hd]; decide,markF,fun x hx=>?_,.inl ?_⟩
 ·obtain ⟨i,hi,rfl⟩:=As.mp hx
  obtain ⟨m,hm,hml⟩:=HL i (n:=3) (by decide)
  obtain ⟨k,hk,hkl⟩:=HL (i.fdiv 3) (n:=4) (by decide)
  refine ⟨rfl,fun _=>?_,nofun⟩
  refine ⟨rfl,.inl ⟨by decide,_,(show i.fmod 3=(m:Int) from hm)▸Kn (xs:=ends3) (by decide) hml,rfl,.inl ⟨⟨by decide,by decide⟩,by decide,_,(show (i.fdiv 3).fmod 4=(k:Int) from hk)▸Kn (xs:=whites4) (by decide) hkl,rfl,rfl,?_⟩⟩⟩
  unfold markF markOf
  dsimp only
  rw [show i.fmod 3=(m:Int) from hm,show (i.fdiv 3).fmod 4=(k:Int) from hk,Aw,Aw]
 rw [OS]
 have hmz:(ds.map markOf).length=7:=by rw [Ae,hd]
 have hmo:∀ m∈ds.map markOf,MOk m:=fun m hm=>by
  obtain ⟨i,_,rfl⟩:=As.mp hm
  exact Na i
 generalize ds.map markOf=ms at hmz hmo
 have ho4:o.length≤4:=ho1.length_le_of_subset (l₂:=sgn) ho2
 dsimp only [vS0,vG]
 refine ⟨2,by decide,OX (N:=2) (f2 _ (Ak _)) (by lia) hmo ho4 ho2 fun ep=>?_⟩
 rw [hmz]
 have D:=Rd.start hmz hmo ho4 ho2
 have hrl:=QM (o:=o) (ms:=ms) 7
 have c2:up H2 (2,0) (.dict (dI (rkN o ms 7)) ep) (2,0)=some (.dict (dI (rkN o ms 7)) ep):=Hb ..
 have f3:Free 3 (up H2 (2,0) (.dict (dI (rkN o ms 7)) ep)):=fun l hl=>(Ha _ _ fun e=>by rw [e] at hl; exact absurd hl (by decide)).trans (f2 l (by exact Ay (by assumption)))
 generalize up H2 (2,0) (.dict (dI (rkN o ms 7)) ep)=H3 at c2 f3
 clear c1 f2
 generalize rkN o ms 7=rk at D hrl c2
 have hnd:(doms rk).Nodup:=D.a.imp CZ
 obtain ⟨s1,s2,s3,s4⟩:=IS hnd
 dsimp only [vS0,vG]
 refine ⟨12,by decide,Nh (rl:=(2,0)) (b:=3) c2 (by decide) f3 hrl (fun q hq p hp=>?_) fun H4 so4 k4 f4=>?_⟩
 ·rw [s3] at hp
  obtain ⟨p1,p2⟩:=Hn.mp hp
  exact ⟨(s4 p).mpr p1,(Hq.mp p2).2.1⟩
 have c4:=(k4 (2,0) (by decide)).trans c2
 dsimp only [vS0,vG]
 have hdm:(dI rk).map (fun p=>AV.int p.1)=nts (doms rk):=by unfold dI doms nts; rw [AU,AU]; rfl
 have hdl:(doms rk).length≤7:=by unfold doms; rw [Ae]; exact hrl
 refine .inr ⟨dI rk,ep,c4,?_⟩
 rw [hdm]
 refine ⟨by rw [Hc]; exact bg (by exact Ab (by assumption) (by decide)),keyF rk,fun x hx=>?_,.inr ⟨(8,0),f4 _ (Ak _),?_⟩⟩
 ·obtain ⟨p,hp,rfl⟩:=As.mp hx
  refine ⟨rfl,fun _=>?_,nofun⟩
  exact .inr (.inl ⟨dI rk,ep,_,c4,JZ hp,GE (by decide),rfl,rfl⟩)
 rw [Rz]
 have c5:up H4 (8,0) (.list (nts ((doms rk).map (keyOf rk)))) (8,0)=some (.list (nts ((doms rk).map (keyOf rk)))):=Hb ..
 have k5:∀ l:Lb,l.1<8->up H4 (8,0) (.list (nts ((doms rk).map (keyOf rk)))) l=H4 l:=fun l hl=>Ha _ _ fun e=>by rw [e] at hl; exact absurd hl (by decide)
 have f5:Free 9 (up H4 (8,0) (.list (nts ((doms rk).map (keyOf rk))))):=fun l hl=>(Ha _ _ fun e=>by rw [e] at hl; exact absurd hl (by decide)).trans (f4 l (by exact Ay (by assumption)))
 generalize up H4 (8,0) (.list (nts ((doms rk).map (keyOf rk))))=H5 at c5 k5 f5
 dsimp only [vS0,vG]
 refine ⟨8,by decide,J1 (l:=(8,0)) (N:=9) c5 (by decide) f5 (by rw [Ae]; exact Ab (by assumption) (by decide)) fun zs H6 g1 g2 g3 g4 g5 g6=>?_⟩
 obtain ⟨r1,r2⟩:=Ki D.p D.a g1 g2
 rw [r1] at g3
 have so6:So 3 (sortF rk).prep H6:=so4.congr (c:=6) (by decide) fun l hl=>(g5 l (by exact Ab (by assumption) (by decide)) fun e=>by rw [e] at hl; exact absurd hl (by decide)).trans (k5 l (by exact Ab (by assumption) (by decide)))
 obtain ⟨R,I⟩:=Inv.start hnd
 obtain ⟨q1,q2⟩:=La I hnd
 have hRz:R.length≤7:=by rw [q1.length_eq]; exact D.cuts_len
 dsimp only [vS0,vG]
 dsimp only [pairP]
 refine ⟨so6.um (u:=.ready) rfl,2,by decide,KM so6 I.rd (bg (by exact Ab (by assumption) (by decide))) (fun p hp=>(I.kd p).mpr ((I.rm p).mp hp).1) fun H7 s7 o7=>?_⟩
 have g37:=(o7 (9,0) (by decide) (by decide) (by decide)).trans g3
 have g47:=(o7 (9,2) (by decide) (by decide) (by decide)).trans g4
 have f7:Free 10 H7:=fun l hl=>(o7 l (by lia) (by lia) (by lia)).trans (g6 l hl)
 clear g3 g4 g5 g6 c5 k5 f5 c4 k4 f4 so4 so6
 dsimp only [vS0,vG]
 refine ⟨rfl,fun _=>?_,nofun⟩
 refine ⟨R,.inr rfl,by exact Ag (by assumption) (by decide),fun ws hw1 hw2=>.inl (.inl ⟨ws,cutsOf rk (doms rk),.inl rfl,.inr ⟨_,rfl,g37⟩,?_⟩)⟩
 have e:ws=cutsOf rk (doms rk):=Il (hw1.trans q1) hw2 ((D.a.sublist A2).imp Bf)
 rw [decide_eq_true e]
 refine ⟨nofun,fun _=>?_⟩
 dsimp only [vS0,vG]
 exact ⟨14,by decide,T7 hnd hrl ⟨s7,q2,D,fun x hx=>hx,g37,⟨_,g47,(List.reverse_perm _).trans r2⟩,f7,by decide,by decide,nn (by decide)⟩ q⟩
end
end
section
theorem WC.root {G:Gb} {k:Nat} {fd:FuncData} {f:Addr} {oc:Value} {od:Option Addr} {osl:Array (Option Value)} {body:List Stmt} {ns:List (Str×Bool)} {H:Hp} {Q:AV->Hp->Prop} {ab:List (Str×AV)} {A:Around} {η1:Et} {s1:Shared} {args':List Value} {binds:List (Str×Value)}
  (hf:G.K.lookup f=some ⟨oc,od,.func fd,osl⟩) (hoc:oc≠.none) (hcd:Ex4 fun cd oc' vs t=>An5 (fd.code=.ref cd) (G.K.lookup cd=some oc') (oc'.cls≠.none) (oc'.data=.fields vs) (vs[1]?=some (.str fd.qualname t))) (hb:fd.body=.stmts body) (hcl:fd.closure=[])
  (hgl:fd.globals=mainGlobals) (hbu:fd.builtins=builtinsNs) (hok:fnOk fd ns=true) (hbind:bindArgs fd ⟨args',[]⟩=pure binds) (br:IE η1 ab binds) (hab:ab.map (·.1)=(ns.take ab.length).map (·.1))
  (h:∀ A fe L,WS G (fcx fd f ns A fe L k) body ⟨loc0 ab ns,H⟩ fun fl σ'=>Q (retv fl) σ'.H)
  (hA:A.frames=some []) (d1:A.depth+k+1≤900) (d2:A.units+3+50*k≤9000) (d3:A.handled=none) (R1:Bs G η1 H s1) :
  codeAny (mo G) A (.call (.ref f) ⟨args',[]⟩) (retP fun v s'=>Ex3 fun v' H' η'=>An4 (VR η' v' v) (Q v' H') (Bs G η' H' s') (η1.le η')) s1:=by
 have kin:∀ {a:Addr} {o:Obj},G.K.lookup a=some o->o.cls≠.none->s1.heap.get? a=some o:=fun e hc=>R1.old.get_of_cls (R1.gok.X _ _ e) hc
 obtain ⟨g2,g3⟩:=LM hok
 obtain ⟨cd,oc',vs,t,e1,e2,e3,e4,e5⟩:=hcd
 refine (Fd (by show A.depth<recursionLimit; unfold recursionLimit; lia) (kin hf hoc) rfl g2 g3 hb ⟨cd,oc',vs,t,e1,kin e2 e3,e4,e5⟩ ?_)
 rw [hbind]
 exact Ad (NK hgl hbu hcl hok hab hA d1 d2 d3 br R1 .nil (h A []) fun L fl' fl σ3 η3 s3 q3 hfl R3 ow st3=>⟨retv fl,σ3.H,η3,hfl.val,q3,R3.bs,st3.le⟩)
end
section
noncomputable def hole (h:Heap) (a:Addr):Heap:=⟨h.objs.modify a fun o=>{ o with data:=.freed },h.life⟩
theorem JR (h:Heap) (a b:Addr):(hole h a).get? b=if b=a then none else h.get? b:=by
 unfold hole Heap.get?
 dsimp only
 rw [Array.getElem?_modify]
 by_cases e:a=b
 ·subst e; rw [if_pos rfl,if_pos rfl]
  cases h.objs[a]?<;>rfl
 ·rw [if_neg e,if_neg (Dc e)]
theorem Nz (h:Heap) (a:Addr):(hole h a).objs.size=h.objs.size:=Array.size_modify ..
section
variable {h:Heap} {la:Addr}
theorem Je {b:Addr} {o:Obj} (e:(hole h la).get? b=some o):b≠la∧h.get? b=some o:=by
 rw [JR] at e
 by_cases q:b=la
 ·rw [if_pos q] at e; cases e
 ·rw [if_neg q] at e; exact ⟨q,e⟩
theorem Iv {b:Addr} {o:Obj} (n:b≠la) (e:h.get? b=some o):(hole h la).get? b=some o:=by rw [JR,if_neg n]; exact e
theorem Lh {b:Addr} {m:Str->Option Value} (n:b≠la) (N:h.Ns b m):(hole h la).Ns b m:=let ⟨o,es,ep,e,r⟩:=N; ⟨o,es,ep,Iv n e,r⟩
theorem OJ {h':Heap} {o:Obj} (K:OldK (hole h la) h') (n:cStatics≠la) (e:h'.get? la=some o) (e0:h.get? la=some o):OldK h h' where
 old:=fun b ob eb=>by
  by_cases q:b=la
  ·subst q; rw [e0] at eb; cases eb; exact .inl e
  ·rcases K.old b ob (Iv q eb) with x | ⟨⟨c,oc,ws,x1,x2⟩,y⟩ | ⟨x1,x2,x3,x4⟩
   ·exact .inl x
   ·exact .inr (.inl ⟨⟨c,oc,ws,(Je x1).2,x2⟩,y⟩)
   ·refine .inr (.inr ⟨x1,x2,x3,fun key=>?_⟩)
    have:staticOf (hole h la) key=staticOf h key:=ET (by rw [JR,if_neg n]) key
    rw [← this]; exact x4 key
 there:=fun b ob eb=>by
  by_cases q:b=la
  ·subst q; exact ⟨o,e⟩
  ·exact K.there b ob (Iv q eb)
end
noncomputable def wdi (P:Params) (h:Heap) (d:WData) (v:Value):Prop:=match d with
 | .int i=>∃ t,v=.int i t
 | .list xs=>Ex2 fun a vs=>An3 (v=.ref a) (h.get? a=some (lstO vs.toArray 0)) (WellAll P h vs xs)
 | _=>True
theorem PK {P:Params} {h:Heap} {d:WData} {v:Value} (w:Well P h v d):wdi P h d v :=
 Well.casesOn (motive_1:=fun v d _=>wdi P h d v) w trivial (fun _=>trivial) (fun _ t=>⟨t,rfl⟩) (fun _ _=>trivial) (fun _ _=>trivial) (fun _ _=>trivial) (fun _=>trivial) (fun e a=>⟨_,_,rfl,e,a⟩) (fun _ _=>trivial) (fun _ _=>trivial) (fun _ _ _ _=>trivial) (fun _ _ _ _=>trivial) (fun _ _ _ _=>trivial)
theorem PL {P:Params} {h:Heap} {vs:List Value} {d:WData} {xs:List WData} (w:WellAll P h vs (d::xs)):Ex2 fun v r=>An3 (vs=v::r) (Well P h v d) (WellAll P h r xs):=by
 cases w with | cons a b=>exact ⟨_,_,rfl,a,b⟩
theorem PJ {P:Params} {h:Heap} {vs:List Value} (w:WellAll P h vs []):vs=[]:=by cases w; rfl
theorem RA {P:Params} {h:Heap} {η:Et} {R:WRecords} {xs:List WData}:∀ {vs:List Value},WellAll P h vs xs->WShape.hasItems R xs .int=true->∃ script:List Int,xs.length=script.length∧VRs η (nts script) vs:=by
 induction xs with
 | nil=>exact fun w _=>⟨[],rfl,PJ w▸.nil⟩
 | cons d xs ih =>
  intro vs w hs
  obtain ⟨v,r,rfl,a,b⟩:=PL w
  unfold WShape.hasItems at hs
  rw [AF] at hs
  obtain ⟨i,rfl⟩:=hasW_int hs.1
  obtain ⟨sc,e1,e2⟩:=ih b hs.2
  obtain ⟨t,rfl⟩:∃ t,v=.int i t:=PK a
  exact ⟨i::sc,congrArg (· + 1) e1,.cons (.int _ _) e2⟩
theorem Mh {K:Frag} {a:Addr} {o:Obj} (e:K.lookup a=some o):(a,o)∈K:=by
 induction K with
 | nil=>cases e
 | cons x K ih =>
  obtain ⟨b,y⟩:=x
  rw [Bd] at e
  cases q:a==b with
  | true=>rw [q] at e; rw [beq_iff_eq.mp q,← Option.some.inj e]; exact .head _
  | false=>rw [q] at e; exact .tail _ (ih e)
theorem KU {K K':Frag} {a:Addr} {o:Obj} (e:K.lookup a=some o):(K++K').lookup a=some o:=by
 induction K with
 | nil=>cases e
 | cons x K ih =>
  obtain ⟨b,y⟩:=x
  rw [List.cons_append,Bd]
  rw [Bd] at e
  cases q:a==b with
  | true=>rw [q] at e; exact e
  | false=>rw [q] at e; exact ih e
noncomputable def kinds (P:Params):Bool:=(K1 P).all fun p=>(!(p.2.cls==.none)||p.1==cStatics)&&!(p.2.cls==.type "list")
theorem Pd (P:Params):kinds P=true:=by kernel_rfl
theorem Nt {P:Params} {a:Addr} {o:Obj} (e:(K1 P).lookup a=some o):(o.cls≠.none∨a=cStatics)∧o.cls≠.type "list" :=by
 have:=AX.mp (Pd P) _ (Mh e)
 rw [AF,DU] at this
 obtain ⟨h1,h2⟩:=this
 refine ⟨h1.imp (fun h q=>?_) fun h=>beq_iff_eq.mp h,fun q=>?_⟩
 ·dsimp only at h; rw [q] at h; cases h
 ·dsimp only at h2; rw [q] at h2; cases h2
theorem Rc {h:Heap} {la b:Addr} {vs:Array Value} {n:Nat} {m:Str->Option Value} (N:h.Ns b m) (e:h.get? la=some (lstO vs n)):b≠la:=fun q=>by
 obtain ⟨o,es,ep,e1,e2,_⟩:=N
 rw [q,e] at e1; cases e1; cases e2
theorem Ut {xs:List WData} (h:ro.pre.holds ro.records { args:=[.list xs] }=true):xs.length≤63:=by
 have e:ro.pre=.and (.not (.lt (.lit (.int 63)) (.len (.arg 0)))) (.lit (.bool true)):=by kernel_rfl
 rw [e] at h
 have v:WTm.value ro.records (.and (.not (.lt (.lit (.int 63)) (.len (.arg 0)))) (.lit (.bool true))) { args:=[.list xs] }=some (.bool (!decide ((63:Int)<(xs.length:Int)))):=by
  have l:=w_and (R:=ro.records) (e:=({ args:=[.list xs] }:WCtx)) (w_not (w_lt (a:=.lit (.int 63)) (b:=.len (.arg 0)) w_lit (w_len_list (w_arg (i:=0) rfl)))) (w_lit (d:=.bool true))
  rw [Bool.and_true] at l; exact l
 delta WTm.holds at h
 generalize WTm.value ro.records _ _=o at h v
 subst v
 generalize hq:decide ((63:Int)<(xs.length:Int))=q at h
 cases q with
 | true=>exact ff h
 | false=>exact Be.mp (BE.mp (of_decide_eq_false hq))
theorem Nf:dk.1.name=A8 "law" :=by kernel_rfl
theorem T5 (P:Params):nsIn (K1 P) mainGlobals (A8 "law")=some (some (.ref 391)):=by kernel_rfl
theorem Ng (B:Bx) (v:Value):bindArgs (fdAt (KB B) 391) ⟨[v],[]⟩=pure [((snm "script" false).1,v)]:=by kernel_rfl
theorem QT (xs:List WData):ro.claim.post [.list xs] (.bool true) [.list xs]=true:=by kernel_rfl
noncomputable def et0 (la:Addr) (o:Obj):Et:=⟨fun _=>0,fun _=>False,fun x=>if x=la then some o else none⟩
theorem law_holds:B5.Holds:=hd fun w s₀ s₁ mg mb G Y a o pm cd doc dV kV ha ho hcr hdf hmg hgens args vals as hpre hlay hrd hwell hsys=>by
 have Y:(Ka w.params).In s₁.heap:=Y
 have hpre:(WShape.hasAll ro.records args [.list .int]&&ro.pre.holds ro.records { args:=args })=true:=hpre
 rw [AF] at hpre
 obtain ⟨h1,h2⟩:=hpre
 obtain ⟨d,r,rfl,hd1,hr1⟩:=hasAllW_cons h1
 obtain rfl:=hasAllW_nil hr1
 obtain ⟨xs,rfl,hx⟩:=hasW_list hd1
 have hlen:=Ut h2
 obtain ⟨v0,r0,rfl,w1,w2⟩:=PL hwell
 obtain rfl:=PJ w2
 obtain ⟨la,vs,rfl,e0,wv⟩:Ex2 fun (a:Addr) (vs:List Value)=>An3 (v0=.ref a) (s₁.heap.get? a=some (lstO vs.toArray 0)) (WellAll w.params s₁.heap vs xs):=PK w1
 have n3:=Rc G.T.g e0
 have n4:=Rc G.T.b e0
 have nS:cStatics≠la:=let ⟨_,N,_⟩:=G.T.nolimit; Rc N e0
 have g260:s₁.heap.get? 260=some o12:=Y 260 _ (by kernel_rfl)
 have g267:s₁.heap.get? 267=some o12:=Y 267 _ (by kernel_rfl)
 have n260:(260:Addr)≠la:=fun q=>by rw [q,e0] at g260; cases g260
 have n267:(267:Addr)≠la:=fun q=>by rw [q,e0] at g267; cases g267
 have X:(K1 w.params).In (hole s₁.heap la):=fun b ob e=>by
  have h:=Y b ob (KU e)
  refine Iv (fun q=>(Nt e).2 ?_) h
  rw [q,e0] at h; cases h; rfl
 let B:Bx:=⟨w,hole s₁.heap la,s₁.os,mg,mb,Iv n260 g260,Iv n267 g267⟩
 have gok:(gg B).Ok:=⟨X,fun b ob e=>(Nt e).1,Lh n3 G.T.g,Lh n4 G.T.b,G.T.builtins,let ⟨m,N,r⟩:=G.T.nolimit; ⟨m,Lh nS N,r⟩⟩
 have ea:a=391:=by
  have h:=mg_of gok.X gok.g (T5 w.params)
  have h':mg (A8 "law")=some (.ref a):=Nf▸hmg
  rw [show (gg B).mg (A8 "law")=mg (A8 "law") from rfl,h'] at h
  cases h; rfl
 subst ea
 obtain ⟨script,l1,hvr⟩:=RA (η:=et0 la (lstO vs.toArray 0)) wv hx
 have R:Bs (gg B) (et0 la (lstO vs.toArray 0)) (fun _=>none) s₁:={
  gok:=gok
  heap:=fun l o e=>nomatch e
  dom:=fun l=>⟨fun h=>h.elim,fun h=>absurd rfl h⟩
  inj:=fun l l' h=>h.elim
  sep:=fun l o e=>nomatch e
  low:=fun l h=>h.elim
  frz:=fun b ob e=>by
   unfold et0 at e
   dsimp only at e
   by_cases q:b=la
   ·rw [if_pos q] at e; cases e; rw [q]; exact e0
   ·rw [if_neg q] at e; cases e
  old:=.of_keep fun b ob e=>(Je e).2
  bk:=fun b ob e _=>(Je e).2
  gens:=.of_eq hgens
  os:=rfl
  zt:=fun b ob e=>if_neg (Je e).1
  tabs:=(Tabs.refl (hole s₁.heap la)).keeps fun b ob e=>(Je e).2
  sz:=A1 (Nz ..) }
 obtain ⟨oc,od,osl,f1,f2,f3,f4,f5,f6⟩:=H8 (Ua B).b
 refine BL (Cu (WC.root (G:=gg B) (k:=14) (ns:=lawN) (H:=fun _=>none) (Q:=fun v _=>v=.bool true) (ab:=[((snm "script" false).1,.lst (nts script))]) (η1:=et0 la (lstO vs.toArray 0)) f1 f2 f3 f4 (Ua B).c f5 f6 (Ua B).o (Ng B _) (.cons (.lst (if_pos rfl) hvr) .nil) rfl (fun A fe L=>?_) rfl (by decide) (by decide) rfl R) fun r s' z=>?_)
 ·refine (sY lawY).l (k:=14) (c:=fcx (fdAt (KB B) 391) 391 lawN A fe L 14) (D:=⟨lawN,(fdAt (KB B) 391).scope.names⟩) ⟨⟨rfl,fun x e=>e,rfl,Ak _⟩,fe,rfl⟩ (Ua B).i ?_
  exact U5 (Q:=fun v _=>v=.bool true) (fun _ _=>rfl) (Ab (A1 l1.symm) (Ab hlen (by decide))) fun _=>rfl
 ·cases r with
  | error e=>exact z.elim
  | ok f=>cases f with
   | ret v =>
    obtain ⟨v',H',η',hv,rfl,R',le⟩:=z
    obtain rfl:=hv.rigE
    exact ⟨.inl ⟨_,.bool true,[],rfl,fun _=>rfl,.bool true,QT xs,fun _=>⟨.nil,nofun⟩⟩,OJ R'.old nS (R'.frz la _ (le.Z la _ (if_pos rfl))) e0,R'.os,R'.gens⟩
   | _=>exact z.elim
end
end
end Mine
theorem PySem.Challenge.cw_oc0336_01_holds : PySem.Challenge.rw_oc0336_01.Holds :=
  Mine.law_holds
