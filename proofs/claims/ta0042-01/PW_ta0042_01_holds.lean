import PyProof.Rows.All
import Wide.All
import OpenK.AllK
import Wide.FinOn
import PyProof.ExcStrCall
import PyProof.ExcStrAll.ValueError
import PyProof.ExcStrAll.ZeroDivisionError
import PyProof.ExcAttrAll.ValueError
import PyProof.ExcAttrAll.ZeroDivisionError
import PyProof.IsiBase
import PyProof.ExcFactsAll.ValueError
import PyProof.ExcFactsAll.ZeroDivisionError
import PyProof.Rows.RaiseClass
import Lean
import PySem.Challenge.RW_ta0042_01
open List renaming length_map->En,range->Et,getElem?_map->Eu,getElem?_eq_getElem->Ex,getD_eq_getElem?_getD->Ey,map_append->Ez,getElem?_eq_some_iff->EB,mem_append_right->EC,mem_singleton->ED,mem_map_of_mem->EE,mem_of_getElem?->EF,mem_cons->EG,replicate->EH,length_take->EJ,length_cons->EK,mem_range->EM,length_range->EN,append_assoc->EO,mem_map->EP,map_cons->EQ,length_append->EU,append_nil->EV,take_length->EW,cons_append->EX,mem_append_left->EY,nodup_cons->E2,mem_append->E3,take_add_one->E5,length->Fb,nil_append->Ff,length_drop->Fp,flatMap_cons->Fu,length_filter_le->Fv,flatMap_append->Fx,drop_eq_getElem_cons->Fz,map_map->FC,range_succ->FH,drop_of_length_le->FJ,replicate_succ->FK,getElem?_range->FL,length_replicate->FN,take_append_drop->FX,mem_of_mem_take->F1,sum_cons->F6,take_zero->F9,filter_append->F_,forIn_cons->Gb,nodup_range->Gf,take_of_length_le->Gi,getElem?_drop->Gj,mem_filter->Go,nodup_append->Gq,flatten_cons->Gr,replicate_succ'->Gw,perm_append_singleton->Gx,forIn_nil->Gy,mem_flatMap->GD,getElem_mem->GE,flatMap_nil->GF,exists_cons_of_length_eq_add_one->GG,pairwise_iff_getElem->GH,map_congr_left->GI,getD_cons_succ->GJ,getElem?_take->GK,toArray->GM,size_toArray->GN,nodup_nil->GO,find?_cons_of_pos->GP,mem_of_mem_drop->GV,length_nil->GX,map_nil->G4,pairwise_cons->G5,getElem_range->G6,getElem?_zip_eq_some->G7,pairwise_map->G8,getElem?_inj->G9,perm_middle->Hb,getElem_map->Hc,flatMap_map->Hd,countP_cons->He,find?_cons_of_neg->Hi,pairwise_append->Hp,lookup->Hq,getElem?_mapIdx->Hr,length_pos_iff->Ht,map_take->Hu,map_drop->Hv,find?_eq_none->Hx,take_sublist->HC,reverse_cons->HD,any_eq_false->HE,filter_cons->HK,ext_getElem->HL,all_eq_true->HM,length_zip->HR,count_cons->HS,getElem?_eq_none_iff->HX,length_eq_zero_iff->H1,drop->H2,getElem?_reverse->Ic,getElem?_eq_none->Ie,countP_mono_left->Ig,mem_iff_getElem->Ii,forall_mem_cons->Ij,replicate_zero->Iq,countP_eq_zero->Ir,mem_filterMap->IA,map_replicate->IB,length_mapIdx->IC,drop_sublist->IN,zipIdx_cons->IV,take->IW,not_mem_nil->IX,map_flatMap->IY,isEmpty_nil->IZ,drop_length->I0
open Nat renaming le_of_ble_eq_true->Eo,le_trans->Ep,lt_of_lt_of_le->Ev,lt_of_le_of_lt->EI,le_refl->EL,mul_comm->ER,le_of_lt->ES,zero_le->ET,add_le_add_left->EZ,zero_add->E7,add_le_add->E8,add_sub_cancel->E9,le_of_lt_succ->E_,lt_irrefl->Fa,ble->Fc,add_comm->Fd,mul_add->Fe,min_le_right->Fg,le_of_eq->Fh,le_add_right->Fi,add_assoc->Fj,lt_of_le_of_ne->Fk,mul_le_mul_left->Fl,two_pow_pos->Fm,div_lt_iff_lt_mul->Fo,mul_le_mul_right->Fq,le_sub_one_of_lt->Fs,add_mul->Ft,sub_zero->Fw,lt_succ_self->Fy,sub_add_cancel->FB,add_sub_of_le->FD,add_sub_cancel_left->FE,div_add_mod->FG,lt_or_ge->FI,one_mul->FM,zero_lt_succ->FQ,sub_one_lt_of_lt->FS,pow_add->FT,add_le_add_right->FU,mul_le_mul->FV,add_lt_add_left->FW,lt_or_eq_of_le->FY,mul_one->F0,sub_le->F2,not_lt->F3,lt_trans->F4,le_succ->F5,succ_le_succ->F7,add_right_comm->F8,le_antisymm->Ga,pow_le_pow_right->Gc,mod_lt->Gd,mul_div_cancel_left->Ge,pos_of_ne_zero->Gg,ne_of_lt->Gh,min_le_left->Gl,min_eq_left->Gm,le_add_left->Gn,mul_assoc->Gp,two_mul->Gs,lt_sub_of_add_lt->Gu,add_lt_add_right->Gv,mod_eq_of_lt->GC,sub_pos_of_lt->GL,le_div_iff_mul_le->GQ,div_eq_of_lt->GR,sub_lt_sub_right->GU,sub_lt_sub_left->GZ,add_sub_cancel'->G0,ne_of_gt->G2,add_zero->G3,lt_add_of_pos_right->G_,exists_eq_add_of_le->Ha,le_total->Hh,sub_eq_zero_of_le->Hl,le_of_sub_eq_zero->Hm,sub_le_sub_right->Hn,div_lt_of_lt_mul->Ho,pow_succ->Hy,mul_zero->Hz,mul_left_comm->HA,le_succ_of_le->HB,min_eq_right->HI,le_of_not_lt->HJ,mul_two->HO,mul_lt_mul_of_pos_right->HT,le_of_mul_le_mul_left->HV,add_mul_mod_self_left->HW,succ_add_eq_add_succ->HY,succ_mul->H4,sub_self->H5,sub_le_iff_le_add'->H6,sub_add_sub_cancel->H7,lt_of_succ_lt_succ->H8,div_div_eq_div_mul->H9,sub_le_iff_le_add->Ia,add_lt_of_lt_sub'->Ib,add_mul_div_left->Ih,div_mul_le_self->Il,div_eq_of_lt_le->Im,add_left_cancel->Io,add_eq_zero_iff->Ip,one_lt_two_pow->Iw,mul_right_comm->Ix,lt_div_mul_add->Iy,eq_zero_or_pos->Iz,zero_lt_of_lt->IH,lt_succ_of_lt->II,lt_succ_of_le->IJ,le_of_succ_le->IK,blt->IL,add_left_comm->IM,shiftLeft_eq->IQ,one_le_of_lt->IR,mul_lt_mul''->IS,lt_of_not_le->IT,add_pos_left->IU
open Int renaming natCast_nonneg->Er,toNat_natCast->Es,natCast_mul->Fn,fdiv_eq_ediv_of_nonneg->FF,ofNat_lt->FP,ofNat_sub->FZ,ofNat_le->Gk,not_lt->Gz,fmod_eq_emod_of_nonneg->GA,natCast_add->GY,natCast_ediv->Hf,eq_ofNat_of_zero_le->Hg,lt_trans->Hj,lt_iff_le_and_ne->Hs,le_trans->HF,add_comm->HG,natCast_emod->HN,one_mul->HP,mul_le_mul_of_nonneg_left->HQ,mul_ediv_cancel_left->HZ,add_assoc->H0,ofNat->H3,ne_of_lt->H_,add_lt_add_left->Iu,sub_add_cancel->ID,lt_of_lt_of_le->IE,add_sub_cancel->IF
open Option renaming map_eq_some_iff->Ew
open Bool renaming false_eq_true->E1,false_ne_true->E6,and_eq_true->GS,not_true->GT,and_eq_true_iff->GW,true_and->Hw,not_eq_true'->HH,and_false->HU,or_eq_false_iff->Ik,or_eq_true_iff->Iv,not_eq_false'->IG
open Array renaming length_toList->E0,getElem?_eq_getElem->FA,getElem?_toList->FO,perm_iff_toList_perm->GB,toList_append->G1,getElem?_eq_none->Hk,toList_push->IP,any_toList->I1
open PySem PySem.W PyProof.Rows
set_option Elab.async false
set_option linter.all false
set_option maxRecDepth 100000
set_option maxHeartbeats 8000000
set_option genInjectivity false
set_option genSizeOf false
namespace Mine.Internal
universe u0 u1 u3
variable {K:AV->Led->Prop} {aa ao ownT:Led} {T:Nat->Nat->Bool} {p:Params} {cs:List (Str×Addr)} {Γ:Cx} {a b n c k x d i top lo j y e:Nat} {α0:Sort u0} {aq pm v:Value} {α1:Sort u1} {L c' f l c_scores c_element c_arcs:Addr} {vs as:List AV} {G:Prop} {ks ex:List (Str×AV)} {fd:FuncData} {Q E:Value->Shared->Prop} {rs:List Addr} {s:Shared} {α β:Type} {C:Cs} {env:Env} {A:Around} {chs:List Ch} {α3:Sort u3} {I:Nat->Led->Prop} {w:World} {scope:Scope} {exv:List (Str×Value)} {u_numbers u_element u_script u_rights u_behind u_groups u_pieces u_ranked u_scores u_count u_lefts u_asked u_tally u_whole u_score u_rings u_place u_plain u_given u_below u_group u_deeds u_total u_arcs u_rows u_line u_wide u_base u_unit u_turn u_left u_rest u_over u_cuts u_part u_root u_told u_tags u_ends u_back u_row u_one u_key u_due u_top:Option AV} {h h':Heap} {loc:Loc} {pos:Pos} {tgt:Expr} {m:Sem α} {items:Array Value} {body:List Stmt} {xs:Nat->Int} {rows:List Rw} {it:Item} {D:AV->Prop} {o:Obj} {ds:List Nat} {gs:List (Addr×Nat)} {elts ifs:List Expr} {r:α->β->Prop}
section
open Lean
abbrev Sx:=Array Syntax
def nd (k:String) (a:Sx):Syntax:= .node .none k.toName a
def tk (s:String):Syntax:= .atom .none s
def nu (a:Sx):Syntax:= .node .none `null a
def tn (k:String) (a:Sx):Syntax:=nd ("Lean.Parser.Tactic."++k) a
def en (k:String) (a:Sx):Syntax:=nd ("Lean.Parser.Term."++k) a
def fh (s:String):Syntax:=mkIdent s.toName
def nn:Syntax:=en "syntheticHole" #[tk "?",tk "_"]
def kl:Syntax:=en "hole" #[tk "_"]
def ap (f:Syntax) (a:Sx):Syntax:=if a.isEmpty then f else en "app" #[f,nu a]
def Ay (s:String) (a:Sx):Syntax:=nu (Syntax.mkSep a (tk s)).getArgs
def sq (a:Sx):Syntax:=tn "tacticSeq" #[tn "tacticSeq1Indented" #[Ay ";" a]]
def t1 (k:String) (x:Syntax):Syntax:=tn k #[tk k,x]
def th (k:String) (x:Syntax):Syntax:=tn k #[tk k,nu #[x]]
def rf (t:Syntax):Syntax:=tn "refine" #[tk (if t.isOfKind `Lean.Parser.Term.anonymousCtor then "refine" else ""),t]
def qS (a:Sx):Syntax:=tn "paren" #[tk "(",sq a,tk ")"]
def fst (a:Sx):Syntax:=tn "first" #[tk "first",nu (a.map fun t=>nd "group" #[tk "|",sq #[t]])]
def wL (t:Syntax):Syntax:=tn "withReducibleAndInstances" #[tk "with_reducible_and_instances",sq #[t]]
def rep (a:Sx):Syntax:=tn "tacticRepeat_" #[tk "repeat",sq #[fst a]]
def Aw (t:Syntax):Syntax:=en "byTactic" #[tk "by",sq #[t]]
def tup (a:Sx):Syntax:=en "anonymousCtor" #[tk "⟨",Ay "," a,tk "⟩"]
def wk (s:String):Syntax:=nd "PyProof.Rows.tacticWalk_at_" #[tk "walk_at",Syntax.mkStrLit s]
def B6:Syntax:=nd "tacticKernel_rfl" #[tk "kernel_rfl"]
def Cc:Syntax:=tn "assumption" #[tk "assumption"]
def sp (s:String):Array String:=(s.splitOn " ").toArray
def mp (a:Array String) (f:String->Syntax):Sx:=a.map f
def mq (a:Sx) (f:Syntax->Syntax):Sx:=a.map f
def ff (s:String) (p:String->Bool):Option String:=(s.splitOn ";").find? p
def De (n:String):Syntax:=rf (ap (fh n) #[nn])
def Az (s:String):Sx:=mp (sp s) De
def mn (s:String):Syntax:=en "explicit" #[tk "@",fh s]
def wM (p:Syntax) (a:Sx):Syntax:=qS #[tn "guardTarget" #[tk "guard_target",nd "Lean.Parser.equal" #[nd "Lean.Parser.equalR" #[tk "="]],p],fst a]
def AB (h:String) (n:Nat):Syntax:=ap (mn h) (Array.replicate n kl)
def Cd (s:String):Sx:=mp (s.splitOn ";").toArray fun g=>
 let w:=sp g
 wM (AB w[0]! (w[1]!.toNat?.getD 0)) (mp (w.extract 2 w.size) De)
def w_ (c:Char) (n l t:Sx):Sx:=
 let k (s:String):Syntax:=rf (tup #[fh s,nn])
 let h:=kl
 let o (p:Syntax) (a:Sx):Sx:=if a.isEmpty then #[]else #[wM p a]
 #[wM (AB "WE" 5) (o (ap (mn "WE") #[h,h,ap (fh "PySem.Expr.Name") #[h,h],h,h]) n++Az "w_int w_str w_none w_bool w_BinOp w_UnaryOp w_Compare w_BoolOp w_IfExp w_MCall w_Call w_SliceH w_SliceAny"++(if c=='x' then #[]else Az "w_Subscript")++Az "w_Tuple w_List w_Attr")]
 ++Cd ((if c=='j' then "WS 5 s_nil" else "WS 5 s_cons s_nil")++";WArgs 6 a_cons a_nil;WX 5 x_If x_Return x_Return_none x_Assign_Name x_Aug_Name x_Expr x_Assign_Attr;WT 5 t_Compare t_Not t_BoolOp t_plain;WAll 6 t_And_cons t_And_nil t_Or_cons t_Or_nil;WKw 6 k_cons k_nil;WBin 6 b_add b_sub;WIn 6 i_add i_sub;WUn 5 u_neg;WCmp 6 c_lt c_le c_gt c_ge c_eq c_ne;WTr 4 wtr_bool tr_int;WAsg 6 asg_Name;WStores 6 ws_cons ws_nil;WBinds 5 wb_cons wb_nil;WTests 5 ts_nil ts_cons;WPart 5 wp_none wp_some")++o (AB "WSt" 6) t++o (ap (mn "W") #[h,h,h,h,ap (fh "loadName") #[h,h],h,h]) l
 ++Az "if_t if_f wpr_c wpr_nil"++ #[wM (AB "Exists" 2) #[rf (tup #[h,fh "rfl",nn])],wM (AB "And" 2) #[k "keeps_builtin",k "keeps_type"]]
def Ce:String:="32 f 32 la/0 lx/1 llo/2 lhi/3 lkey/4 lmid/5 bValueError/6 blen/7;50 f 50 la/0 lx/1 llo/2 lhi/3 lkey/4 lmid/5 bValueError/6 blen/7;32 f 32 la/0 lx/1 llo/2 lhi/3 lkey/4 lmid/5 bValueError/6 blen/7;50 f 50 la/0 lx/1 llo/2 lhi/3 lkey/4 lmid/5 bValueError/6 blen/7;23 f 23 la/0 lx/1 llo/2 lhi/3 lkey/4 gbisect_right/5;41 f 41 la/0 lx/1 llo/2 lhi/3 lkey/4 gbisect_left/5;57 f 57 la/0 lb/1 ln/2 lpad/3 lhalf_n/4 lmask/5 lb1/6 lb2/7 lq1/8 lr/9 lq2/10 bdivmod/12 gdiv3n2n/13/_div3n2n;64 f 64 la12/0 la3/1 lb/2 lb1/3 lb2/4 ln/5 lq/6 lr/7 gdiv2n1n/8/_div2n1n;71 f 71 la/0 cn/1 ca_digits/2 cinner/3 blen/4;71i f 71i lx/0 lL/1 lR/2 lmid/3 lshift/4 lupper/5 llower/6 fa_digits/7 finner/8 fn/9;71 f 71 la/0 cn/1 ca_digits/2 cinner/3 blen/4;78 f 78 cdigits/0 cn/1 cinner/2 blen/3;78i f 78i lL/0 lR/1 lmid/2 lshift/3 fdigits/4 finner/5 fn/6;85 f 85 la/0 lb/1 ln/2 la_digits/3 lr/4 lq_digits/5 la_digit/6 lq_digit/7 lq/8 gint2digits/9/_int2digits breversed/10 gdiv2n1n/11/_div2n1n gdigits2int/12/_digits2int;92 f 92 la/0 lb/1 lq/2 lr/3 bZeroDivisionError/4 gint_divmod/5 gdivmod_pos/6/_divmod_pos;120 f 120 cnumbers/0 lnumber/1 lother/2 larcs/3 lone/4 benumerate/5 brange/6 blen/7;120a c 120a lnumber/0 cnumbers/1;120b c 120b lother/0;127a f 127a lold/0 farcs/1 fnew/2 frights/3;127b f 127b lold/0 farcs/1 flefts/2 fnew/3;127 f 127 carcs/0 crights/1 clefts/2 lrows/3 cnew/4 brange/5 blen/6 ginsort_right/7 ginsort_left/8;144 4 144 lscript/0 lrow/1 lnumbers/2 carcs/3 ccount/4 lrights/5 llefts/6 lrows/7 lline/8 casked/9 cone/10 lwide/11 lbase/12 cunit/13 ltally/14 lturn/15 lwhole/16 lleft/17 lbehind/18 lscore/19 lrest/20 cover/21 lcuts/22 lrings/23 lplace/24 lkey/25 lpart/26 lplain/27 lgiven/28 cbelow/29 lgroups/30 ldue/31 lgroup/32 lroot/33 ltold/34 lelement/35 ltags/36 lends/37 ldeeds/38 cback/39 cpieces/40 cranked/41 cscores/42 ctop/43 ctotal/44 bsum/45 bzip/46 glaw_arcs/47/_law_arcs blen/48 glaw_rows/49/_law_rows bsorted/50 blist/51 brange/52 gint_divmod/53 gdigits2int/54/_digits2int gint2digits/55/_int2digits ginsort_left/56 ginsort_right/57 bmin/58 benumerate/59 gbisect_right/60 gbisect_left/61 glaw_tree/62/_law_tree gserialize_text/63/_serialize_text;144@M35 4 144 lscript/0 lrow/1 ctotal/44 bsum/45 lnumbers/2 carcs/3 ccount/4 lrights/5 llefts/6 lrows/7 bzip/46 glaw_arcs/47/_law_arcs glaw_rows/49/_law_rows blen/48;144a c 144a lstart/0 lstep/1;144@M36 4 144 lrows/7 lrights/5 llefts/6 lline/8 casked/9 bsorted/50 blist/51 brange/52 ccount/4 bzip/46 carcs/3;144b c 144b lone/0 lother/1 carcs/2;144c c 144c lk/0 casked/1;144@M37 4 144 ctotal/44 lwide/11 lbase/12 cunit/13 cscores/42 ltally/14 cranked/41;144@M38 4 144 ccount/4 cone/10 carcs/3 lwide/11 lbase/12 cunit/13 lturn/15 lwhole/16 lleft/17 lbehind/18 lscore/19 lrest/20 cscores/42 ltally/14 gint_divmod/53 gdigits2int/54/_digits2int gint2digits/55/_int2digits ginsort_left/56 ginsort_right/57 brange/52;144d c 144d lk/0 bsum/1 carcs/2 cone/3 cunit/4;144@M39 4 144 ccount/4 cone/10 lwide/11 lwhole/16 lbehind/18 lscore/19 lrest/20 cscores/42 ltally/14 gint2digits/55/_int2digits ginsort_left/56 ginsort_right/57 brange/52;144e c 144e lwins/0;144@M40 4 144 ccount/4 cone/10 brange/52;144@M41 4 144 ccount/4 cone/10 brange/52 cranked/41 cscores/42 ginsort_right/57;144f f 144f lother/0 fscores/1;144@M42 4 144 ccount/4 brange/52 cscores/42 cranked/41 cover/21 lcuts/22 carcs/3 bmin/58;144g c 144g lk/0 bsum/1 cranked/2 cscores/3;144h c 144h lone/0 cscores/1;144@M43 4 144 ccount/4 brange/52 cranked/41 cover/21 lcuts/22 carcs/3 bmin/58;144i c 144i ck/0 carcs/1 cranked/2;144j c 144j llow/0 lhigh/1 carcs/2 ck/3 cranked/4;144k c 144k lk/0 cover/1;144@M44 4 144 ccount/4 brange/52 lrings/23 cone/10 cscores/42 bsum/45 blen/48;144l c 144l lother/0 llast/1 brange/2 carcs/3 ccount/4 cone/5;144m c 144m lscore/0;115a f 115a;115b f 115b lone/0 felement/1;115c f 115c felement/0 ftag/1;115 f 115 ctag/0 lattrib/1 celement/2 glaw_element/3/_law_element;101 f 101 lparent/0 ltag/1 lattrib/2 lextra/3 lelement/4;115d c 115d lone/0 lpart/1;144w f 144w lpart/0 fpieces/1;108 f 108 lwrite/0 lelem/1 lpart/2;132 f 132 carcs/0 ltop/1 lplain/2 lgiven/3 lroot/4 lbelow/5 lone/6 cother/7 lelement/8 lover/9 glaw_element/10/_law_element brange/11 blen/12 gSubElement/13;132@M60 f 132 carcs/0 lone/6 brange/11 blen/12 cother/7 lover/9 lbelow/5 lroot/4 ltop/1 lgiven/3;132@M61 f 132 carcs/0 lone/6 lelement/8 brange/11 blen/12 cother/7 lover/9 lbelow/5 lroot/4 ltop/1 lgiven/3 gSubElement/13;132a c 132a lone/0 lelement/1 carcs/2 cother/3;132@M62 f 132 carcs/0 lone/6 lelement/8 brange/11 blen/12 cother/7 lover/9 lbelow/5 lroot/4 ltop/1 lgiven/3 gSubElement/13;132@M63 f 132 carcs/0 lone/6 lelement/8 brange/11 blen/12 cother/7 lover/9 lbelow/5 lroot/4 ltop/1 lgiven/3;132@M64 f 132 lone/6 lelement/8 lbelow/5 lroot/4;144@M65 4 144 cranked/41 ctop/43 lplain/27 lgiven/28 cbelow/29 carcs/3 brange/52 ccount/4;144o c 144o lone/0 carcs/1 ctop/2;144@M66 4 144 ctop/43 lgiven/28 lgroups/30 cbelow/29 carcs/3 brange/52 ccount/4;144r c 144r cone/0 brange/1 carcs/2 cbelow/3 ccount/4 ctop/5;144s c 144s cother/0 carcs/1 cbelow/2 cone/3 ctop/4;144t c 144t lby/0 carcs/1 cother/2;144@M67 4 144 ctop/43 lgroups/30 ldue/31 lgroup/32;144u c 144u lother/0;144@M68 4 144 carcs/3 ctop/43 lplain/27 lgiven/28 lroot/33 cpieces/40 ltold/34 glaw_tree/62/_law_tree;144@M69 4 144 cone/10 lroot/33 ltold/34;144v c 144v lother/0;144@M70 4 144 cpieces/40 lroot/33 lelement/35 gserialize_text/63/_serialize_text;144x c 144x lone/0 lother/1;144@M71 4 144 ldue/31 ltags/36 lgroups/30 lends/37;144y c 144y ltag/0 lattrib/1;144z c 144z lgroup/0 lother/1 lpart/2;144@M72 4 144 blen/48 ccount/4 ldue/31 ltold/34 cpieces/40 ltags/36 lends/37 lplain/27 lgiven/28;144@M73 4 144 cback/39 ccount/4 cone/10 brange/52 cscores/42 ginsort_left/56;144q f 144q lother/0 fscores/1;144@M45 4 144 cranked/41 lrings/23 lcuts/22 lplace/24 cone/10 lkey/25 lpart/26 gbisect_right/60 gbisect_left/61 benumerate/59;144n f 144n lcut/0;144@M74 4 144 cscores/42 ldue/31 bsorted/50 benumerate/59;144A c 144A lscore/0 lone/1;144B c 144B lone/0 lscore/1;144@M75 4 144 lrows/7 cranked/41 ldue/31 cback/39 ltally/14 cscores/42 bsorted/50;139 f 139 ldeed/0 lerror/1 bValueError/2 bZeroDivisionError/3 bisinstance/4 bstr/5;144P f 144P franked/0 ftop/1 ginsort_right/2;144Q f 144Q fback/0 fscores/1 ftop/2 ginsort_left/3;144R f 144R ftotal/0 gint_divmod/1;144S f 144S lother/0 fscores/1;144@M78 4 144 ldeeds/38 ctop/43 cranked/41 cscores/42 cback/39 ctotal/44;144T c 144T ldeed/0 glaw_refused/1/_law_refused;144@M79b 4 144 lscript/0 lrow/1 ctotal/44 bsum/45"
def Cf:String:="lw_local L mem mem,ll_local L mem mem,lst_local L upd put,cw_cell C X mem,cst_cell C X upd,fw_free C X mem,bw_builtin E G B K A,gw_global E G A"
def xa (ln:String):Sx×Sx×Sx:=
 let w:=sp ln
 let kind:=w[1]!
 let pre:=w[2]!
 let z:=kl
 let k (a b c:String):String:=if kind=="f" then a else if kind=="4" then b else c
 let one (n t:String):Syntax:=
  let q:=sp (n.replace "/" " ")
  let x:=((q[0]!).drop 1).toString
  let sx:=Syntax.mkStrLit ((q[2]?).getD x)
  let h:=ap (fh "KdA.at") #[en "namedArgument" #[tk "(",fh "x",tk ":=",sx,tk ")"],fh ("ka"++pre),Syntax.mkNumLit q[1]!,Aw B6]
  let v:=sp t
  let m:=((v[0]!).drop 1).toString
  let a:=mp (v.extract 1 99) fun c=>match c with
   |"L"=>fh (k "lf" "lf4" "lc")
   |"C"=>fh (k "cf" "cf4" "cc")
   |"X"=>if kind=="4" then fh ("lk_"++x)else Aw (wk "cel")
   |"E"=>fh ("ek"++pre)
   |"G"=>fh ("gl_"++x)
   |"B"=>fh ("bb_"++x)
   |"K"=>Aw B6
   |"A"=>Aw Cc
   |c=>Aw (wk c)
  let g:=match m.front with
   |'w'=>ap (mn "WE") #[z,z,ap (fh "PySem.Expr.Name") #[sx,z],z,z]
   |'l'=>ap (mn "W") #[z,z,z,z,ap (fh "loadName") #[z,sx],z,z]
   |_=>ap (mn "WSt") #[z,z,sx,z,z,z]
  wM g #[rf (ap (fh m) (#[h]++a++ #[nn]))]
 let sel (c:Char):Sx:=((w.toList.drop 3).flatMap fun n=>((Cf.splitOn ",").filter fun t=>t.front==n.front&&(t.drop 1).toString.front ==c).map (one n)).toArray
 (sel 'w',sel 'l',sel 's')
def Df (w:String):Syntax:=t1 "focus" (sq #[wk w,tn "done" #[tk "done"]])
def ra (l:String):Syntax:=wL (t1 "apply" (fh l))
def item (s:String):Syntax:=
 let x:=(s.drop 1).toString
 let w:=x.splitOn ":"
 let v:=w.getLast!
 match s.front with
 |'a'=>Cc
 |'k'=>B6
 |'p'=>t1 "apply" (fh x)
 |'r'=>ra x
 |'x'=>t1 "exact" (fh x)
 |'f'=>Df x
 |'t'=>qS #[ra w.head!,Df v]
 |'u'=>rf (ap (fh w.head!) #[Aw (wk v),nn])
 |'q'=>rf (ap (fh x) #[nn])
 |_=>qS #[t1 "apply" (fh x),B6]
def Cg:String:="mem*a,pList.Mem.head,pmm1,pmm2,pmm3,pmmt,pList.Mem.tail;upd*pUpd.head,pUpd.u1,pUpd.u2,pUpd.u3,pUpd.ut,pUpd.tail;put*pPut.head,pPut.u1,pPut.u2,pPut.u3,pPut.ut,pPut.tail;pick*pPick.head,pPick.u1,pPick.u2,pPick.u3,pPick.ut,pPick.tail;has*a,pList.Mem.head,pmm1,pmm2,pmm3,pmmt,pList.Mem.tail,pmem_app;sub*a,rSubL.here,pSubL.tail,pSubL.app;pk*rpk_head,rpk_u1,rpk_u2,rpk_u3,rpk_ut,rpk_tail,rpk_app;pn*rpk_head,rpk_u1,rpk_u2,rpk_u3,rpk_ut,rpk_tail;pa*rpa_head,rpa_tail,rpa_app;perm*rList.Perm.refl,tpm_take:pk,tpm_takeA:pa;les*rLess.refl,tLess.takeP:pk,tLess.takeA:pa,rLess.skip,rLess.skipA;nsub*rNSm.refl,tNSm.take:pn,rNSm.new;nsu2*rNSm.nil,tNSm.take:pn;use#pWk.mk,fpk,fperm,fnsub,k;usl#pWk.mk2,fpk,fles,fnsu2,k;less*xLess.refl,xLess.nil,uLess.take:pick,qLess.skip;cel*plook_head,clook_tail"
def wN (s:String):MacroM Syntax:=do
 match ff Cg fun l=>l.startsWith (s++"*")||l.startsWith (s++"#")with
 |some l=>
  let a:=mp ((l.drop (s.length+1)).toString.splitOn ",").toArray item
  return if(l.splitOn "*").length >1 then rep a else qS a
 |none=>
  let c:=s.front
  let key:=(s.drop 1).toString
  let some ln:=ff Ce (·.startsWith (key++" "))|Macro.throwUnsupported
  let n:=xa ln
  let z:=n.1++n.2.1++n.2.2
  if c=='n' then return wL (fst z)
  let a:=if c=='a' then Az "asg_Name ws_cons ws_nil"++z else w_ (if c !='j'&&(sp ln)[1]! =="x" then 'x' else c) n.1 n.2.1 n.2.2
  return if c=='o' then wL (fst a)else tn "tacticRepeat_" #[tk "repeat",sq #[wL (fst a)]]
def Ci:String:="l alll arel ak1 aclsl aclel aclql ak5 alel aclll akC acell Nat.lt_sub_of_add_lt Nat.lt_of_sub_eq_succ Nat.lt_trans Nat.lt_of_succ_lt_succ Nat.zero_lt_succ Nat.lt_of_succ_le Nat.lt_of_lt_of_eq md1 n43 n45 n47 n63 n76 n79 n92 n104 n31 n114 n126 n139 n167 n182 n190 n200 n222 n254 n306 n337 n353 n359 n369 n378 n379 n381 n385 n402 n404 n408 n411 n412 n413 n415 n420 n426 n427 n430;e aree akH acsee adeee acqee akE adqee adlee ak4 acese aceee alee alle adqle akK ak8 akA Nat.le_sub_one_of_lt Nat.le_add_left_of_le Nat.le_of_sub_eq_zero Nat.min_le_right Nat.min_le_left Nat.le_of_eq Nat.le_of_lt_succ Nat.le_refl Nat.zero_le Nat.succ_le_of_lt Nat.div_le_of_le_mul md0 n62 n81 n91 n93 n106 n24 n120 n127 n129 n145 n132 n132' n137 n171 n141 n146 n147 n153 n183 n156 n168 n51 n173 n175 n217 n219 n10 n332 n362 n368 n373 n377 n380 n382 n384 n386 n407 n410 n423 n424 n431 n428 md0';ea akD ak3 ak2 n15 n38 n30 n34 n66 n87 n123 n138 n172 n17 n228 n148 n157 n158 n161 n164 n54 n77 n178 n186 n205 n208 n209 n215 n229 n236 n18 n23 n46 n88 n5 n112 n250 n259 n361 n364 n366 n367 n409 n421 md1';qa akG Nat.add_sub_of_le Nat.add_comm Nat.sub_one_add_one_eq_of_pos Nat.add_add_add_comm Nat.add_left_comm n3 n8 n55 n80 n84 n108 n115 n143 n166 n177 n13 n302 n308;Q akJ Int.le_antisymm Int.sub_zero n303 n305 n307 n309 n311 n313 n316 n317 n318 n322 n323 n324 n340 n342 n343 n352 n354 n365 n375 n422;la akI Nat.add_lt_of_lt_sub' Nat.add_lt_add_right n50 n82 n94 n119 n125 n133 n144 n180 n181 n201 n213 n243 n16 n49 n52 n414;ls Nat.sub_succ_lt_self Nat.sub_one_sub_lt_of_lt Nat.sub_one_lt_of_lt Nat.sub_one_lt_of_le n6 n12 n25 n35 n27 n29 n42 n64 n72 n121 n187 n202 n160 n344 n345 n346 n347 n348 n351;es Nat.sub_le_sub_right Nat.sub_le n41 n48 n69 n32 n37 n110 n70;qs Nat.sub_sub_self n57 n341 n360;q Nat.max_eq_left Nat.min_eq_left Nat.le_antisymm Nat.mul_comm n56 n75 n98 n100 n149 n53 n159 n189 n257 n304 n320 n349 n350 n370 n401 n416 n425 n429 n432;z Nat.ne_of_lt Int.emod_two_eq Int.not_lt_of_ge n0 n2 n9 n90 n113 n131 n150 n176 n206 n237 n301 n315 n319 n333 n334 n335 n336 n338 n339 n355 n356 n363 n371 n374 n403 n418 Int.not_lt_of_le;L n310 n314 n321 n325 n326 n327 n328 n329 n330 n331 n358 n376 n383 n405 n417 n419;E n312 n357 n372 n406"
def Dv (p o:Syntax):Syntax:=
 let c:=fst #[Cc,t1 "exact" (fh "rfl")]
 let f (k:String):Sx:=match ff Ci (·.startsWith (k++" "))with
  |some l=>mp ((sp l).extract 1 999) fun s=>nd "Lean.Parser.Tactic.«tactic_<;>_»" #[t1 "apply" (fh s),tk "<;>",c]
  |none=> #[]
 let q (h r t:String) (n:Nat):Syntax:=
  let k (x:Syntax):Syntax:=ap (mn r) (#[fh t]++Array.replicate n kl++ #[x,kl])
  let b (s z:String):Syntax:=wM (k (ap (mn s) #[fh t,fh t,fh t,kl,kl,kl])) (f (h++z))
  wM (k kl) ((if t=="Nat" then #[b "HAdd.hAdd" "a",b "HSub.hSub" "s"]else #[])++f h)
 let w (u t:String):Sx:= #[q ((u.take 1).toString) "LE.le" t 1,q ((u.drop 1).take 1).toString "LT.lt" t 1,q (u.drop 2).toString "Eq" t 0]
 fst #[wL (fst (w "elq" "Nat"++w "ELQ" "Int"++f "z")),p,o]
def AC (p:Syntax):Sx:=
 if p.isOfKind `Lean.Parser.Tactic.rcasesPat.tuple then p[1].getSepArgs.map fun l=>if l[1].isNone &&l[0][0].getArgs.size ==1 then l[0][0][0]else .missing else #[]
def AD (pre:String) (n:Nat) (g:Nat):Array String:=
 let a:=(Array.range n).reverse.filter (·!=g)
 (if g<n then #[g]++a else a).map fun m=>pre++toString m++"_"++toString (n-m)
def Dg (ps:Sx):Nat:=(ps.findIdx? fun p=>p.getKind !=`Lean.Parser.Tactic.rcasesPat.one||(p[0].getId.toString.startsWith "h")||p[0].getId ==`rfl).getD ps.size
def hz:Syntax:=fh "hZZ"
def Dh (p e:Syntax):Syntax:=tn "obtain" #[tk "",nu #[tn "rcasesPatMed" #[nu #[p]]],nu #[],nu #[tk ":=",nu #[e]]]
def xb:Nat->Syntax->Syntax
 |0,_=> .missing
 |n+1,p=>
  let i:=th "intro" hz
  if p.isOfKind `Lean.Parser.Tactic.rcasesPat.one then
   if p[0].getId ==`rfl then fst #[qS #[i,wL (rf (ap (fh "wled") #[hz,nn])),th "clear" hz],qS #[i,th "subst" hz]]else th "intro" p[0]
  else if p.isOfKind `Lean.Parser.Tactic.rcasesPat.ignore then th "intro" kl
  else if p.isOfKind `Lean.Parser.Tactic.rcasesPat.clear then qS #[i,th "clear" hz]
  else
   let fb:=qS #[i,Dh p hz]
   let ps:=AC p
   if ps.size<2||ps.size>9||ps.contains .missing then fb
   else fst #[qS (#[fst ((AD "xr" ps.size (Dg ps)).map fun i=>rf (ap (fh i) #[nn]))]++mq ps (xb n)),fb]
def Di (p e:Syntax):Syntax:=
 let fb:=Dh p e
 let ps:=AC p
 if ps.size<2||ps.size>9||ps.contains .missing then fb
 else fst #[qS (#[fst ((AD "xe" ps.size (Dg ps)).map fun i=>rf (ap (fh i) #[e,nn])),fst (if e.isIdent then #[th "clear" e,tn "skip" #[tk "skip"]]else #[tn "skip" #[tk "skip"]])]++mq ps (xb 9)),fb]
def Dj (n:Name):Bool:=let s:=n.toString;s.startsWith "h"||s.contains '.'||s.contains '_'||s=="rfl"||s=="this"||s=="trivial"
def Dw (t:Syntax):Bool:=
 if t.isIdent then Dj t.getId
 else if t.isOfKind `Lean.Parser.Term.app then !t[0].isIdent ||Dj t[0].getId
 else(sp "syntheticHole byTactic fun anonymousCtor show dotIdent").contains t.getKind.getString!
def xiS:String:=" AAA AAAA AAAAA AAAAAAAA AAEA AAEEAAAA AEA AEAA AEAAA AEAEA AEAEEA AEAEEAAA AEEA AEEAA AEEAAA AEEEA AEEEAAAA EAA EAAA EAAAA EAEA EAEEA EAEEAAAA EAEEAAAAAA EAEEEAAAA EEA EEAA EEAAA EEAAEA EEAEA EEAEEAAAA EEEA EEEAA EEEAAAA EEEAAAAA EEEAAAEA EEEAAAEEA EEEAAAEEAA EEEEAAAAA EEEEEAEA "
def Cj (xs:Sx) (k:String) (fb:Syntax):Syntax:=
 let n:=xs.size
 let s:=String.ofList ((xs.mapIdx fun i t=>if i+1==n||Dw t then 'A' else 'E').toList)
 if n<3||(xiS.splitOn (" "++s++" ")).length <2 then fb else fst #[t1 k (ap (fh ("xi"++s)) xs),fb]
def Dx (r:Syntax):Syntax:=
 let rw:=tn "rewriteSeq" #[tk "rewrite",tn "optConfig" #[nu #[]],tn "rwRuleSeq" #[tk "[",nu #[r],tk "]"],nu #[]]
 let has (l:String):Bool:=(r.find? fun x=>(sp l).contains (x.getKind.toString)).isSome
 if has "Lean.Parser.Term.syntheticHole" then rw
 else
  let e:=ap r[1] #[en "ellipsis" #[tk ".."]]
  let f:=if r[0].isNone then e else ap (fh "Eq.symm") #[e]
  let s (n:String) (x:Syntax):Syntax:=rf (ap (fh n) #[x,nn])
  if has "Lean.Parser.Term.byTactic Lean.Parser.Term.fun" then fst #[s "kv" f,s "kvb" f,s "kvi" f,s "Eq.substr" f,rw]
  else fst #[wL (fst #[s "kv" f,s "Eq.substr" f,s "Eq.substr" (ap (fh "propext") #[f])]),rw]
def tY (s:Syntax):MacroM Syntax:=do
 let m:=s.setArg 0 (tk "")
 let c (i:Nat) (x:Syntax):Bool:=x.getNumArgs==i
 if s[0].getAtomVal !="" then
  match s.getKind.getString! with
  |"tacticWalk_at_"=>return ←wN (s[1].isStrLit?.getD "")
  |"omega"=>if c 0 s[1][0]then return Dv (←`(tactic|lia)) m
  |"obtain"=>if c 1 s[1][0][0]&&c 0 s[2]&&c 1 s[3][1]then return Di s[1][0][0][0] s[3][1][0]
  |"rcases"=>if c 1 s[1]&&c 0 s[1][0][0]&&c 0 s[2][1][1]&&c 1 s[2][1][0][0]then return Di s[2][1][0][0][0] s[1][0][1]
  |"rintro"=>if c 0 s[2]&&s[1].getArgs.all (·.isOfKind `Lean.Parser.Tactic.rintroPat.one)then return qS (s[1].getArgs.map fun p=>xb 9 p[0])
  |"show"=>
   if let some w:=s[1].isStrLit? then return ←wN w
   let t:Term:=⟨s[1]⟩
   return ←`(tactic|first|refine(?_: $t)|change $t)
  |"rwSeq"=>if c 0 s[1][0]&&c 0 s[3]then return qS (s[2][1].getSepArgs.map Dx++ #[(←`(tactic|try (with_reducible rfl))).raw])
  |k=>
   if s[1].isOfKind `Lean.Parser.Term.anonymousCtor then return Cj s[1][1].getSepArgs k m
   let n:=s[1][0].getId.toString
   if k=="refine"&&n.startsWith "W"&&n.contains '.' then return fst #[wL m,m]
 Macro.throwUnsupported
end
section
variable {p a b c d:α} {l:List α}
theorem mm1:p∈a::p::l:= .tail _ (.head _)
theorem mm2:p∈a::b::p::l:= .tail _ mm1
theorem mm3:p∈a::b::c::p::l:= .tail _ mm2
theorem mmt (h:p∈l):p∈a::b::c::d::l:= .tail _ (.tail _ (.tail _ (.tail _ h)))
end
section
universe u2 u4
variable {α2:Sort u2} {A1 A2 A0 A3 A4:α0->α1->α2->Prop} {α4:Sort u4}
theorem xe1_1 {A0:α0->Prop} (h:∃x0,A0 x0) (f:∀x0,A0 x0->G):G:=h.elim f
theorem xr1_1 {A0:α0->Prop} (f:∀x0,A0 x0->G) (h:∃x0,A0 x0):G:=xe1_1 h f
theorem xe2_1 {A0:α0->α1->Prop} (h:∃x0 x1,A0 x0 x1) (f:∀x0 x1,A0 x0 x1->G):G:=h.elim fun x h=>xe1_1 h (f x)
theorem xr2_1 {A0:α0->α1->Prop} (f:∀x0 x1,A0 x0 x1->G) (h:∃x0 x1,A0 x0 x1):G:=xe2_1 h f
theorem xe3_1 (h:∃x0 x1 x2,A0 x0 x1 x2) (f:∀x0 x1 x2,A0 x0 x1 x2->G):G:=h.elim fun x h=>xe2_1 h (f x)
theorem xr3_1 (f:∀x0 x1 x2,A0 x0 x1 x2->G) (h:∃x0 x1 x2,A0 x0 x1 x2):G:=xe3_1 h f
theorem xe4_1 {A0:α0->α1->α2->α3->Prop} (h:∃x0 x1 x2 x3,A0 x0 x1 x2 x3) (f:∀x0 x1 x2 x3,A0 x0 x1 x2 x3->G):G:=h.elim fun x h=>xe3_1 h (f x)
theorem xr4_1 {A0:α0->α1->α2->α3->Prop} (f:∀x0 x1 x2 x3,A0 x0 x1 x2 x3->G) (h:∃x0 x1 x2 x3,A0 x0 x1 x2 x3):G:=xe4_1 h f
theorem xe0_2 {A0 A1:Prop} (h:A0∧A1) (f:A0->A1->G):G:=f h.1 h.2
theorem xr0_2 {A0 A1:Prop} (f:A0->A1->G) (h:A0∧A1):G:=xe0_2 h f
theorem xe1_2 {A0 A1:α0->Prop} (h:∃x0,A0 x0∧A1 x0) (f:∀x0,A0 x0->A1 x0->G):G:=h.elim fun x h=>xe0_2 h (f x)
theorem xr1_2 {A0 A1:α0->Prop} (f:∀x0,A0 x0->A1 x0->G) (h:∃x0,A0 x0∧A1 x0):G:=xe1_2 h f
theorem xe2_2 {A0 A1:α0->α1->Prop} (h:∃x0 x1,A0 x0 x1∧A1 x0 x1) (f:∀x0 x1,A0 x0 x1->A1 x0 x1->G):G:=h.elim fun x h=>xe1_2 h (f x)
theorem xr2_2 {A0 A1:α0->α1->Prop} (f:∀x0 x1,A0 x0 x1->A1 x0 x1->G) (h:∃x0 x1,A0 x0 x1∧A1 x0 x1):G:=xe2_2 h f
theorem xe3_2 (h:∃x0 x1 x2,A0 x0 x1 x2∧A1 x0 x1 x2) (f:∀x0 x1 x2,A0 x0 x1 x2->A1 x0 x1 x2->G):G:=h.elim fun x h=>xe2_2 h (f x)
theorem xr3_2 (f:∀x0 x1 x2,A0 x0 x1 x2->A1 x0 x1 x2->G) (h:∃x0 x1 x2,A0 x0 x1 x2∧A1 x0 x1 x2):G:=xe3_2 h f
theorem xe4_2 {A0 A1:α0->α1->α2->α3->Prop} (h:∃x0 x1 x2 x3,A0 x0 x1 x2 x3∧A1 x0 x1 x2 x3) (f:∀x0 x1 x2 x3,A0 x0 x1 x2 x3->A1 x0 x1 x2 x3->G):G:=h.elim fun x h=>xe3_2 h (f x)
theorem xr4_2 {A0 A1:α0->α1->α2->α3->Prop} (f:∀x0 x1 x2 x3,A0 x0 x1 x2 x3->A1 x0 x1 x2 x3->G) (h:∃x0 x1 x2 x3,A0 x0 x1 x2 x3∧A1 x0 x1 x2 x3):G:=xe4_2 h f
theorem xe5_2 {A0 A1:α0->α1->α2->α3->α4->Prop} (h:∃x0 x1 x2 x3 x4,A0 x0 x1 x2 x3 x4∧A1 x0 x1 x2 x3 x4) (f:∀x0 x1 x2 x3 x4,A0 x0 x1 x2 x3 x4->A1 x0 x1 x2 x3 x4->G):G:=h.elim fun x h=>xe4_2 h (f x)
theorem xr5_2 {A0 A1:α0->α1->α2->α3->α4->Prop} (f:∀x0 x1 x2 x3 x4,A0 x0 x1 x2 x3 x4->A1 x0 x1 x2 x3 x4->G) (h:∃x0 x1 x2 x3 x4,A0 x0 x1 x2 x3 x4∧A1 x0 x1 x2 x3 x4):G:=xe5_2 h f
theorem xe0_3 {A0 A1 A2:Prop} (h:A0∧A1∧A2) (f:A0->A1->A2->G):G:=f h.1 h.2.1 h.2.2
theorem xr0_3 {A0 A1 A2:Prop} (f:A0->A1->A2->G) (h:A0∧A1∧A2):G:=xe0_3 h f
theorem xe1_3 {A0 A1 A2:α0->Prop} (h:∃x0,A0 x0∧A1 x0∧A2 x0) (f:∀x0,A0 x0->A1 x0->A2 x0->G):G:=h.elim fun x h=>xe0_3 h (f x)
theorem xr1_3 {A0 A1 A2:α0->Prop} (f:∀x0,A0 x0->A1 x0->A2 x0->G) (h:∃x0,A0 x0∧A1 x0∧A2 x0):G:=xe1_3 h f
theorem xe2_3 {A0 A1 A2:α0->α1->Prop} (h:∃x0 x1,A0 x0 x1∧A1 x0 x1∧A2 x0 x1) (f:∀x0 x1,A0 x0 x1->A1 x0 x1->A2 x0 x1->G):G:=h.elim fun x h=>xe1_3 h (f x)
theorem xr2_3 {A0 A1 A2:α0->α1->Prop} (f:∀x0 x1,A0 x0 x1->A1 x0 x1->A2 x0 x1->G) (h:∃x0 x1,A0 x0 x1∧A1 x0 x1∧A2 x0 x1):G:=xe2_3 h f
theorem xe3_3 (h:∃x0 x1 x2,A0 x0 x1 x2∧A1 x0 x1 x2∧A2 x0 x1 x2) (f:∀x0 x1 x2,A0 x0 x1 x2->A1 x0 x1 x2->A2 x0 x1 x2->G):G:=h.elim fun x h=>xe2_3 h (f x)
theorem xe4_3 {A0 A1 A2:α0->α1->α2->α3->Prop} (h:∃x0 x1 x2 x3,A0 x0 x1 x2 x3∧A1 x0 x1 x2 x3∧A2 x0 x1 x2 x3) (f:∀x0 x1 x2 x3,A0 x0 x1 x2 x3->A1 x0 x1 x2 x3->A2 x0 x1 x2 x3->G):G:=h.elim fun x h=>xe3_3 h (f x)
theorem xr4_3 {A0 A1 A2:α0->α1->α2->α3->Prop} (f:∀x0 x1 x2 x3,A0 x0 x1 x2 x3->A1 x0 x1 x2 x3->A2 x0 x1 x2 x3->G) (h:∃x0 x1 x2 x3,A0 x0 x1 x2 x3∧A1 x0 x1 x2 x3∧A2 x0 x1 x2 x3):G:=xe4_3 h f
theorem xe5_3 {A0 A1 A2:α0->α1->α2->α3->α4->Prop} (h:∃x0 x1 x2 x3 x4,A0 x0 x1 x2 x3 x4∧A1 x0 x1 x2 x3 x4∧A2 x0 x1 x2 x3 x4) (f:∀x0 x1 x2 x3 x4,A0 x0 x1 x2 x3 x4->A1 x0 x1 x2 x3 x4->A2 x0 x1 x2 x3 x4->G):G:=h.elim fun x h=>xe4_3 h (f x)
theorem xr5_3 {A0 A1 A2:α0->α1->α2->α3->α4->Prop} (f:∀x0 x1 x2 x3 x4,A0 x0 x1 x2 x3 x4->A1 x0 x1 x2 x3 x4->A2 x0 x1 x2 x3 x4->G) (h:∃x0 x1 x2 x3 x4,A0 x0 x1 x2 x3 x4∧A1 x0 x1 x2 x3 x4∧A2 x0 x1 x2 x3 x4):G:=xe5_3 h f
theorem xe6_3 {α5:Sort u5} {A0 A1 A2:α0->α1->α2->α3->α4->α5->Prop} (h:∃x0 x1 x2 x3 x4 x5,A0 x0 x1 x2 x3 x4 x5∧A1 x0 x1 x2 x3 x4 x5∧A2 x0 x1 x2 x3 x4 x5) (f:∀x0 x1 x2 x3 x4 x5,A0 x0 x1 x2 x3 x4 x5->A1 x0 x1 x2 x3 x4 x5->A2 x0 x1 x2 x3 x4 x5->G):G:=h.elim fun x h=>xe5_3 h (f x)
theorem xe0_4 {A0 A1 A2 A3:Prop} (h:A0∧A1∧A2∧A3) (f:A0->A1->A2->A3->G):G:=f h.1 h.2.1 h.2.2.1 h.2.2.2
theorem xr0_4 {A0 A1 A2 A3:Prop} (f:A0->A1->A2->A3->G) (h:A0∧A1∧A2∧A3):G:=xe0_4 h f
theorem xe1_4 {A0 A1 A2 A3:α0->Prop} (h:∃x0,A0 x0∧A1 x0∧A2 x0∧A3 x0) (f:∀x0,A0 x0->A1 x0->A2 x0->A3 x0->G):G:=h.elim fun x h=>xe0_4 h (f x)
theorem xr1_4 {A0 A1 A2 A3:α0->Prop} (f:∀x0,A0 x0->A1 x0->A2 x0->A3 x0->G) (h:∃x0,A0 x0∧A1 x0∧A2 x0∧A3 x0):G:=xe1_4 h f
theorem xe2_4 {A0 A1 A2 A3:α0->α1->Prop} (h:∃x0 x1,A0 x0 x1∧A1 x0 x1∧A2 x0 x1∧A3 x0 x1) (f:∀x0 x1,A0 x0 x1->A1 x0 x1->A2 x0 x1->A3 x0 x1->G):G:=h.elim fun x h=>xe1_4 h (f x)
theorem xr2_4 {A0 A1 A2 A3:α0->α1->Prop} (f:∀x0 x1,A0 x0 x1->A1 x0 x1->A2 x0 x1->A3 x0 x1->G) (h:∃x0 x1,A0 x0 x1∧A1 x0 x1∧A2 x0 x1∧A3 x0 x1):G:=xe2_4 h f
theorem xe3_4 (h:∃x0 x1 x2,A0 x0 x1 x2∧A1 x0 x1 x2∧A2 x0 x1 x2∧A3 x0 x1 x2) (f:∀x0 x1 x2,A0 x0 x1 x2->A1 x0 x1 x2->A2 x0 x1 x2->A3 x0 x1 x2->G):G:=h.elim fun x h=>xe2_4 h (f x)
theorem xr3_4 (f:∀x0 x1 x2,A0 x0 x1 x2->A1 x0 x1 x2->A2 x0 x1 x2->A3 x0 x1 x2->G) (h:∃x0 x1 x2,A0 x0 x1 x2∧A1 x0 x1 x2∧A2 x0 x1 x2∧A3 x0 x1 x2):G:=xe3_4 h f
theorem xe4_4 {A0 A1 A2 A3:α0->α1->α2->α3->Prop} (h:∃x0 x1 x2 x3,A0 x0 x1 x2 x3∧A1 x0 x1 x2 x3∧A2 x0 x1 x2 x3∧A3 x0 x1 x2 x3) (f:∀x0 x1 x2 x3,A0 x0 x1 x2 x3->A1 x0 x1 x2 x3->A2 x0 x1 x2 x3->A3 x0 x1 x2 x3->G):G:=h.elim fun x h=>xe3_4 h (f x)
theorem xr4_4 {A0 A1 A2 A3:α0->α1->α2->α3->Prop} (f:∀x0 x1 x2 x3,A0 x0 x1 x2 x3->A1 x0 x1 x2 x3->A2 x0 x1 x2 x3->A3 x0 x1 x2 x3->G) (h:∃x0 x1 x2 x3,A0 x0 x1 x2 x3∧A1 x0 x1 x2 x3∧A2 x0 x1 x2 x3∧A3 x0 x1 x2 x3):G:=xe4_4 h f
theorem xe0_5 {A0 A1 A2 A3 A4:Prop} (h:A0∧A1∧A2∧A3∧A4) (f:A0->A1->A2->A3->A4->G):G:=f h.1 h.2.1 h.2.2.1 h.2.2.2.1 h.2.2.2.2
theorem xe1_5 {A0 A1 A2 A3 A4:α0->Prop} (h:∃x0,A0 x0∧A1 x0∧A2 x0∧A3 x0∧A4 x0) (f:∀x0,A0 x0->A1 x0->A2 x0->A3 x0->A4 x0->G):G:=h.elim fun x h=>xe0_5 h (f x)
theorem xr1_5 {A0 A1 A2 A3 A4:α0->Prop} (f:∀x0,A0 x0->A1 x0->A2 x0->A3 x0->A4 x0->G) (h:∃x0,A0 x0∧A1 x0∧A2 x0∧A3 x0∧A4 x0):G:=xe1_5 h f
theorem xe2_5 {A0 A1 A2 A3 A4:α0->α1->Prop} (h:∃x0 x1,A0 x0 x1∧A1 x0 x1∧A2 x0 x1∧A3 x0 x1∧A4 x0 x1) (f:∀x0 x1,A0 x0 x1->A1 x0 x1->A2 x0 x1->A3 x0 x1->A4 x0 x1->G):G:=h.elim fun x h=>xe1_5 h (f x)
theorem xr2_5 {A0 A1 A2 A3 A4:α0->α1->Prop} (f:∀x0 x1,A0 x0 x1->A1 x0 x1->A2 x0 x1->A3 x0 x1->A4 x0 x1->G) (h:∃x0 x1,A0 x0 x1∧A1 x0 x1∧A2 x0 x1∧A3 x0 x1∧A4 x0 x1):G:=xe2_5 h f
theorem xe3_5 (h:∃x0 x1 x2,A0 x0 x1 x2∧A1 x0 x1 x2∧A2 x0 x1 x2∧A3 x0 x1 x2∧A4 x0 x1 x2) (f:∀x0 x1 x2,A0 x0 x1 x2->A1 x0 x1 x2->A2 x0 x1 x2->A3 x0 x1 x2->A4 x0 x1 x2->G):G:=h.elim fun x h=>xe2_5 h (f x)
theorem xe4_5 {A0 A1 A2 A3 A4:α0->α1->α2->α3->Prop} (h:∃x0 x1 x2 x3,A0 x0 x1 x2 x3∧A1 x0 x1 x2 x3∧A2 x0 x1 x2 x3∧A3 x0 x1 x2 x3∧A4 x0 x1 x2 x3) (f:∀x0 x1 x2 x3,A0 x0 x1 x2 x3->A1 x0 x1 x2 x3->A2 x0 x1 x2 x3->A3 x0 x1 x2 x3->A4 x0 x1 x2 x3->G):G:=h.elim fun x h=>xe3_5 h (f x)
theorem xr4_5 {A0 A1 A2 A3 A4:α0->α1->α2->α3->Prop} (f:∀x0 x1 x2 x3,A0 x0 x1 x2 x3->A1 x0 x1 x2 x3->A2 x0 x1 x2 x3->A3 x0 x1 x2 x3->A4 x0 x1 x2 x3->G) (h:∃x0 x1 x2 x3,A0 x0 x1 x2 x3∧A1 x0 x1 x2 x3∧A2 x0 x1 x2 x3∧A3 x0 x1 x2 x3∧A4 x0 x1 x2 x3):G:=xe4_5 h f
theorem xe0_6 {A0 A1 A2 A3 A4 A5:Prop} (h:A0∧A1∧A2∧A3∧A4∧A5) (f:A0->A1->A2->A3->A4->A5->G):G:=f h.1 h.2.1 h.2.2.1 h.2.2.2.1 h.2.2.2.2.1 h.2.2.2.2.2
theorem xe1_6 {A0 A1 A2 A3 A4 A5:α0->Prop} (h:∃x0,A0 x0∧A1 x0∧A2 x0∧A3 x0∧A4 x0∧A5 x0) (f:∀x0,A0 x0->A1 x0->A2 x0->A3 x0->A4 x0->A5 x0->G):G:=h.elim fun x h=>xe0_6 h (f x)
theorem xe2_6 {A0 A1 A2 A3 A4 A5:α0->α1->Prop} (h:∃x0 x1,A0 x0 x1∧A1 x0 x1∧A2 x0 x1∧A3 x0 x1∧A4 x0 x1∧A5 x0 x1) (f:∀x0 x1,A0 x0 x1->A1 x0 x1->A2 x0 x1->A3 x0 x1->A4 x0 x1->A5 x0 x1->G):G:=h.elim fun x h=>xe1_6 h (f x)
theorem xr2_6 {A0 A1 A2 A3 A4 A5:α0->α1->Prop} (f:∀x0 x1,A0 x0 x1->A1 x0 x1->A2 x0 x1->A3 x0 x1->A4 x0 x1->A5 x0 x1->G) (h:∃x0 x1,A0 x0 x1∧A1 x0 x1∧A2 x0 x1∧A3 x0 x1∧A4 x0 x1∧A5 x0 x1):G:=xe2_6 h f
theorem xe3_6 {A5:α0->α1->α2->Prop} (h:∃x0 x1 x2,A0 x0 x1 x2∧A1 x0 x1 x2∧A2 x0 x1 x2∧A3 x0 x1 x2∧A4 x0 x1 x2∧A5 x0 x1 x2) (f:∀x0 x1 x2,A0 x0 x1 x2->A1 x0 x1 x2->A2 x0 x1 x2->A3 x0 x1 x2->A4 x0 x1 x2->A5 x0 x1 x2->G):G:=h.elim fun x h=>xe2_6 h (f x)
theorem xiAAA {A0:Prop} {A1:Prop} {A2:Prop} (h0:A0) (h1:A1) (h2:A2):A0∧A1∧A2:=⟨h0,h1,h2⟩
theorem xiAAAA {A0:Prop} {A1:Prop} {A2:Prop} {A3:Prop} (h0:A0) (h1:A1) (h2:A2) (h3:A3):A0∧A1∧A2∧A3:=⟨h0,h1,h2,h3⟩
theorem xiAAAAA {A0:Prop} {A1:Prop} {A2:Prop} {A3:Prop} {A4:Prop} (h0:A0) (h1:A1) (h2:A2) (h3:A3) (h4:A4):A0∧A1∧A2∧A3∧A4:=⟨h0,h1,h2,h3,h4⟩
theorem xiAAAAAAAA {A0:Prop} {A1:Prop} {A2:Prop} {A3:Prop} {A4:Prop} {A5:Prop} {A6:Prop} {A7:Prop} (h0:A0) (h1:A1) (h2:A2) (h3:A3) (h4:A4) (h5:A5) (h6:A6) (h7:A7):A0∧A1∧A2∧A3∧A4∧A5∧A6∧A7:=⟨h0,h1,h2,h3,h4,h5,h6,h7⟩
theorem xiAAEA {A0:Prop} {A1:Prop} {A2:α0->Prop} (h0:A0) (h1:A1) (x0:α0) (h2:A2 x0):A0∧A1∧∃x0,A2 x0:=⟨h0,h1,x0,h2⟩
theorem xiAAEEAAAA {A0:Prop} {A1:Prop} {A2:α0->α1->Prop} {A3:α0->α1->Prop} {A4:α0->α1->Prop} {A5:α0->α1->Prop} (h0:A0) (h1:A1) (x0:α0) (x1:α1) (h2:A2 x0 x1) (h3:A3 x0 x1) (h4:A4 x0 x1) (h5:A5 x0 x1):A0∧A1∧∃x0,∃x1,A2 x0 x1∧A3 x0 x1∧A4 x0 x1∧A5 x0 x1:=⟨h0,h1,x0,x1,h2,h3,h4,h5⟩
theorem xiAEA {A0:Prop} {A1:α0->Prop} (h0:A0) (x0:α0) (h1:A1 x0):A0∧∃x0,A1 x0:=⟨h0,x0,h1⟩
theorem xiAEAA {A0:Prop} {A1:α0->Prop} {A2:α0->Prop} (h0:A0) (x0:α0) (h1:A1 x0) (h2:A2 x0):A0∧∃x0,A1 x0∧A2 x0:=⟨h0,x0,h1,h2⟩
theorem xiAEAAA {A0:Prop} {A1:α0->Prop} {A2:α0->Prop} {A3:α0->Prop} (h0:A0) (x0:α0) (h1:A1 x0) (h2:A2 x0) (h3:A3 x0):A0∧∃x0,A1 x0∧A2 x0∧A3 x0:=⟨h0,x0,h1,h2,h3⟩
theorem xiAEAEA {A0:Prop} {A1:α0->Prop} {A2:α0->α1->Prop} (h0:A0) (x0:α0) (h1:A1 x0) (x1:α1) (h2:A2 x0 x1):A0∧∃x0,A1 x0∧∃x1,A2 x0 x1:=⟨h0,x0,h1,x1,h2⟩
theorem xiAEAEEA {A0:Prop} {A1:α0->Prop} (h0:A0) (x0:α0) (h1:A1 x0) (x1:α1) (x2:α2) (h2:A2 x0 x1 x2):A0∧∃x0,A1 x0∧∃x1,∃x2,A2 x0 x1 x2:=⟨h0,x0,h1,x1,x2,h2⟩
theorem xiAEAEEAAA {A0:Prop} {A1:α0->Prop} (h0:A0) (x0:α0) (h1:A1 x0) (x1:α1) (x2:α2) (h2:A2 x0 x1 x2) (h3:A3 x0 x1 x2) (h4:A4 x0 x1 x2):A0∧∃x0,A1 x0∧∃x1,∃x2,A2 x0 x1 x2∧A3 x0 x1 x2∧A4 x0 x1 x2:=⟨h0,x0,h1,x1,x2,h2,h3,h4⟩
theorem xiAEEA {A0:Prop} {A1:α0->α1->Prop} (h0:A0) (x0:α0) (x1:α1) (h1:A1 x0 x1):A0∧∃x0,∃x1,A1 x0 x1:=⟨h0,x0,x1,h1⟩
theorem xiAEEAA {A0:Prop} {A1:α0->α1->Prop} {A2:α0->α1->Prop} (h0:A0) (x0:α0) (x1:α1) (h1:A1 x0 x1) (h2:A2 x0 x1):A0∧∃x0,∃x1,A1 x0 x1∧A2 x0 x1:=⟨h0,x0,x1,h1,h2⟩
theorem xiAEEAAA {A0:Prop} {A1:α0->α1->Prop} {A2:α0->α1->Prop} {A3:α0->α1->Prop} (h0:A0) (x0:α0) (x1:α1) (h1:A1 x0 x1) (h2:A2 x0 x1) (h3:A3 x0 x1):A0∧∃x0,∃x1,A1 x0 x1∧A2 x0 x1∧A3 x0 x1:=⟨h0,x0,x1,h1,h2,h3⟩
theorem xiAEEEA {A0:Prop} (h0:A0) (x0:α0) (x1:α1) (x2:α2) (h1:A1 x0 x1 x2):A0∧∃x0,∃x1,∃x2,A1 x0 x1 x2:=⟨h0,x0,x1,x2,h1⟩
theorem xiAEEEAAAA {A0:Prop} (h0:A0) (x0:α0) (x1:α1) (x2:α2) (h1:A1 x0 x1 x2) (h2:A2 x0 x1 x2) (h3:A3 x0 x1 x2) (h4:A4 x0 x1 x2):A0∧∃x0,∃x1,∃x2,A1 x0 x1 x2∧A2 x0 x1 x2∧A3 x0 x1 x2∧A4 x0 x1 x2:=⟨h0,x0,x1,x2,h1,h2,h3,h4⟩
theorem xiEAA {A0:α0->Prop} {A1:α0->Prop} (x0:α0) (h0:A0 x0) (h1:A1 x0):∃x0,A0 x0∧A1 x0:=⟨x0,h0,h1⟩
theorem xiEAAA {A0:α0->Prop} {A1:α0->Prop} {A2:α0->Prop} (x0:α0) (h0:A0 x0) (h1:A1 x0) (h2:A2 x0):∃x0,A0 x0∧A1 x0∧A2 x0:=⟨x0,h0,h1,h2⟩
theorem xiEAAAA {A0:α0->Prop} {A1:α0->Prop} {A2:α0->Prop} {A3:α0->Prop} (x0:α0) (h0:A0 x0) (h1:A1 x0) (h2:A2 x0) (h3:A3 x0):∃x0,A0 x0∧A1 x0∧A2 x0∧A3 x0:=⟨x0,h0,h1,h2,h3⟩
theorem xiEAEA {A0:α0->Prop} {A1:α0->α1->Prop} (x0:α0) (h0:A0 x0) (x1:α1) (h1:A1 x0 x1):∃x0,A0 x0∧∃x1,A1 x0 x1:=⟨x0,h0,x1,h1⟩
theorem xiEAEEA {A0:α0->Prop} (x0:α0) (h0:A0 x0) (x1:α1) (x2:α2) (h1:A1 x0 x1 x2):∃x0,A0 x0∧∃x1,∃x2,A1 x0 x1 x2:=⟨x0,h0,x1,x2,h1⟩
theorem xiEAEEAAAA {A0:α0->Prop} (x0:α0) (h0:A0 x0) (x1:α1) (x2:α2) (h1:A1 x0 x1 x2) (h2:A2 x0 x1 x2) (h3:A3 x0 x1 x2) (h4:A4 x0 x1 x2):∃x0,A0 x0∧∃x1,∃x2,A1 x0 x1 x2∧A2 x0 x1 x2∧A3 x0 x1 x2∧A4 x0 x1 x2:=⟨x0,h0,x1,x2,h1,h2,h3,h4⟩
theorem xiEAEEAAAAAA {A0:α0->Prop} {A5:α0->α1->α2->Prop} {A6:α0->α1->α2->Prop} (x0:α0) (h0:A0 x0) (x1:α1) (x2:α2) (h1:A1 x0 x1 x2) (h2:A2 x0 x1 x2) (h3:A3 x0 x1 x2) (h4:A4 x0 x1 x2) (h5:A5 x0 x1 x2) (h6:A6 x0 x1 x2):∃x0,A0 x0∧∃x1,∃x2,A1 x0 x1 x2∧A2 x0 x1 x2∧A3 x0 x1 x2∧A4 x0 x1 x2∧A5 x0 x1 x2∧A6 x0 x1 x2:=⟨x0,h0,x1,x2,h1,h2,h3,h4,h5,h6⟩
theorem xiEAEEEAAAA {A0:α0->Prop} {A1:α0->α1->α2->α3->Prop} {A2:α0->α1->α2->α3->Prop} {A3:α0->α1->α2->α3->Prop} {A4:α0->α1->α2->α3->Prop} (x0:α0) (h0:A0 x0) (x1:α1) (x2:α2) (x3:α3) (h1:A1 x0 x1 x2 x3) (h2:A2 x0 x1 x2 x3) (h3:A3 x0 x1 x2 x3) (h4:A4 x0 x1 x2 x3):∃x0,A0 x0∧∃x1,∃x2,∃x3,A1 x0 x1 x2 x3∧A2 x0 x1 x2 x3∧A3 x0 x1 x2 x3∧A4 x0 x1 x2 x3:=⟨x0,h0,x1,x2,x3,h1,h2,h3,h4⟩
theorem xiEEA {A0:α0->α1->Prop} (x0:α0) (x1:α1) (h0:A0 x0 x1):∃x0,∃x1,A0 x0 x1:=⟨x0,x1,h0⟩
theorem xiEEAA {A0:α0->α1->Prop} {A1:α0->α1->Prop} (x0:α0) (x1:α1) (h0:A0 x0 x1) (h1:A1 x0 x1):∃x0,∃x1,A0 x0 x1∧A1 x0 x1:=⟨x0,x1,h0,h1⟩
theorem xiEEAAA {A0:α0->α1->Prop} {A1:α0->α1->Prop} {A2:α0->α1->Prop} (x0:α0) (x1:α1) (h0:A0 x0 x1) (h1:A1 x0 x1) (h2:A2 x0 x1):∃x0,∃x1,A0 x0 x1∧A1 x0 x1∧A2 x0 x1:=⟨x0,x1,h0,h1,h2⟩
theorem xiEEAAEA {A0:α0->α1->Prop} {A1:α0->α1->Prop} (x0:α0) (x1:α1) (h0:A0 x0 x1) (h1:A1 x0 x1) (x2:α2) (h2:A2 x0 x1 x2):∃x0,∃x1,A0 x0 x1∧A1 x0 x1∧∃x2,A2 x0 x1 x2:=⟨x0,x1,h0,h1,x2,h2⟩
theorem xiEEAEA {A0:α0->α1->Prop} (x0:α0) (x1:α1) (h0:A0 x0 x1) (x2:α2) (h1:A1 x0 x1 x2):∃x0,∃x1,A0 x0 x1∧∃x2,A1 x0 x1 x2:=⟨x0,x1,h0,x2,h1⟩
theorem xiEEAEEAAAA {A0:α0->α1->Prop} {A1:α0->α1->α2->α3->Prop} {A2:α0->α1->α2->α3->Prop} {A3:α0->α1->α2->α3->Prop} {A4:α0->α1->α2->α3->Prop} (x0:α0) (x1:α1) (h0:A0 x0 x1) (x2:α2) (x3:α3) (h1:A1 x0 x1 x2 x3) (h2:A2 x0 x1 x2 x3) (h3:A3 x0 x1 x2 x3) (h4:A4 x0 x1 x2 x3):∃x0,∃x1,A0 x0 x1∧∃x2,∃x3,A1 x0 x1 x2 x3∧A2 x0 x1 x2 x3∧A3 x0 x1 x2 x3∧A4 x0 x1 x2 x3:=⟨x0,x1,h0,x2,x3,h1,h2,h3,h4⟩
theorem xiEEEA (x0:α0) (x1:α1) (x2:α2) (h0:A0 x0 x1 x2):∃x0,∃x1,∃x2,A0 x0 x1 x2:=⟨x0,x1,x2,h0⟩
theorem xiEEEAA (x0:α0) (x1:α1) (x2:α2) (h0:A0 x0 x1 x2) (h1:A1 x0 x1 x2):∃x0,∃x1,∃x2,A0 x0 x1 x2∧A1 x0 x1 x2:=⟨x0,x1,x2,h0,h1⟩
theorem xiEEEAAAA (x0:α0) (x1:α1) (x2:α2) (h0:A0 x0 x1 x2) (h1:A1 x0 x1 x2) (h2:A2 x0 x1 x2) (h3:A3 x0 x1 x2):∃x0,∃x1,∃x2,A0 x0 x1 x2∧A1 x0 x1 x2∧A2 x0 x1 x2∧A3 x0 x1 x2:=⟨x0,x1,x2,h0,h1,h2,h3⟩
theorem xiEEEAAAAA (x0:α0) (x1:α1) (x2:α2) (h0:A0 x0 x1 x2) (h1:A1 x0 x1 x2) (h2:A2 x0 x1 x2) (h3:A3 x0 x1 x2) (h4:A4 x0 x1 x2):∃x0,∃x1,∃x2,A0 x0 x1 x2∧A1 x0 x1 x2∧A2 x0 x1 x2∧A3 x0 x1 x2∧A4 x0 x1 x2:=⟨x0,x1,x2,h0,h1,h2,h3,h4⟩
theorem xiEEEAAAEA {A3:α0->α1->α2->α3->Prop} (x0:α0) (x1:α1) (x2:α2) (h0:A0 x0 x1 x2) (h1:A1 x0 x1 x2) (h2:A2 x0 x1 x2) (x3:α3) (h3:A3 x0 x1 x2 x3):∃x0,∃x1,∃x2,A0 x0 x1 x2∧A1 x0 x1 x2∧A2 x0 x1 x2∧∃x3,A3 x0 x1 x2 x3:=⟨x0,x1,x2,h0,h1,h2,x3,h3⟩
theorem xiEEEAAAEEA {A3:α0->α1->α2->α3->α4->Prop} (x0:α0) (x1:α1) (x2:α2) (h0:A0 x0 x1 x2) (h1:A1 x0 x1 x2) (h2:A2 x0 x1 x2) (x3:α3) (x4:α4) (h3:A3 x0 x1 x2 x3 x4):∃x0,∃x1,∃x2,A0 x0 x1 x2∧A1 x0 x1 x2∧A2 x0 x1 x2∧∃x3,∃x4,A3 x0 x1 x2 x3 x4:=⟨x0,x1,x2,h0,h1,h2,x3,x4,h3⟩
theorem xiEEEAAAEEAA {A3:α0->α1->α2->α3->α4->Prop} {A4:α0->α1->α2->α3->α4->Prop} (x0:α0) (x1:α1) (x2:α2) (h0:A0 x0 x1 x2) (h1:A1 x0 x1 x2) (h2:A2 x0 x1 x2) (x3:α3) (x4:α4) (h3:A3 x0 x1 x2 x3 x4) (h4:A4 x0 x1 x2 x3 x4):∃x0,∃x1,∃x2,A0 x0 x1 x2∧A1 x0 x1 x2∧A2 x0 x1 x2∧∃x3,∃x4,A3 x0 x1 x2 x3 x4∧A4 x0 x1 x2 x3 x4:=⟨x0,x1,x2,h0,h1,h2,x3,x4,h3,h4⟩
theorem xiEEEEAAAAA {A0:α0->α1->α2->α3->Prop} {A1:α0->α1->α2->α3->Prop} {A2:α0->α1->α2->α3->Prop} {A3:α0->α1->α2->α3->Prop} {A4:α0->α1->α2->α3->Prop} (x0:α0) (x1:α1) (x2:α2) (x3:α3) (h0:A0 x0 x1 x2 x3) (h1:A1 x0 x1 x2 x3) (h2:A2 x0 x1 x2 x3) (h3:A3 x0 x1 x2 x3) (h4:A4 x0 x1 x2 x3):∃x0,∃x1,∃x2,∃x3,A0 x0 x1 x2 x3∧A1 x0 x1 x2 x3∧A2 x0 x1 x2 x3∧A3 x0 x1 x2 x3∧A4 x0 x1 x2 x3:=⟨x0,x1,x2,x3,h0,h1,h2,h3,h4⟩
theorem xiEEEEEAEA {α5:Sort u5} {A0:α0->α1->α2->α3->α4->Prop} {A1:α0->α1->α2->α3->α4->α5->Prop} (x0:α0) (x1:α1) (x2:α2) (x3:α3) (x4:α4) (h0:A0 x0 x1 x2 x3 x4) (x5:α5) (h1:A1 x0 x1 x2 x3 x4 x5):∃x0,∃x1,∃x2,∃x3,∃x4,A0 x0 x1 x2 x3 x4∧∃x5,A1 x0 x1 x2 x3 x4 x5:=⟨x0,x1,x2,x3,x4,h0,x5,h1⟩
theorem alll (h:c<x) (e:Fc d c=true):d<x:=Ep (F7 (Eo e)) h
theorem AE (h:x<c) (e:Fc (c+0) (d+1)=true):x≤d:=Nat.le_of_succ_le_succ (Ep h (Eo e))
theorem alle (h:c<x) (e:Fc (d+0) (c+1)=true):d≤x:=Ep (Eo e) h
theorem arel (h:x≤c) (e:Fc (c+1) (d+0)=true):x<d:=Ep (FU h 1) (Eo e)
theorem alel (h:c≤x) (e:Fc (d+1) (c+0)=true):d<x:=Ep (Eo e) h
theorem aree (h:x≤c) (e:Fc c d=true):x≤d:=Ep h (Eo e)
theorem alee (h:c≤x) (e:Fc d c=true):d≤x:=Ep (Eo e) h
theorem aclll {m:Nat} (h:x<m) (i:m<y):x<y:=F4 h i
theorem aclel {m:Nat} (h:x<m) (i:m≤y):x<y:=Ev h i
theorem aclql {m:Nat} (h:x<m) (i:m=y):x<y:=Ev h (Fh i)
theorem aclsl {m:Nat} (h:x<m) (i:y=m):x<y:=Ev h (Fh i.symm)
theorem acell {m:Nat} (h:x≤m) (i:m<y):x<y:=EI h i
theorem AG {m:Nat} (h:x=m) (i:m<y):x<y:=EI (Fh h) i
theorem aceee {m:Nat} (h:x≤m) (i:m≤y):x≤y:=Ep h i
theorem acese {m:Nat} (h:x≤m) (i:y=m):x≤y:=Ep h (Fh i.symm)
theorem acqee {m:Nat} (h:x=m) (i:m≤y):x≤y:=Ep (Fh h) i
theorem acsee {m:Nat} (h:m=x) (i:m≤y):x≤y:=Ep (Fh h.symm) i
theorem adlee {m:Nat} (h:x<m) (i:m≤c) (e:Fc (c+0) (d+1)=true):x≤d:=AE (aclel h i) e
theorem adeee {m:Nat} (h:x≤m) (i:m≤c) (e:Fc c d=true):x≤d:=aree (aceee h i) e
theorem adqle {m:Nat} (h:x=m) (i:m<c) (e:Fc (c+0) (d+1)=true):x≤d:=AE (AG h i) e
theorem adqee {m:Nat} (h:x=m) (i:m≤c) (e:Fc c d=true):x≤d:=aree (acqee h i) e
theorem ak1 (h:c<x) (e:Fc (d+k) c=true):d<x-k:=Gu (EI (Eo e) h)
theorem ak2 (h:x≤c) (e:Fc (c+k) d=true):x+k≤d:=Ep (FU h k) (Eo e)
theorem ak3 (h:x≤y):x+k≤y+k:=FU h k
theorem ak4 (h:x+k≤y):x≤y:=Nat.le_of_add_right_le h
theorem ak5 (h:x<y):x<y+k:=Nat.lt_add_right k h
theorem ak8 (h:x<y):x≤y:=ES h
theorem akA (h:x=y):y≤x:=Fh h.symm
theorem akC (h:x+k<y):x<y:=EI (Fi _ _) h
theorem akD (h:x≤c) (i:y≤d) (e:Fc (c+d) k=true):x+y≤k:=Ep (E8 h i) (Eo e)
theorem akE (h:y≤c) (e:Fc c d=true):min x y≤d:=Ep (Fg _ _) (Ep h (Eo e))
theorem akG {z:Nat}:x+(y+z)=x+y+z:=(Fj ..).symm
theorem akH:x≤x+y:=Fi _ _
theorem akI {z m:Nat} (h:x≤y) (i:m+y<z):m+x<z:=EI (EZ h _) i
theorem akJ (h:x=y):(x:Int)=y:=congrArg _ h
theorem akK (h:¬(y:Int)<x):x≤y:=Gk.mp (Gz.mp h)
theorem md1 (h:a<b):(a+b)/2<b:=Ho (Gs b▸Gv h b)
theorem md0 (h:a≤b):a≤(a+b)/2:=(GQ (FQ 1)).mpr (HO a▸EZ h a)
theorem Dk (a d:Nat):(a+(a+d))/2=a+d/2:=by rw[←Fj,←Gs,Nat.mul_add_div (FQ 1)]
theorem Dl:(a+b)/2-a=(b-a)/2:=(Hh a b).elim
 (fun h=>FD h▸(Dk a (b-a)).symm ▸(by rw[FE,FE]))
 (fun h=>Hl h▸Hl (Nat.div_le_of_le_mul (Gs a▸EZ h a)))
theorem hv (d:Nat):d≤d/2+(d/2+1):=by
 have h:=FG d 2;have:=Nat.lt_succ_iff.mp (Gd d (FQ 1));rw[Gs,Fj]at h;exact Ep (Fh h.symm) (EZ (EZ this _) _)
theorem Dm:b-((a+b)/2+1)≤(b-a)/2:=Ia.mpr<|(Hh a b).elim
 (fun h=>by
   obtain⟨d,rfl⟩:=Ha h;rw[Dk,FE,Fj,IM];exact EZ (hv d) a)
 (fun h=>Ep (Fd b a▸md0 h) (Ep (F5 _) (Gn _ _)))
theorem n6 (h1:b-a<c*2):b-((a+b)/2+1)<c:=EI Dm (Ho (ER c 2▸h1))
theorem n12 (h1:b-a<c*2):(a+b)/2-a<c:=Dl▸Ho (ER c 2▸h1)
theorem n25 (h1:a<b):(a+b)/2-a<b-a:=Dl▸Nat.div_lt_self (GL h1) (Fy 1)
theorem n35 (h1:a<b):b-((a+b)/2+1)<b-a:=EI Dm (Nat.div_lt_self (GL h1) (Fy 1))
theorem n15 (h2:c≤b-((a+b)/2+1)) (h1:a<b):c+1≤b-a:=EI h2 (n35 h1)
theorem n38 (h2:c≤(a+b)/2-a) (h1:a<b):c+1≤b-a:=EI h2 (n25 h1)
theorem n0 {L R m:Nat} (h1:R-L=m) (h2:L<R) (h3:¬L+1=R) (h4:m<k):(L<(L+R)/2∧(L+R)/2<R)∧((L+R)/2-L<m∧R-(L+R)/2<m)∧((L+R)/2-L<k-1∧R-(L+R)/2<k-1)∧(L+R)/2-L+(R-(L+R)/2)=m:=by
 have h5:L+1<R:=Fk h2 h3;have a1:L<(L+R)/2:=(GQ (FQ 1)).mpr (Ep (Fh (show(L+1)*2=L+(L+1+1) by rw[HO,Fj,Fd 1])) (EZ h5 L));have a2:=md1 h2;have a3:=GU (ES a1) a2;have a4:=GZ h2 a1;rw[h1]at a3 a4;have a5:=Fs h4;exact⟨⟨a1,a2⟩,⟨a3,a4⟩,⟨Ev a3 a5,Ev a4 a5⟩,by rw[Fd,H7 (ES a2) (ES a1),h1]⟩
theorem n2 {w:Nat} (h:w=4120∨w=4121∨w=8∨w=12∨w=70):8≤w∧w≤4121:=
 have f {k:Nat} (e:w=k) (h1:Fc 8 k=true) (h2:Fc k 4121=true):8≤w∧w≤4121:=e.symm▸⟨Eo h1,Eo h2⟩
 h.elim (f · rfl rfl) fun h=>h.elim (f · rfl rfl) fun h=>h.elim (f · rfl rfl) fun h=>h.elim (f · rfl rfl) (f · rfl rfl)
theorem n3 {s:Nat} (h2:s≤n-1) (h3:¬s=0):n-1-s+(s-1)=n-2:=by
 rw[H7 h2 (Gg h3)];rfl
theorem n8 {p:Nat} (h1:p*b≤a) (h2:(p-1)*b+b=p*b):(p-1)*b+(a-p*b+b)=a:=by
 rw[IM,h2,FB h1]
theorem n9 (h1:i<n) (h2:j<i):n-1-i<n-1-j∧n-1-j<n:=
 have h:j<n-1:=Ev h2 (Fs h1)
 ⟨GZ h h2,EI (F2 _ _) (FS h1)⟩
theorem n27 (h1:j<i) (h2:i<n):n-1-i<n-1-j:=(n9 h2 h1).1
theorem n29 (h1:a<b) (h4:c<a∧a≤d):a-1<b-1:=GU (EI (ET _) h4.1) h1
theorem n30 (h1:x<n) (h2:a≤min x n) (h3:b≤n-(x+1)):a+(0+b)≤n-1:=by
 refine Ep (E8 (Ep h2 (Gl _ _)) ((E7 b).symm ▸h3)) (Fh ?_);rw[Fd x 1,Nat.sub_add_eq,FD (Fs h1)]
theorem n34 (h1:e=b*c+d) (h2:a<e) (h3:b*c≤a):a-b*c+1≤d:=Nat.sub_lt_left_of_lt_add h3 (h1▸h2)
theorem n41 (h1:d-b≤c+1) (h2:b≤a∧a<d):a-b≤c:=E_ (Ev (GU h2.1 h2.2) h1)
theorem n42 (h1:0<b) (h2:a=2*b):a-1<a:=FS (h2▸Nat.mul_pos (FQ 1) h1:0<a)
theorem n43 {f:Nat} (h3:e<c) (h4:(a*b+d)*c+e=f):f<(a*b+d)*c+c:=h4▸FW h3 _
theorem n45 (h2:a+d=b+c) (h1:b+c≤1000) (h3:1≤d):a<1000:=Ev (G_ h3) (h2▸h1)
theorem n47 (h2:x+1+y=a) (h1:y<n-(x+1)):a<n:=h2▸Ib h1
theorem n48 (h1:a-d≤c+1) (h2:¬d≥a) (h3:d≤b∧b<a):a-(b+1)≤c:=E_ (Ev (GZ (IT h2) (IJ h3.1)) h1)
theorem n50 (h1:0<b) (h2:a+b<700):a+1+(b-1)<700:=by rw[Fj,FD h1];exact h2
theorem n55 (h1:b<a):a-1-b+1=a-b:=by rw[Nat.sub_right_comm,FB (GL h1)]
theorem n56 (h1:¬a<b) (h2:¬a=b):a=b+(a-b-1)+1:=by
 have h:b<a:=Fk (F3.mp h1) (Ne.symm h2);rw[Fj,FB (GL h),FD (ES h)]
theorem n57 (h1:a-b=c+1):a-(b+1)=c:=by rw[Nat.sub_add_eq,h1];rfl
theorem n62 (h2:a≤b-c) (h1:b≤k):a≤k:=Ep h2 (Ep (F2 _ _) h1)
theorem n63 (h1:0<b) (h2:a≤b-1):a<b:=EI h2 (FS h1)
theorem n64 (h1:0<b) (h2:a≤b*c+b):a+b-1<b*c+b+b:=Ev (FS (Ev h1 (Gn b a))) (FU h2 b)
theorem n66 (h1:a≤100) (h2:b≤300):a+1+(a-1)+b≤1000:=Ep (E8 (E8 (F7 h1) (Ep (F2 _ _) h1)) h2) (Eo rfl)
theorem n87 (h1:a≤100):a+1+(a-1)≤1000:=Ep (E8 (F7 h1) (Ep (F2 _ _) h1)) (Eo rfl)
theorem n72 (h1:1≤a):a-1-b<a:=EI (F2 _ _) (FS h1)
theorem n69 (h1:a=c) (h2:c≤k):a-b≤k:=Ep (F2 _ _) (h1▸h2)
theorem n75 (h1:k≤a∧a≤4121):a=k+(a-k):=(FD h1.1).symm
theorem n76 (h1:a=c*d+e) (h2:e<d) (h3:b=d*d) (h4:c*d+1*d≤d*d):a<b:=by
 rw[FM]at h4;exact h1▸h3▸Ev (FW h2 _) h4
theorem n79 (h2:a≤50) (h1:52<b):a<b-1:=EI h2 (Gu (EI (F5 51) h1))
theorem n80 (h1:a≤b):min a b+(b-a+1)=b+1:=by rw[Gm h1,←Fj,FD h1]
theorem n81 {k:Nat} (h1:a=b) (h2:b≤1+(c+1)*d) (h3:(c+1)*d≤9*8):a≤100:=h1▸Ep h2 (Ep (EZ h3 1) (Eo rfl))
theorem n82 (h1:c<b) (h2:a*b+b≤d*b):a*b+c<d*b:=Ev (FW h1 _) h2
theorem n84 (h1:a+c≤b):min a b+(c+(b-(a+c)))=b:=by rw[Gm (Ep (Fi a c) h1),←Fj,FD h1]
theorem n90 (h1:a<b∨a=b∧c<d+1) (h2:¬(a=b∧c=d)):a<b∨a=b∧c<d:=h1.imp id fun h=>⟨h.1,Fk (E_ h.2) fun e=>h2 ⟨h.1,e⟩⟩
theorem n91 (h1:0<a) (h2:b=2*a):a≤b-1:=Fs (h2▸Gs a▸G_ h1)
theorem n92 (h1:a<b) (h3:¬a=d) (h5:¬(d<a∧a≤c)) (h6:d<b∧b≤c):a<b-1:=
 have h:a<d:=Fk (F3.mp fun h=>h5 ⟨h,Ep (ES h1) h6.2⟩) h3
 Ev h (Fs h6.1)
theorem n93 (h2:a<min b c):a≤b-1:=Fs (Ev h2 (Gl _ _))
theorem n94 (h1:a+1<b+1) (h2:¬a+1<c) (h3:¬a+1=c) (h4:¬a=c):a-1+1<b:=by
 have h:c<a:=Fk (E_ (Fk (F3.mp h2) (Ne.symm h3))) (Ne.symm h4);rw[FB (EI (ET _) h)];exact H8 h1
theorem n98 (h2:d*b+c=a) (h3:d*b+a%b=a):a%b=c:=Io (h3.trans h2.symm)
theorem n100 (h1:b*c+d=e) (h2:e+a=b*c+d):a=0:=Io (h2.trans h1:e+a=e+0)
theorem n104 (h1:a+1+b≤k):a<k:=Ep (Fi _ _) h1
theorem n106 {k:Nat} (h2:c=d) (h1:d≤8):min a (min (b+1) c)≤1000:=Ep (Fg _ _) (Ep (Fg _ _) (Ep (h2▸h1) (Eo rfl)))
theorem n108 (h1:¬a%2=0):a+1=2*((a+1)/2):=by
 have h:=FG (a+1) 2;rw[Nat.add_mod,Nat.mod_two_ne_zero.mp h1]at h;exact h.symm
theorem n24 (h2:b=d) (h1:d≤8):min a (b-c)≤8:=Ep (Fg _ _) (n69 h2 h1)
theorem n32:min 8 a-5≤3:=Hn (Gl 8 a) 5
theorem n37 {d:Nat} (h1:0<b) (h2:a≤c):a+b-1≤c+(b-1):=by rw[Nat.add_sub_assoc h1];exact FU h2 _
theorem n31 (h1:d≤1) (h2:a=e+d) (h4:c=256*e) (h5:0<e) (h6:a*b≤a*7):a*b<c-1:=by
 refine EI h6 ?_;rw[h2,h4];refine EI (Fq 7 (EZ h1 e)) (Gu ?_);obtain⟨k,rfl⟩:=Ha h5;rw[Fe 256,Ft,Ft,Fj,F8,ER k];exact Nat.add_lt_add_of_lt_of_le (Eo rfl) (Fq k (Eo rfl))
theorem bl (e:Fc a b=true):a≤b:=Eo e
theorem n110 (h:a≤c) (e:Fc c d=true):a-b≤d:=Ep (F2 _ _) (Ep h (bl e))
theorem n113 (h1:a<c) (h2:c<d) (h3:a<b+1∨a=b+1∧c<b+2):a<b∨a=b∧c<d:=
 h3.elim (fun h=>(FY (E_ h)).imp id fun e=>⟨e,h2⟩) fun h=>absurd (Ev h1 (E_ h.2)) (h.1▸Fa _)
theorem n114 (h:4<a):0<a-1-1:=GL (Gu (EI (Eo rfl:1+1≤4) h))
theorem n115 (h:a+b=c):2*a+6*b=2*(c+2*b):=by rw[←h,Fe,Fe,Fj,←Gp,←Ft]
theorem n119 {p q:Nat} (h1:q<b) (h2:p*b+1*b≤c):p*b+q<c:=Ev (FW h1 _) (by rwa [FM]at h2)
theorem n120 (h3:a≤b) (h2:b<c) (h1:c≤d) (r:Fc d e=true):a≤e:=Ep h3 (Ep (ES h2) (Ep h1 (bl r)))
theorem n121 (h2:c<min a b) (h1:a≤b):a-1<b:=Ev (FS (Ev h2 (Gl _ _))) h1
theorem n123 {w m:Nat} (h2:w*m+1≤b):w*m+w≤b+w-1:=by
 cases w with
 |zero=>rw[Nat.zero_mul];exact ET _
 |succ w=>exact Fs (Gv h2 _)
theorem n187 (h1:c<a) (h2:a<b+1):a-1<b:=Ev (FS h1) (E_ h2)
theorem n202 (h1:a<b+1) (h2:c<d∧d≤b):a-1<b:=(Iz a).elim (fun e=>e▸EI (ET c) (Ev h2.1 h2.2)) fun p=>n187 p h1
theorem n125 {m:Nat} (h2:a+b<m):a+(b-1)<m:=EI (EZ (F2 _ _) _) h2
theorem n126 (h1:d≤1) (h2:a=e+d) (h4:c=256*e) (h5:0<e) (h6:a*b≤a*7):a*b<c:=Ev (n31 h1 h2 h4 h5 h6) (F2 _ _)
theorem n127 (h3:2*a≤e) (h2:e≤2*b):1*a≤b:=(FM a).symm ▸HV (Ep h3 h2) (FQ 1)
theorem n129 (h2:a≤b+(c-b)) (h1:b≤c):a≤c:=FD h1▸h2
theorem n131 (h1:a<c) (h2:(a+c)/2+1≤b∧b≤c):a≤b∧b≤c:=⟨Ep (md0 (ES h1)) (ES h2.1),h2.2⟩
theorem n150 (h1:a<c) (h2:a≤b∧b≤(a+c)/2):a≤b∧b≤c:=⟨h2.1,Ep h2.2 (ES (md1 h1))⟩
theorem n145 {m:Nat} (h2:a≤k*b) (h1:b≤m) (r:Fc (k*m) e=true):a≤e:=Ep h2 (Ep (Fl k h1) (bl r))
theorem n132 {m:Nat} (h2:a≤k*b) (h3:b≤c) (h1:c≤m) (r:Fc (k*m) e=true):a≤e:=n145 h2 (Ep h3 h1) r
theorem n132' {m:Nat} (h2:a≤k*b) (h3:b<c-0) (h1:c≤m) (r:Fc (k*m) e=true):a≤e:=n145 h2 (Ep (ES h3) h1) r
theorem n133 (h2:1<b-a):a+1<b:=Ib h2
theorem n137 (h3:a=min b c) (h2:c≤d) (h1:d≤k):a≤k:=Ep (Fh h3) (Ep (Fg _ _) (Ep h2 h1))
theorem n171 (h3:a=min b c) (h2:c≤k):a≤k:=n137 h3 h2 (EL k)
theorem n138 {m:Nat} (h2:a≤k) (h1:c≤m) (r:Fc (k+m) e=true):a+min b c≤e:=Ep (E8 h2 (Ep (Fg _ _) h1)) (bl r)
theorem n172 (h2:a≤k) (r:Fc (k+c) e=true):a+min b c≤e:=n138 h2 (EL c) r
theorem n17 {b2:Nat} (h4:a≤8*min e d) (h2:d≤c) (h3:b2≤c) (h1:c≤8):a+min b b2≤1000:=
 n138 (n145 h4 (Ep (Fg _ _) (Ep h2 h1)) (rfl:Fc (8*8) 64=true)) (Ep h3 h1) rfl
theorem n139 (h3:a<d) (h1:d=b*c+e) (h2:e<c):a<b*c+1*c:=(FM c).symm ▸F4 h3 (h1▸FW h2 _)
theorem wO (h1:1≤a) (h2:¬1=a):1+1+(a-(1+1))=a:=FD (Fk h1 h2)
theorem n141 (h4:a≤1+1+(b-(1+1))) (h1:1≤b) (h2:¬1=b):a≤b:=wO h1 h2▸h4
theorem n228 (h1:1≤a) (h2:¬1=a):1+1+(a-(1+1))≤a:=Fh (wO h1 h2)
theorem n143 (h1:¬a+1<b) (h2:¬a+1=b) (h3:¬a=b):a-1+1=a:=
 FB (EI (ET b) (Fk (E_ (Fk (F3.mp h1) (Ne.symm h2))) (Ne.symm h3)))
theorem n144 {m:Nat} (h1:0<b) (h2:a+16*b<m) (r:Fc j 16=true):a+j+16*(b-1)<m:=by
 refine EI ?_ h2;rw[Fj,←FB h1,E9,Nat.mul_succ,Fd j];exact EZ (EZ (bl r) _) _
theorem n146 (h:a≤b+1+c):a≤b+(c+1):=F8 b 1 c▸h
theorem n147 (h2:1≥a-d) (h3:c=d) (h4:b≠c) (h5:b≥d):a≤b:=Ep (Ia.mp h2) (Fd d 1▸Fk h5 fun e=>h4 (e▸h3.symm))
theorem n148 (h1:b+1≤1+x) (h2:a≤c):a+b+1≤1+(x+c):=by rw[Fj,←Fj 1,Fd a];exact E8 h1 h2
theorem n149 (h:2*b=a):2*(a/2)=a:=by rw[←h,Ge _ (FQ 1)]
theorem n53 (h:2*b=a):b=a/2:=by rw[←h,Ge _ (FQ 1)]
theorem n153 (h2:b≤c) (h1:c≤k) (r:Fc k e=true):min a b≤e:=Ep (Fg _ _) (Ep h2 (Ep h1 (bl r)))
theorem n183 (h2:b=c) (h1:c≤k) (r:Fc k e=true):min a b≤e:=n153 (Fh h2) h1 r
theorem n156 (h3:a≤b-1) (h1:b≤k+1):a≤k:=Ep h3 (Hn h1 1)
theorem n70 (h3:a≤b-c) (h1:b≤k):a-d≤k:=Ep (F2 _ _) (n62 h3 h1)
theorem n157 (h:a+c≤k) (r:Fc k e=true):a+min b c≤e:=Ep (EZ (Fg _ _) _) (Ep h (bl r))
theorem n158 (h:a≤7000):a+a+1≤1000000:=Ep (F7 (E8 h h)) (Eo rfl)
theorem n159 (h2:a<b) (h3:a≥b-1):a=b-1:=Ga (Fs h2) h3
theorem n160 (h:1≤a):0+a-1<a:=(E7 a).symm ▸FS h
theorem n161 (h2:a≤9*d) (h3:b≤16*d) (h4:d≤c) (h1:c≤8):a+1+(0+1)+a+b≤600:=
 have x:=n132 h2 h4 h1 (rfl:Fc (9*8) 72=true)
 Ep (E8 (E8 (FU (F7 x) _) x) (n132 h3 h4 h1 (rfl:Fc (16*8) 128=true))) (Eo rfl)
theorem n164 (h1:a≤c*(c+1)) (h2:b≤c+1):a+b≤(c+1)*(c+1+1):=Ep (E8 h1 h2) (Ep (Fh (H4 c (c+1)).symm) (Fl _ (F5 _)))
theorem n166 {z p q:Nat} (h:p+q=z+a):a+(y+z)=p+y+q:=by rw[F8,h,Fd a,Fd y,F8]
theorem n167 (h4:a<b) (h1:b<d) (h3:c=2*d):a<c:=h3▸Ev (F4 h4 h1) (Nat.le_mul_of_pos_left d (FQ 1))
theorem n168 (h4:a≤20*min d b) (h1:b=c) (h2:c≤20):a≤400:=n145 h4 (Ep (Fg _ _) (h1▸h2)) rfl
theorem Ck (h:8≤b):b-8+2=b-6:=by
 obtain⟨d,rfl⟩:=Ha h;rw[FE,Fd 8 d];rfl
theorem n51 {p q:Prop} (h2:p∧a≤b-8+2) (h1:8≤b∧q):a≤b-6:=Ck h1.1▸h2.2
theorem n173 {p q:Prop} (h2:p∧a≤b-8+2) (h1:q∧b≤4121) (r:Fc 4123 e=true):a≤e:=Ep h2.2 (Ep (FU (Ep (F2 _ _) h1.2) 2) (bl r))
theorem n54 {p q:Prop} (h2:p∧a≤b-8+2) (h1:q∧b≤4121) (h3:c≤40000):a+c≤1000000:=Ep (E8 (n173 h2 h1 (rfl:Fc 4123 4123=true)) h3) (Eo rfl)
theorem n77 {p q:Prop} (h2:p∧a≤b-8+2) (h1:q∧b≤4121) (h3:c=1):a+c≤1000000:=n54 h2 h1 (h3▸Eo rfl)
theorem n175 (h1:c=a) (h2:c-b=0):a≤b:=h1▸Hm h2
theorem n176 (h1:a≤b) (h2:¬a≥b):a≤(a+b)/2∧(a+b)/2<b:=⟨md0 h1,md1 (IT h2)⟩
theorem n177 (h2:b<a):a-1+(1+0)=a+1-1:=FB (EI (ET b) h2)
theorem n178 (h1:a+c≤k) (h2:c=b+d) (r:Fc k e=true):a+b≤e:=Ep (EZ (h2▸Fi b d) a) (Ep h1 (bl r))
theorem n180 {m:Nat} (h2:a+16*c<m) (h1:b≤c):a+16*b<m:=EI (EZ (Fl 16 h1) a) h2
theorem n181 {p:Prop} (h2:a+16*c<5000∧p) (h1:b≤4000):a+b<9900:=EI (E8 (Ep (Fi _ _) (ES h2.1)) h1) (Eo rfl)
theorem n182 (h:a<y):a*(1+1)<4*y:=Ev (HT h (FQ 1)) (ER y (1+1)▸Fq y (Eo rfl))
theorem n186 (h1:x≤8*8) (h2:a≤x) (h3:b≤c) (h4:c≤8):a+b≤1000:=Ep (E8 (Ep h2 h1) (Ep h3 h4)) (Eo rfl)
theorem n189 (h1:b≤a) (h2:a<c) (h3:1≥c-b):a=b:=Ga (E_ (Ev h2 (H6.mp h3))) h1
theorem n190 (h2:a<b) (h1:b≤c):(a+b)/2<c:=Ev (md1 h2) h1
theorem n200 (h2:a<min b c):a<b:=Ev h2 (Gl _ _)
theorem n201 (h1:a<b) (h2:c+b≤d):a+c<d:=Ev (Fd c a▸FW h1 c) h2
theorem n205:min 5 a+5≤1000:=Ep (FU (Gl 5 a) 5) (Eo rfl)
theorem n206 {e:Nat} {p:Prop} (h3:a<c) (h2:c<d) (h1:d≤b):a<b∨p:= .inl (F4 h3 (Ev h2 h1))
theorem n237 {p:Prop} (h3:a<c) (h1:c≤b):a<b∨p:= .inl (Ev h3 h1)
theorem n208 (h3:a<b) (h1:b≤k) (r:Fc k e=true):a+1≤e:=Ep h3 (Ep h1 (bl r))
theorem n209 (h1:b≤c) (h2:a≤d):a+b≤c+d*1:=(F0 d).symm ▸Fd a b▸E8 h1 h2
theorem n215 (h1:b≤c) (h2:a≤d):a+b≤c+d:=Fd a b▸E8 h1 h2
theorem n213 (h1:a+16*c<5000) (h2:5002≤b):a+2<b:=Ev (Gv (EI (Fi _ _) h1) 2) h2
theorem n217 (h2:a=c) (h3:c≤b) (h1:b≤k) (r:Fc k e=true):a≤e:=h2▸Ep h3 (Ep h1 (bl r))
theorem n219 (h2:a=c) (h3:c≤b) (h4:b=d) (h1:d≤k) (r:Fc k e=true):a≤e:=n217 h2 (h4▸h3) h1 r
theorem n222 (h:a+b<k) (r:Fc k e=true):a<e:=Ev (EI (Fi _ _) h) (bl r)
theorem n229 (h1:b≤k*c) (h2:a≤k):a+b≤k*(c+1):=n215 h1 h2
theorem n236 (h2:a≤b) (h1:b≤k) (r:Fc (1+k) e=true):1+a≤e:=Ep (EZ (Ep h2 h1) 1) (bl r)
theorem n243 (h:a+(b+1)<c):a+1+b<c:=(F8 a 1 b).symm ▸h
theorem n13 (h:a+(b+1)=c):a+1+b=c:=(F8 a 1 b).trans h
theorem n16 {f:Nat} (h6:a<e) (h1:e=b*c+f) (h2:f<c) (h3:b<c) (h5:d=2*c):a-b*c+b<d:=by
 rw[h5,Gs];exact Nat.add_lt_add (EI (H6.mpr (ES (h1▸h6))) h2) h3
theorem n10 {q:Nat} (h2:a+b-1<q+b):a≤q:=Nat.le_of_add_le_add_right (Nat.le_of_pred_lt h2)
theorem n18 (h2:a≤b-c) (h1:b≤k) (r:Fc k e=true):0+a≤e:=(E7 a).symm ▸Ep (n62 h2 h1) (bl r)
theorem n23 (h3:a≤b-c) (h2:b≤d) (h1:d≤k) (r:Fc k e=true):0+a≤e:=n18 h3 (Ep h2 h1) r
theorem n46 (h:a*b≤a*8):a-6+a*b≤a*9:=Fd (a-6) (a*b)▸E8 h (F2 _ _)
theorem n49 {p q r s t u v:Nat} (h1:r<q) (h2:s=p+t) (h3:u+t=v) (h4:x+1*q≤v):x+p+r<s+u:=by
 rw[h2,Fj p,Fd t,h3,F8,Fd p];rw[FM]at h4;exact Gv (Ev (FW h1 x) h4) p
theorem n52 {f g:Nat} (h1:c<b) (h2:d=e+f) (h3:a+1*b≤e):a+c<d+g:=by
 rw[FM]at h3;exact Ev (Ev (FW h1 a) h3) (h2▸Ep (Fi _ _) (Fi _ _))
theorem n88 (h3:a≤k*d) (h2:d<c-0) (h5:b≤1*e) (h4:e<c-0) (h1:c≤8) (r:Fc (k*8+8) 1000=true):a+b≤1000:=
 Ep (E8 (Ep h3 (Fl k (Ep (ES h2) h1))) (n132' h5 h4 h1 (rfl:Fc (1*8) 8=true))) (bl r)
theorem n5 {f g:Nat} (h4:a≤16*min f d) (h2:d≤8) (h5:b≤2*min g e) (h3:e≤c) (h1:c≤8):a+b≤300:=
 Ep (E8 (n145 h4 (Ep (Fg _ _) h2) (rfl:Fc (16*8) 128=true)) (n145 h5 (Ep (Fg _ _) (Ep h3 h1)) (rfl:Fc (2*8) 16=true))) (Eo rfl)
theorem n112 (h4:a≤c-0) (h3:c=b) (h2:b<d) (h1:d≤k) (r:Fc (1+k) e=true):0+1+a≤e:=Ep (EZ (Ep h4 (h3▸Ep (ES h2) h1)) 1) (bl r)
theorem n250 (h4:a≤b-0) (h2:b<d) (h1:d≤k) (r:Fc (1+k) e=true):0+1+a≤e:=n112 h4 rfl h2 h1 r
theorem n259 {m:Nat} (h1:a≤k) (h2:b≤m) (r:Fc (k+(1+m)) e=true):a+(1+b)≤e:=Ep (E8 h1 (EZ h2 1)) (bl r)
theorem n257 (h:a+c+d≤b):min a b=a:=Gm (Ep (Fi _ _) (Ep (Fi _ _) h))
theorem n254 (h1:0<b+a) (h2:¬0<b):0<a:=by rwa [Nat.eq_zero_of_not_pos h2,E7]at h1
theorem lx {a b c d:Int} (h:a<c) (hb:b<64) (hd:0≤d):a*64+b<c*64+d:=
 IE (Iu hb _) (HF ((Int.add_mul a 1 64)▸Int.mul_le_mul_of_nonneg_right (Int.add_one_le_of_lt h) (by decide):a*64+64≤c*64) (Int.le_add_of_nonneg_right hd))
theorem Dn {a b c d:Int} (h:a*64+b<c*64+d) (hd:d<64) (hb:0≤b):a<c∨a=c∧b<d:=
 (Int.lt_trichotomy a c).elim .inl fun t=> .inr (t.elim (fun e=>⟨e,by subst e;exact Int.lt_of_add_lt_add_left h⟩) fun g=>absurd h (Gz.mpr (Int.le_of_lt (lx g hd hb))))
theorem n301 {a b c d:Int} (h1:0≤b∧b<64) (h2:0≤d∧d<64):a*64+b<c*64+d↔a<c∨a=c∧b<d:=
 ⟨fun h=>Dn h h2.2 h1.1,fun h=>h.elim (fun g=>lx g h1.2 h2.1) fun e=>e.1▸Iu e.2 _⟩
theorem n302 {A r B Q m E F:Nat} (h2:x=A+r) (h3:d*E+F=B+r) (h4:A=d*Q*m+B):Q*m*d+d*E+F=x:=by
 rw[h2,h4,Fj,h3,ER (Q*m) d,←Gp,Fj]
theorem n303 (h:b≤a):(a:Int)-(b:Int)+(c:Int)=((a-b+c:Nat):Int):=(congrArg (·+(c:Int)) (FZ h)).symm
theorem n304 (h:0<a):(-1+(a:Int)).toNat =a-1:=by
 rw[HG];exact congrArg Int.toNat (FZ h).symm
theorem n305 (h:1≤b):(a:Int)+(b:Int)-1=((a+b-1:Nat):Int):=(FZ (Ep h (Gn b a))).symm
theorem n306 {a:Int} (h2:e<b) (h3:a<0):(-(a+(b:Int))).toNat <(-a).toNat :=
 (Int.toNat_lt_toNat (Int.neg_pos_of_neg h3)).mpr (Int.neg_lt_neg (Int.lt_add_of_pos_right a (FP.mpr (IH h2))))
theorem n307 {f:Nat} (h1:a=b+c) (h2:d=b+e):(a:Int)+(((e+f:Nat):Int)-(c:Int))=((d+f:Nat):Int):=by
 subst h1 h2;show(b:Int)+c+((e:Int)+f-c)=b+e+f;rw[H0,HG (c:Int),ID,H0]
theorem n308 (h:a<b):a+1+(b-(a+1))=b:=FD h
theorem n309 (h:b<a):(a:Int)-1-(b:Int)=((a-1-b:Nat):Int):=by
 rw[FZ (Fs h),FZ (IR h)];rfl
theorem n310 (h:a<c+b):(a:Int)-(b:Int)<(c:Int):=Int.sub_right_lt_of_lt_add (FP.mpr h)
theorem n311 (h:8≤a∧a≤4121):(a:Int)-8=((a-8:Nat):Int):=(FZ h.1).symm
theorem n312 (h:8≤a∧a≤4121):2*((a-8:Nat):Int)≤2^27:=
 HF (HQ (Gk.mpr (Ep (F2 a 8) h.2)) (by decide)) (by decide)
theorem n313 (h:b<a):(a:Int)-1+ -1*(b:Int)=((a-1-b:Nat):Int):=by
 rw[Int.neg_mul,HP,←Int.sub_eq_add_neg];exact n309 h
theorem n314 (h:0<c↔1<a-b) (h2:0<c):1<(a:Int)-(b:Int):=Int.lt_sub_right_of_add_lt (FP.mpr (Nat.add_lt_of_lt_sub (h.mp h2)))
theorem n315 (h:¬1<a-b):¬1<(a:Int)-(b:Int):=fun g=>h (Gu (FP.mp (Int.add_lt_of_lt_sub_right g)))
theorem n316 (h:2≤a):(a:Int)-2=((a-2:Nat):Int):=(FZ h).symm
theorem n317 (h:0<a):(a:Int)-1=((a-1:Nat):Int):=(FZ h).symm
theorem n318 (h:2≤a):(a:Int)-1=((a-1:Nat):Int):=n317 (Ev (by decide) h)
theorem n319 (h3:d<e) (h2:(a:Int)*64+(b:Int)<(c:Int)*64+(d:Int)) (h1:e≤8):a<c∨a=c∧b<d:=
 (Dn h2 (FP.mpr (Ev h3 (Ep h1 (by decide)))) (Er _)).imp FP.mp fun e=>⟨Int.ofNat.inj e.1,FP.mp e.2⟩
theorem n320 {f:Nat} (h3:a<f) (h4:b<f) (h2:f=e) (h5:(c:Int)*64+(a:Int)=(d:Int)*64+(b:Int)) (h1:e≤8):a=b:=by
 have h:c*64+a=d*64+b:=Int.ofNat.inj h5;have k:=congrArg (·%64) h;have w:∀{x:Nat},x<f->x<64:=fun l=>Ev l (h2▸Ep h1 (by decide));simp only[Nat.mul_add_mod_self_right,GC (w h3),GC (w h4)]at k;exact k
theorem n321 {a:Int} (h1:0≤a) (h2:a.toNat<b):a<(b:Int):=(Int.toNat_lt h1).mp h2
theorem n322 (h:¬(b:Int)<(a:Int)):0=((a-b:Nat):Int):=(congrArg H3 (Hl (Gk.mp (Gz.mp h)))).symm
theorem n323 (h:(b:Int)<(a:Int)):(a:Int)-(b:Int)=((a-b:Nat):Int):=(FZ (ES (FP.mp h))).symm
theorem n324 (h:b+c=a):(a:Int)+(b:Int)-2*(b:Int)=(c:Int):=by
 subst h;show(b:Int)+c+b-2*b=c;rw[Int.two_mul,Int.add_sub_add_right,HG,IF]
theorem sm (h:a<9223372036854775808):(a:Int)<2^63:=FP.mpr h
theorem n325 (h2:a<b) (h1:b≤20):(a:Int)<2^63:=sm (Ev h2 (Ep h1 (by decide)))
theorem n326 (h2:a<b) (h1:b≤8):(a:Int)<2^63:=n325 h2 (Ep h1 (by decide))
theorem n327 (h3:a+1=c) (h2:c≤b) (h1:b≤50):(a:Int)<2^63:=sm (Ev (Fy a) (Ep (Fh h3) (Ep h2 (Ep h1 (by decide)))))
theorem n328 (h3:a+1=b) (h1:b≤c) (h2:c≤1000):(a:Int)<2^63:=sm (Ev (Fy a) (Ep (Fh h3) (Ep h1 (Ep h2 (by decide)))))
theorem n329 (h1:a<b) (h2:b≤100):(a:Int)<2^63:=sm (Ev h1 (Ep h2 (by decide)))
theorem n330 (h2:b=a) (h1:b≤c) (h3:c<2^63):(a:Int)<2^63:=sm (h2▸EI h1 h3)
theorem n331 (h1:a≤b) (h3:b<2^63):(a:Int)<2^63:=sm (EI h1 h3)
theorem n332 (h2:c=d) (h1:d≤8):min a (min b c)≤8:=Ep (Fg _ _) (Ep (Fg _ _) (h2▸h1))
theorem n333 (h1:a<b∨a=b∧c<d) (h2:b<a∨b=a∧d<c):False:=
 h1.elim (fun h=>h2.elim (fun g=>Nat.lt_asymm h g) fun g=>Fa _ (g.1▸h)) fun h=>h2.elim (fun g=>Fa _ (h.1▸g)) fun g=>Nat.lt_asymm h.2 g.2
theorem n334 {a b c d:Int} (h:¬a=b):a<b∨a=b∧c<d↔a<b:=⟨fun g=>g.elim id fun e=>absurd e.1 h,.inl⟩
theorem n335 {a b c d:Int} (h1:a=b) (h2:¬c=d):a<b∨a=b∧c<d↔c<d:=⟨fun g=>g.elim (fun l=>absurd h1 (H_ l)) And.right,fun l=> .inr ⟨h1,l⟩⟩
theorem n336 {a b c d:Int} (h1:a=b) (h2:c=d):¬(a<b∨a=b∧c<d):=fun g=>g.elim (fun l=>absurd h1 (H_ l)) fun l=>absurd h2 (H_ l.2)
theorem n337 (h3:¬a=c) (h4:¬(c<a∧a≤b)) (h1:c≤b) (h2:a<b+1):a<b:=Ev (Fk (HJ fun l=>h4 ⟨l,E_ h2⟩) h3) h1
theorem n338 (h4:a<d∧d≤c) (h1:d<b) (h2:b<c+1):a<b∧b≤c:=⟨F4 h4.1 h1,E_ h2⟩
theorem n339 (h4:d=a) (h1:d<b) (h2:b<c+1):a<b∧b≤c:=⟨h4▸h1,E_ h2⟩
theorem n340 (h:(a:Int)-1-(b:Int)=((a-1-b:Nat):Int)):((a-1-b:Nat):Int)-1=(a:Int)-1-((b+1:Nat):Int):=h▸Int.sub_sub _ _ _
theorem n341:a+b+1-a=b+1:=by rw[Fj,FE]
theorem n342:((a*(1+1)/2^1:Nat):Int)=(a:Int):=congrArg H3 (Nat.mul_div_cancel a (n:=2) (by decide))
theorem n343:((2*a/2^1:Nat):Int)=(a:Int):=congrArg H3 (Ge a (n:=2) (by decide))
theorem n344 (h1:1≤a) (h2:a≤b):a-1<b:=Ev (Nat.sub_one_lt (G2 h1)) h2
theorem n345 (h1:a≤b) (h2:c<a):a-1<b:=n344 (IR h2) h1
theorem n346 (h:1≤a∧a≤b):a-1<b:=n344 h.1 h.2
theorem n347 (h1:1≤a) (h2:a+c≤b):a-1<b:=n344 h1 (Ep (Fi _ _) h2)
theorem n348 (h:0<a):0+a-1<a:=by rw[E7];exact n344 h (EL _)
theorem n349 (h:0<a):a=a-1+1:=(FB h).symm
theorem n350 (h:1≤a∧a≤b):a=a-1+1:=n349 h.1
theorem n351 (e:a=b) (h:2≤b):a-1<a:=n344 (e▸Ep (by decide) h) (EL _)
theorem n352 (h:2*a=b+2*c):(a:Int)-(b:Int)/2=(c:Int):=by
 have e:(b:Int)=2*((a:Int)-c):=by
  rw[Int.mul_sub];exact(Int.sub_eq_iff_eq_add.mpr (congrArg H3 h)).symm
 rw[e,HZ _ (by decide),Int.sub_sub_self]
theorem n353 (h1:a<b) (h3:¬a=b-1):a<b-1:=Fk (Fs h1) h3
theorem n354 {p q c d:Int} (h:p+c=d):p-1*q+(c+q)=d:=by
 rw[HP,HG c q,←H0,ID];exact h
theorem n355 {a b:Int} (h:(b=0∨b=1)∧a=1-b):a=0∨a=1:=h.1.elim (fun e=> .inr (by rw[h.2,e];rfl)) fun e=> .inl (by rw[h.2,e];rfl)
theorem n356 {a:Int} (h1:0≤a) (h2:a<2^63):¬a< -2^63∧¬2^63≤a:=⟨fun h=>absurd h1 (Int.not_le.mpr (Hj h (by decide))),Int.not_le.mpr h2⟩
theorem n357 {a:Int} (h:0≤a): -2^63≤a:=HF (by decide) h
theorem n358 {a b:Int} (h2:b<a) (h1:0≤b):0<a:=Int.lt_of_le_of_lt h1 h2
theorem n359 (h:a<min b c):a<c:=Ev h (Fg _ _)
theorem n360 (h1:a-b=c) (h2:b+1=a):a-b=1:=by rw[←h2,FE]
theorem n361 (h2:c=a) (h3:d=b) (h1:c+d≤k):a+b≤k+1:=h2▸h3▸HB h1
theorem n362 (h2:c=a) (h1:c<b):a≤b-1:=h2▸Fs h1
theorem n363 {a:Int} (h3:a=(j:Int)) (h2:j<k) (h1:k≤8):0≤a∧a<64:=by
 subst h3;exact⟨Er _,FP.mpr (Ev h2 (Ep h1 (by decide)))⟩
theorem n364 (h1:a≤100000) (h2:b<1000) (h3:200000≤c):a+b≤c:=Ep (E8 h1 (ES h2)) (Ep (by decide) h3)
theorem n365 {a:Int} (h:a=(b:Int)):(a.toNat:Int)=a:=by subst h;rfl
theorem n366 (h:a≤b):a+(b-a)≤b:=Fh (FD h)
theorem n367 (h4:d=2*a) (h3:d=b+c) (h1:b≤7000) (h2:c≤1):a+a≤1000000:=by
 rw[←Gs,←h4,h3];exact Ep (E8 h1 h2) (by decide)
theorem n368 (h4:d=2*a) (h3:d=b+c) (h1:b≤7000) (h2:c≤1):a≤1000000:=Ep (Gn a a) (n367 h4 h3 h1 h2)
theorem n369 (h2:c=a+1) (h1:c<b):a<b:=F4 (Fy a) (h2▸h1:a+1<b)
theorem n370 (h1:b-a≤0) (h2:a≤b):a=b:=Ga h2 (Hm (Nat.le_zero.mp h1))
theorem n371 (h:¬a≤b+4000):¬(a:Int)-(b:Int)≤4000:=fun g=>h (Gk.mp (Int.le_add_of_sub_left_le g))
theorem n372 (h:a≤b+4000):(a:Int)-(b:Int)≤4000:=Int.sub_left_le_of_le_add (Gk.mpr h)
theorem n373 (h3:a≤20*b) (h1:b=c) (h2:c≤20):a≤400:=Ep h3 (Fl 20 (h1▸h2))
theorem n374 (h1:a+b≤1000000) (h2:1000000<(c:Int)):¬(c:Int)<(a:Int)+(b:Int):=fun g=>absurd (Hj h2 g) (Gz.mpr (Gk.mpr h1))
theorem n375:(a:Int)+(c:Int)-((0:Nat):Int)=((a+c:Nat):Int):=Int.sub_zero _
theorem n376 {a b:Int} (h:¬b<a):a<b+1:=Int.lt_add_one_of_le (Gz.mp h)
theorem n377 {m:Nat} (h:m≤2*b):2*m≤2*(b*(1+1)):=Fl 2 (ER 2 b▸h)
theorem n378 {m:Nat} (h1:a=m+b) (h2:0<m):0<a:=h1▸IU h2 _
theorem n379 (h2:a<c) (h1:c+1≤b):a<b:=Ev h2 (IK h1)
theorem n380 (h3:a≤d) (h2:d≤c) (h1:c=b):a≤b:=h1▸Ep h3 h2
theorem n381 (h1:¬a=b) (h2:a<b+1):a<b:=Fk (E_ h2) h1
theorem n382 {P:Prop} (h2:a<c) (h1:1≤c∧c≤b∧P):a≤b:=Ep (ES h2) h1.2.1
theorem n383 (h:a<b):(a:Int)<(b:Int):=FP.mpr h
theorem n384 (h:a+b=c):a≤c:=h▸Fi _ _
theorem n385 (h2:b=a) (h1:b<64):a<64:=h2▸h1
theorem n386 (h3:c=2*a) (h2:c=b+d) (h1:1≤b):1≤a:=Gg fun e=>by
 subst e;exact absurd (h2.symm.trans h3) (G2 (IU h1 _))
theorem n401 (h:0<a):(a-1).succ =a:=FB h
theorem n402 (h4:a≠c) (h3:c=b) (h5:a<d) (h2:1≥d-b):a<b:=Fk (E_ (Ev h5 (Ep (Nat.le_add_of_sub_le h2) (Fh (Fd 1 b))))) (h3▸h4)
theorem n403 (h1:1≤a) (h2:¬1=a):¬1=1+(a-1):=fun e=>h2 (by rw[Fd,FB h1]at e;exact e)
theorem n404 {m:Nat} (h3:a=c*(d+1)) (h1:m≤2*c) (h2:0<m):0<a:=h3▸Nat.mul_pos (Gg fun e=>by subst e;exact Fa 0 (Ev h2 h1)) (Nat.succ_pos _)
theorem n405 {a:Int} (h2:c=b) (h1:a<(c:Int)):a<(b:Int):=h2▸h1
theorem n406 (h:a<b) (h2:b≤20):2*(a:Int)≤2^27:=HF (HQ (Gk.mpr (Ep (ES h) h2)) (by decide)) (by decide)
theorem n407 (h4:d=2*a) (h3:d=b+c) (h1:b≤7000) (h2:c≤1):a≤4000:=HV (h4▸h3▸Ep (E8 h1 h2) (by decide):2*a≤2*4000) (by decide)
theorem n408 {m:Nat} (h:a<m):a*(1+1)<2*m:=ER 2 m▸HT h (by decide)
theorem n409 (h2:c=a) (h3:d=b) (h1:c+d≤k):a+b≤k:=h2▸h3▸h1
theorem n410 (h2:a<b) (h1:b≤c):a≤c:=Ep (ES h2) h1
theorem n411 {m:Nat} (h:c*d+c*b<m):c*b<m:=EI (Gn _ _) h
theorem n412 (h2:b=d) (h1:a+(c+1)=d):a<b:=h2▸h1▸G_ (Nat.succ_pos _)
theorem n413 (h:b<a):0<a:=IH h
theorem n414 (h:a<b) (h2:b≤20):a+1<2^62:=EI (Ep h h2) (by decide)
theorem n415 (h3:e≤a∧a<d) (h2:d≤c) (h1:c<b):a<b:=F4 (Ev h3.2 h2) h1
theorem n416 (h:a%2=0):a=2*(a/2):=(Nat.mul_div_cancel' (Nat.dvd_of_mod_eq_zero h)).symm
theorem n417 (h:b<a):0<(a:Int)-(b:Int):=Int.sub_pos_of_lt (FP.mpr h)
theorem n418 (h1:¬a+1<b) (h2:¬a+1=b):¬a<b:=fun l=>(FY (Nat.succ_le_of_lt l)).elim h1 h2
theorem n419 (h3:a+1=c) (h2:c≤b):(a:Int)<(b:Int):=FP.mpr (Ev (Fy a) (Ep (Fh h3) h2))
theorem n420 (h:0<b):0<a+b:=Nat.add_pos_right _ h
theorem n421 (h1:a<100) (h2:200≤b):a+1≤b+1:=F7 (Ep (ES h1) (Ep (by decide) h2))
theorem n422 {P:Nat} (h:2*a+6*b=P):(a:Int)=(P:Int)/2-3*(b:Int):=by
 have e:(P:Int)=2*((a:Int)+3*(b:Int)):=by
  rw[←h,Int.mul_add,←Int.mul_assoc];rfl
 rw[e,HZ _ (by decide),IF]
theorem n423 (h:(a:Int)<(b:Int)):a≤b:=ES (FP.mp h)
theorem n424 (h:¬(a:Int)<(b:Int)):b≤a:=Gk.mp (Gz.mp h)
theorem n425 (h:1≤a):(a-1).succ =a:=FB h
theorem n426 (h:a+1≤b):a<b:=h
theorem n427 (h1:c=b) (h2:a<0+c):a<b:=by rw[E7]at h2;exact h1▸h2
theorem n430 (h3:a<d+1) (h2:d<c) (h1:b=c):a<b:=h1▸EI (E_ h3) h2
theorem n431 (h2:c=a) (h1:c+d≤b):a≤b:=h2▸Ep (Fi _ _) h1
theorem n428 (h:a<b):(a+b)/2≤b:=IK (md1 h)
theorem n429 {P:Prop} (h:(b:Int)=(a:Int)∧P):a=b:=(Int.ofNat.inj h.1).symm
theorem n432 {P:Prop} (h:P∧(b:Int)=(a:Int)):a=b:=(Int.ofNat.inj h.2).symm
theorem md1' (h:a<b):(a+b)/2+1≤b:=md1 h
theorem md0' (h:a<b):a≤(a+b)/2:=md0 (ES h)
end
local macro_rules (kind:=PyProof.Rows.tacticWalk_at_)|s=>tY s
local macro_rules (kind:=Lean.Parser.Tactic.omega)|s=>tY s
local macro_rules (kind:=Lean.Parser.Tactic.obtain)|s=>tY s
local macro_rules (kind:=Lean.Parser.Tactic.rcases)|s=>tY s
local macro_rules (kind:=Lean.Parser.Tactic.rintro)|s=>tY s
local macro_rules (kind:=Lean.Parser.Tactic.exact)|s=>tY s
local macro_rules (kind:=Lean.Parser.Tactic.refine)|s=>tY s
local macro_rules (kind:=Lean.Parser.Tactic.show)|s=>tY s
local macro_rules (kind:=Lean.Parser.Tactic.rwSeq)|s=>tY s
section
theorem nq {p q:Program} {loose:List Str} {Xt:Shared->Bool} {Yf:Shared->α} {Ya:World->α} {N:Nat} {g0:Bool} (e:opening p=plainProg p.main.scope.names) (hN:Fc 600 N=true) (f:∀s,fenceModules? p s=some s) (h:∀w:World,(fun os=>(topFrom treeTable p w N ⟨boot_heap w.params,Array.mk [],boot_drawn,boot_toks,os⟩).map (fun s=>(openSeen q loose (importedModules p.main.body) Xt g0 s,Yf s)))=fun _=>some (openGood q loose,Ya w)):
 LeftO p q loose Xt Yf Ya N g0:=fun w=>by
 obtain⟨s,hs,hv⟩:=Ew.mp (boot_open e hN f w);obtain⟨hp,gs,d,k,os⟩:=s;obtain⟨rfl,rfl,rfl,rfl⟩:hp=_∧gs=_∧d=_∧k=_:=by simpa using hv
 unfold openEnds;rw[hs];exact congrFun (h w) os
noncomputable def iK:Program:=view PySem.Challenge.rw_ta0042_01.row.prog [22]
noncomputable def nr:List Str:=["insort_right","bisect_right","insort_left","bisect_left","_DIV_LIMIT","_div2n1n","_div3n2n","_int2digits","_digits2int","_divmod_pos","int_divmod","SubElement","_serialize_text","_law_element","_law_arcs","_law_rows","_law_tree","_law_refused"]
theorem Dy:opening PySem.Challenge.rw_ta0042_01.row.prog=plainProg PySem.Challenge.rw_ta0042_01.row.prog.main.scope.names:=by kernel_rfl
theorem Dz (s:Shared):fenceModules? PySem.Challenge.rw_ta0042_01.row.prog s=some s:=by kernel_rfl
local macro_rules |`(tactic|o_law)=>`(tactic|refine holds_law (by kernel_rfl) fun said=> ?_)
theorem DA {d:DefRec} {kwd:List (Str×Expr)} (H:Hook) (left:LeftO PySem.Challenge.rw_ta0042_01.row.prog iK nr (fun s=>xlAt iK [] s&&recOk (RowW.records PySem.Challenge.rw_ta0042_01.row.toRowW) s) (Hook.obs H) (Hook.val H) 1446) (k1:PySem.Challenge.rw_ta0042_01.row.wellSaid=true) (h1:defOf iK PySem.Challenge.rw_ta0042_01.row.name=some (d,kwd)) (h2:PySem.Challenge.rw_ta0042_01.row.prog.theDef PySem.Challenge.rw_ta0042_01.row.name=some (d.params,d.body,d.scope)) (h3:kwWritten? d.params.kwonlyargs d.params.kw_defaults=some kwd) (hw:PySem.Challenge.rw_ta0042_01.row.toRowW.promised) (hc:WalkO iK nr (XL iK []) H.says PySem.Challenge.rw_ta0042_01.row.toRowW d kwd fun f vs=>PySem.call f vs):PySem.Challenge.rw_ta0042_01.row.Holds:=
 PySem.W.holds_open (q:=iK) (loose:=nr) (Xt:=fun s=>xlAt iK [] s&&recOk (RowW.records PySem.Challenge.rw_ta0042_01.row.toRowW) s) (XP:=XL iK []) (Yf:=Hook.obs H) (Ya:=Hook.val H) (YP:=Hook.says H) (N:=1446) left (Hook.of H) (Hook.keeps H) (fun s e=>xl_of s (GW.mp e).1) XL.keeps h1 h2 h3 (fun s e=>recFacts_of (GW.mp e).2) (by rfl) k1 (by decide+kernel) ⟨rfl,rfl,rfl,rfl,rfl,by decide+kernel⟩ hw hc
local macro_rules |`(tactic|o_head $H)=>`(tactic|refine DA $H (nq Dy (by rfl) Dz (fun w=>by kernel_rfl)) (by assumption) (by rfl) (by rfl) (by rfl) ?hw ?hc)
open_top hd for PySem.Challenge.rw_ta0042_01
end
section
variable {bs:List β}
section
noncomputable abbrev PR:Program:=PySem.Challenge.rw_ta0042_01.row.prog
inductive AV where
 |int (k:Int)
 |str (s:Str)
 |val (v:Value)
noncomputable abbrev AV.ref (a:Addr):AV:= .val (.ref a)
noncomputable abbrev AV.bool (b:Bool):AV:= .val (.bool b)
noncomputable abbrev AV.none:AV:= .val .none
inductive VR:AV->Value->Prop
 |int (k:Int) (t:Tok):VR (.int k) (.int k t)
 |str (s:Str) (t:Tok):VR (.str s) (.str s t)
 |val (v:Value):VR (.val v) v
theorem VR.ref (a:Addr):VR (.ref a) (.ref a):= .val _
inductive All2 {α β:Type} (r:α->β->Prop):List α->List β->Prop
 |nil:All2 r [] []
 |cons {a b as bs:_}:r a b->All2 r as bs->All2 r (a::as) (b::bs)
noncomputable abbrev VRs:=All2 VR
noncomputable abbrev OP:=Obj->Prop
noncomputable abbrev Led:=List (Addr×OP)
structure Cx where
 w:World
 h0:Heap
 os:OsState
 k:Nat
 tabs:List (Addr×Addr×Str)
 mg:Str->Option Value
 mb:Str->Option Value
 mean:ExcName->Option Value
 fl:Bool
 pa:Option (List Env)->Prop
noncomputable abbrev keys (aa:Led):List Addr:=aa.map (·.1)
noncomputable def NF (P:OP):Prop:=∀o,P o->∀fd,o.data≠ .func fd
noncomputable def tU (pos:Pos):Bool:=pos.line==247&&pos.col==0
noncomputable def lw (fl:Bool) (aa:Led) (h:Heap) (P:Addr) (q:Str):Prop:=
 P∉keys aa∧∃ps,h.get? P=some (tabObj ps)∧TriplesOk ps.toList∧∀pos cv,codeAmong pos ps.toList=some cv->∃c,cv= .ref c∧c∉keys aa∧h.CodeRec cv q∧(fl=true->tU pos=false)
noncomputable def ky (aa:Led) (h:Heap) (o:Obj):Prop:=∀fd,o.data= .func fd->∃c,fd.code= .ref c∧c∉keys aa∧h.CodeRec fd.code fd.qualname
inductive Pick (p:Addr×OP):Led->Led->Prop
 |head {r:_}:Pick p (p::r) r
 |tail {q r r':_}:Pick p r r'->Pick p (q::r) (q::r')
section
variable {p a b c d:Addr×OP} {r r':Led}
theorem Pick.u1:Pick p (a::p::r) (a::r):= .tail .head
theorem Pick.u2:Pick p (a::b::p::r) (a::b::r):= .tail .u1
theorem Pick.u3:Pick p (a::b::c::p::r) (a::b::c::r):= .tail .u2
theorem Pick.ut (h:Pick p r r'):Pick p (a::b::c::d::r) (a::b::c::d::r'):= .tail (.tail (.tail (.tail h)))
end
noncomputable def Less (ao aa:Led):Prop:=(∀p∈ao,p∈aa)∧((aa.map (·.1)).Nodup ->(ao.map (·.1)).Nodup)
theorem Pick.mem {p:Addr×OP} {o r:Led} (h:Pick p o r):p∈o∧(∀q∈r,q∈o)∧((o.map (·.1)).Nodup ->(r.map (·.1)).Nodup ∧p.1∉r.map (·.1)):=by
 induction h with
 | @head r=>
   refine⟨.head _,fun q hq=> .tail _ hq,fun h=> ?_⟩;rw[EQ,E2]at h;exact⟨h.2,h.1⟩
 | @tail q r r' _ ih=>
   refine⟨.tail _ ih.1,fun x hx=> ?_,fun h=> ?_⟩
   ·rcases EG.mp hx with rfl|hx
    ·exact .head _
    ·exact .tail _ (ih.2.1 x hx)
   ·rw[EQ,E2]at h
    obtain⟨h1,h2⟩:=ih.2.2 h.2;rw[EQ,E2,EG,not_or];refine⟨⟨fun hm=> ?_,h1⟩,fun e=> ?_,h2⟩
    ·obtain⟨x,hx,e⟩:=EP.mp hm
     exact h.1 (e▸EE (f:=(·.1)) (ih.2.1 x hx))
    ·exact h.1 (e▸EE (f:=(·.1)) ih.1)
theorem Less.refl {o:Led}:Less o o:=⟨fun _ h=>h,fun h=>h⟩
theorem Less.trans {o o' o'':Led} (h:Less o o') (h':Less o' o''):Less o o'':=⟨fun p hp=>h'.1 _ (h.1 p hp),fun x=>h.2 (h'.2 x)⟩
theorem Less.take {p:Addr×OP} {o o' r:Led} (h:Pick p o r) (h':Less o' r):Less (p::o') o:=by
 obtain⟨h1,h2,h3⟩:=h.mem;refine⟨fun q hq=> ?_,fun hn=> ?_⟩
 ·rcases EG.mp hq with rfl|hq
  ·exact h1
  ·exact h2 _ (h'.1 _ hq)
 ·obtain⟨h4,h5⟩:=h3 hn
  rw[EQ,E2];refine⟨fun hm=> ?_,h'.2 h4⟩;obtain⟨x,hx,e⟩:=EP.mp hm;exact h5 (e▸EE (f:=(·.1)) (h'.1 x hx))
theorem Less.skip {q:Addr×OP} {o o':Led} (h:Less o' o):Less o' (q::o):=by
 refine⟨fun p hp=> .tail _ (h.1 p hp),fun hn=> ?_⟩;rw[EQ,E2]at hn;exact h.2 hn.2
structure R (Γ:Cx) (aa:Led) (s:Shared):Prop where
 keep:∀b o,Γ.h0.get? b=some o->s.heap.get? b=some o
 ow:∀p∈aa,∃o,s.heap.get? p.1=some o∧p.2 o
 nd:(aa.map (·.1)).Nodup
 ap:∀p∈aa,Γ.h0.get? p.1=none
 gens:s.gens= #[]
 os:s.os=Γ.os
 tb:∀t∈Γ.tabs,Γ.h0.get? t.2.1=none∧lw Γ.fl aa s.heap t.2.1 t.2.2
 fn:∀p∈aa,∀o,s.heap.get? p.1=some o->ky aa s.heap o
noncomputable def gJ (Γ:Cx) (A:Around):Prop:=A.handled=none∧A.depth+Γ.k<700∧A.units+16*Γ.k<5000∧Γ.pa A.frames
inductive Post {α β:Type} (rel:β->α->Prop) (Γ:Cx) (K:β->Led->Prop) (v:α) (s:Shared):Prop|mk (b:β) (o:Led):rel b v->R Γ o s->K b o->Post rel Γ K v s
noncomputable def W (rel:β->α->Prop) (Γ:Cx) (t:Sem α) (aa:Led) (K:β->Led->Prop):Prop:=
 ∀A s,gJ Γ A->R Γ aa s->wpAny (model PR Γ.w) A t (Post rel Γ K) (fun _ _=>False) s
noncomputable abbrev WE (Γ:Cx) (env:Env) (e:Expr) (aa:Led) (K:AV->Led->Prop):Prop:=W VR Γ (eval e env) aa K
noncomputable abbrev WT (Γ:Cx) (env:Env) (e:Expr) (aa:Led) (K:Bool->Led->Prop):Prop:=W Eq Γ (isTrue e env (eval e env)) aa K
inductive AF where|next|brk|cont|ret (a:AV)
inductive FR:AF->Flow->Prop
 |next:FR .next .next
 |brk:FR .brk .brk
 |cont:FR .cont .cont
 |ret {a v:_}:VR a v->FR (.ret a) (.ret v)
noncomputable abbrev WX (Γ:Cx) (env:Env) (st:Stmt) (aa:Led) (K:AF->Led->Prop):Prop:=W FR Γ (exec st env) aa K
noncomputable abbrev WS (Γ:Cx) (env:Env) (st:List Stmt) (aa:Led) (K:AF->Led->Prop):Prop:=W FR Γ (execs st env) aa K
noncomputable abbrev WU (Γ:Cx) (t:Sem Unit) (aa:Led) (K:Led->Prop):Prop:=W (fun(_:Unit) (_:Unit)=>True) Γ t aa (fun _ o=>K o)
section
variable {γ δ:Type} {rel:β->α->Prop} {rel2:δ->γ->Prop}
theorem W.go {K:β->Led->Prop} {Q:α->Shared->Prop} (h:W rel Γ m aa K) (hA:gJ Γ A) (hR:R Γ aa s) (k:∀v s' b o',rel b v->R Γ o' s'->K b o'->Q v s') (e:Γ.w=w:=by rfl):wpAny (model PR w) A m Q E s:=
 e▸wpAny_mono (h A s hA hR) (fun v s' ⟨b,o',hv,hR',h'⟩=>k v s' b o' hv hR' h') fun _ _ x=>x.elim
theorem W.goE {K:α->Led->Prop} {Q:α->Shared->Prop} (h:W Eq Γ m aa K) (hA:gJ Γ A) (hR:R Γ aa s) (k:∀v s' o',R Γ o' s'->K v o'->Q v s') (e:Γ.w=w:=by rfl):wpAny (model PR w) A m Q E s:=
 e▸wpAny_mono (h A s hA hR) (fun v s' ⟨_,o',hv,hR',h'⟩=>k v s' o' hR' (hv▸h')) fun _ _ x=>x.elim
theorem W.bind {f:α->Sem γ} {K:δ->Led->Prop} (h:W rel Γ m aa (fun b o1=>∀v,rel b v->W rel2 Γ (f v) o1 K)):W rel2 Γ (m>>=f) aa K:=by
 intro A s hA hR;refine wpAny_bind (wpAny_mono (h A s hA hR) ?_ fun _ _ x=>x);rintro v s' ⟨b,o1,hv,hR',h⟩;exact h v hv A s' hA hR'
theorem W.mono {K K':β->Led->Prop} (h:W rel Γ m aa K) (hk:∀b o,K b o->K' b o):W rel Γ m aa K':=by
 intro A s hA hR;refine wpAny_mono (h A s hA hR) ?_ fun _ _ x=>x;rintro v s' ⟨b,o1,hv,hR',h⟩;exact⟨b,o1,hv,hR',hk _ _ h⟩
theorem W.pure {v:α} {b:β} {K:β->Led->Prop} (hv:rel b v) (h:K b aa):W rel Γ (pure v) aa K:=
 fun _ _ _ hR=>wpAny_pure ⟨b,aa,hv,hR,h⟩
theorem W.of_eq {m':Sem α} {K:β->Led->Prop} (e:m=m') (h:W rel Γ m' aa K):W rel Γ m aa K:=e▸h
theorem kv {ε:Type} {K:ε->Led->Prop} {a b:ε} {o:Led} (e:a=b) (h:K b o):K a o:=e▸h
theorem kvi {a b:Int} {o:Led} (e:a=b) (h:K (.int b) o):K (.int a) o:=e▸h
theorem kvb {a b:Bool} {o:Led} (e:a=b) (h:K (.bool b) o):K (.bool a) o:=e▸h
theorem wled {o o':Led} {K:β->Led->Prop} (e:o=o') (h:W rel Γ m o' K):W rel Γ m o K:=e▸h
theorem W.holding {vs:List Value} {K:β->Led->Prop} (h:W rel Γ m aa K):W rel Γ (holding vs m) aa K:=
 fun A s hA hR=>wpAny_holding (h A s hA hR)
theorem W.standAt {p:Pos} {K:Led->Prop} (h:K aa):WU Γ (standAt p) aa K:=
 fun _ _ _ hR=>wpAny_standAt ⟨(),aa,trivial,hR,h⟩
theorem W.at {p:Pos} {K:β->Led->Prop} (h:W rel Γ m aa K):W rel Γ (do PySem.standAt p;m) aa K:=
 W.bind (W.standAt fun _ _=>h)
end
section
theorem R.get (h:R Γ aa s) {a:Addr} {P:OP} (hm:(a,P)∈aa):∃o,s.heap.get? a=some o∧P o:=h.ow _ hm
theorem R.toks (h:R Γ aa s) (t:Tok):R Γ aa {s with toks:=t}:=⟨h.keep,h.ow,h.nd,h.ap,h.gens,h.os,h.tb,h.fn⟩
theorem lw.mono {fl:Bool} {P:Addr} {q:Str} (x:lw fl aa h P q) (hP:P∉keys ao) (hk:∀b o,b∉keys aa->h.get? b=some o->h'.get? b=some o) (hc:∀c o,h.get? c=some o->c∉keys aa->c∉keys ao):lw fl ao h' P q:=by
 obtain⟨h1,ps,h2,h3,h4⟩:=x;refine⟨hP,ps,hk _ _ h1 h2,h3,fun pos cv e=> ?_⟩;obtain⟨c,e1,e2,⟨c',o,vs,t,e3,e4,e5⟩,e6⟩:=h4 pos cv e;subst e1;cases e3;exact⟨c,rfl,hc _ _ e4 e2,⟨c,o,vs,t,rfl,hk _ _ e2 e4,e5⟩,e6⟩
theorem ky.mono (x:ky aa h o) (hk:∀b o,b∉keys aa->h.get? b=some o->h'.get? b=some o) (hc:∀c o,h.get? c=some o->c∉keys aa->c∉keys ao):ky ao h' o:=by
 intro fd e;obtain⟨c,e1,e2,e3⟩:=x fd e;rw[e1]at e3;obtain⟨c',o,vs,t,e4,e5,e6⟩:=e3;cases e4;rw[e1];exact⟨c,rfl,hc _ _ e5 e2,c,o,vs,t,rfl,hk _ _ e2 e5,e6⟩
theorem R.grow (h:R Γ aa s) {t:Tok} (hk:∀b o,s.heap.get? b=some o->h'.get? b=some o):R Γ aa {s with heap:=h',toks:=t}:=
 ⟨fun b o e=>hk _ _ (h.keep b o e),fun p hp=>(h.ow p hp).elim fun o x=>⟨o,hk _ _ x.1,x.2⟩,h.nd,h.ap,h.gens,h.os,
   fun t ht=>⟨(h.tb t ht).1,(h.tb t ht).2.mono (h.tb t ht).2.1 (fun b o _ e=>hk b o e) fun _ _ _ e=>e⟩,
   fun p hp o e=>by
    obtain⟨o',ho',_⟩:=h.ow p hp;have:=hk _ _ ho';have e':h'.get? p.1=some o:=e;rw[e']at this;cases this;exact(h.fn p hp o ho').mono (fun b o _ e=>hk b o e) fun _ _ _ e=>e⟩
theorem R.new (h:R Γ aa s) {t:Tok} {a:Addr} {P:OP} (hk:∀b o,s.heap.get? b=some o->h'.get? b=some o) (ha:h'.get? a=some o) (hP:P o) (hn:s.heap.get? a=none) (hf:ky aa h' o) (hfa:∀fd,o.data= .func fd->fd.code≠ .ref a):R Γ ((a,P)::aa) {s with heap:=h',toks:=t}:=by
 have hne:∀c o,s.heap.get? c=some o->c∉keys aa->c∉keys ((a,P)::aa):=fun c o e hc hm=>by
  rcases EG.mp hm with q|q
  ·rw[q,hn]at e;cases e
  ·exact hc q
 refine⟨fun b o e=>hk _ _ (h.keep b o e),?_,?_,?_,h.gens,h.os,fun t ht=>⟨(h.tb t ht).1,(h.tb t ht).2.mono ?_ (fun b o _ e=>hk b o e) hne⟩,?_⟩
 ·intro p hp
  rcases EG.mp hp with e|hp
  ·subst e;exact⟨o,ha,hP⟩
  ·obtain⟨o,ho,hP⟩:=h.ow p hp
   exact⟨o,hk _ _ ho,hP⟩
 ·rw[EQ,E2]
  refine⟨fun hm=> ?_,h.nd⟩;obtain⟨p,hp,e⟩:=EP.mp hm;obtain⟨o',ho',_⟩:=h.ow p hp;rw[e,hn]at ho';cases ho'
 ·intro p hp
  rcases EG.mp hp with e|hp
  ·subst e
   cases hb:Γ.h0.get? a with
   |none=>rfl
   |some o'=>have:=h.keep _ _ hb;rw[hn]at this;cases this
  ·exact h.ap p hp
 ·obtain⟨hP,ps,e,_⟩:=(h.tb t ht).2
  exact hne _ _ e hP
 ·intro p hp o' e
  rcases EG.mp hp with q|hp
  ·subst q
   have e':h'.get? a=some o':=e;rw[ha]at e';cases e';intro fd hd;obtain⟨c,e1,e2,e3⟩:=hf fd hd;refine⟨c,e1,fun hm=> ?_,e3⟩;rcases EG.mp hm with q|q
   ·exact hfa fd hd (by rw[e1,q])
   ·exact e2 q
  ·obtain⟨o₁,ho₁,_⟩:=h.ow p hp
   have z:=hk _ _ ho₁;have e':h'.get? p.1=some o':=e;rw[e']at z;cases z;exact(h.fn p hp _ ho₁).mono (fun b o _ e=>hk b o e) hne
theorem R.push (h:R Γ aa s) {t:Tok} {P:OP} (hP:P o) (hnf:NF P) (hf:o.isFreed=false:=by rfl):
 R Γ ((s.heap.objs.size,P)::aa) {s with heap:=s.heap.push o,toks:=t}:=
 h.new (fun _ _ e=>Heap.get?_push_of_some _ e) (Heap.get?_push_size _ hf) hP (Heap.get?_none_of_le (EL _)) (fun fd e=>absurd e (hnf _ hP fd)) (fun fd e=>absurd e (hnf _ hP fd))
inductive Upd (a:Addr) (P P':OP):Led->Led->Prop
 |head {r:_}:Upd a P P' ((a,P)::r) ((a,P')::r)
 |tail {q r r':_}:Upd a P P' r r'->Upd a P P' (q::r) (q::r')
section
variable {x:Addr} {P P':OP} {a b c d:Addr×OP} {r r':Led}
theorem Upd.u1:Upd x P P' (a::(x,P)::r) (a::(x,P')::r):= .tail .head
theorem Upd.u2:Upd x P P' (a::b::(x,P)::r) (a::b::(x,P')::r):= .tail .u1
theorem Upd.u3:Upd x P P' (a::b::c::(x,P)::r) (a::b::c::(x,P')::r):= .tail .u2
theorem Upd.ut (h:Upd x P P' r r'):Upd x P P' (a::b::c::d::r) (a::b::c::d::r'):= .tail (.tail (.tail (.tail h)))
end
theorem Upd.mem {a P P' aa ao} (u:Upd a P P' aa ao):(a,P)∈aa:=by
 induction u with
 |head=>exact .head _
 |tail _ ih=>exact .tail _ ih
theorem Upd.keys {a P P' aa ao} (u:Upd a P P' aa ao):ao.map (·.1)=aa.map (·.1):=by
 induction u with
 |head=>rfl
 |tail _ ih=>simp[ih]
theorem Upd.cases {a P P' aa ao} (u:Upd a P P' aa ao) (hn:(aa.map (·.1)).Nodup):∀p∈ao,p=(a,P')∨(p.1≠a∧p∈aa):=by
 induction u with
 |head=>
  intro p hp;rcases EG.mp hp with rfl|hp
  ·exact .inl rfl
  ·rw[EQ,E2]at hn
   exact .inr ⟨fun e=>hn.1 (e▸EE (f:=(·.1)) hp),.tail _ hp⟩
 | @tail q r r' u ih=>
   intro p hp;rw[EQ,E2]at hn;rcases EG.mp hp with rfl|hp
   ·exact .inr ⟨fun e=>hn.1 (e▸EE (f:=(·.1)) u.mem),.head _⟩
   ·rcases ih hn.2 p hp with h|h
    ·exact .inl h
    ·exact .inr ⟨h.1,.tail _ h.2⟩
theorem R.updO (h:R Γ aa s) {t:Tok} {a:Addr} {P P':OP} {o':Obj} (u:Upd a P P' aa ao) (hx:Heap.ExtBut a s.heap h') (ha:h'.get? a=some o') (hP':P' o') (hf:ky aa h' o'):R Γ ao {s with heap:=h',toks:=t}:=by
 have hkeys:keys ao=keys aa:=u.keys;have ham:a∈keys aa:=EE (f:=(·.1)) u.mem;have hk:∀b o,b∉keys aa->s.heap.get? b=some o->h'.get? b=some o:=fun b o hb e=>hx b o (fun q=>hb (q▸ham)) e;refine⟨fun b o e=>hx _ _ (fun q=> ?_) (h.keep b o e),?_,by rw[u.keys];exact h.nd,?_,h.gens,h.os,fun t ht=>⟨(h.tb t ht).1,(h.tb t ht).2.mono (by rw[hkeys];exact(h.tb t ht).2.1) hk fun _ _ _ e=>by rw[hkeys];exact e⟩,?_⟩
 ·have z:=h.ap _ u.mem
  rw[q]at e;rw[e]at z;cases z
 ·intro p hp
  rcases u.cases h.nd p hp with e|⟨hne,hp⟩
  ·subst e;exact⟨o',ha,hP'⟩
  ·obtain⟨o,ho,hP⟩:=h.ow p hp
   exact⟨o,hx _ _ hne ho,hP⟩
 ·intro p hp
  rcases u.cases h.nd p hp with e|⟨_,hp⟩
  ·subst e;exact h.ap (a,P) u.mem
  ·exact h.ap p hp
 ·intro p hp o e
  have e':h'.get? p.1=some o:=e;rcases u.cases h.nd p hp with q|⟨hne,hp⟩
  ·subst q
   rw[ha]at e';cases e';exact hf.mono (fun _ _ _ e=>e) fun _ _ _ e=>by rw[hkeys];exact e
  ·obtain⟨o₁,ho₁,_⟩:=h.ow p hp
   have z:=hx _ _ hne ho₁;rw[e']at z;cases z;exact(h.fn p hp _ ho₁).mono hk fun _ _ _ e=>by rw[hkeys];exact e
theorem R.upd (h:R Γ aa s) {t:Tok} {a:Addr} {P P':OP} (u:Upd a P P' aa ao) (hx:Heap.ExtBut a s.heap h') (ha:∃o,h'.get? a=some o∧P' o) (hnf:NF P'):R Γ ao {s with heap:=h',toks:=t}:=by
 obtain⟨o,e,hP⟩:=ha;exact h.updO u hx e hP fun fd e=>absurd e (hnf _ hP fd)
theorem fR (hs:Less ao aa) {c:Addr} (h:c∉keys aa):c∉keys ao:=fun hm=>by
 obtain⟨p,hp,e⟩:=EP.mp hm;exact h (e▸EE (f:=(·.1)) (hs.1 _ hp))
theorem R.sub (h:R Γ aa s) (hs:Less ao aa):R Γ ao s:=
 ⟨h.keep,fun p hp=>h.ow p (hs.1 _ hp),hs.2 h.nd,fun p hp=>h.ap p (hs.1 _ hp),h.gens,h.os,
   fun t ht=>⟨(h.tb t ht).1,(h.tb t ht).2.mono (fR hs (h.tb t ht).2.1) (fun _ _ _ e=>e) fun _ _ _ e=>fR hs e⟩,
   fun p hp o e=>(h.fn p (hs.1 _ hp) o e).mono (fun _ _ _ e=>e) fun _ _ _ e=>fR hs e⟩
theorem R.weak (h:R Γ aa s) {a:Addr} {P P':OP} (u:Upd a P P' aa ao) (hP:∀o,P o->P' o):R Γ ao s:=by
 obtain⟨o,ho,x⟩:=h.get u.mem;exact h.updO (h':=s.heap) (t:=s.toks) u (fun _ _ _ e=>e) ho (hP o x) (h.fn _ u.mem o ho)
end
theorem W.sub {rel:β->α->Prop} {t:Sem α} {K:β->Led->Prop} (hs:Less ao aa) (h:W rel Γ t ao K):W rel Γ t aa K:=
 fun A s hA hR=>h A s hA (hR.sub hs)
noncomputable def bD (vs:List AV):OP:=fun o=>∃items n,o={cls:= .type "list",data:= .seq items n}∧VRs vs items.toList
noncomputable def bV (vs:List AV):OP:=fun o=>∃items n,o={cls:= .type "tuple",data:= .seq items n}∧VRs vs items.toList
noncomputable def h_ (v:Option AV):OP:=fun o=>match v with
 |none=>∃x,o.data= .cell x
 |some a=>∃x,o.data= .cell (some x)∧VR a x
theorem km {vs}:NF (bD vs):=by rintro o ⟨_,_,rfl,_⟩ fd e;cases e
theorem tZ {vs}:NF (bV vs):=by rintro o ⟨_,_,rfl,_⟩ fd e;cases e
theorem AH {v}:NF (h_ v):=by
 intro o h fd e;cases v with
 |none=>obtain⟨x,hx⟩:=h;rw[e]at hx;cases hx
 |some a=>obtain⟨x,hx,_⟩:=h;rw[e]at hx;cases hx
noncomputable abbrev Loc:=List (Str×Option AV)
structure LocIs (loc:Loc) (m:Str->Option Value):Prop where
 nd:(loc.map (·.1)).Nodup
 get:∀x a,(x,some a)∈loc->∃v,m x=some v∧VR a v
noncomputable def ab (loc:Loc):OP:=fun o=>∃es ep m,o.data= .dict es ep∧StrKeys es∧(∀name,nsFind es name=m name)∧LocIs loc m
noncomputable abbrev cR (a b:Addr):Addr×OP:=(a,h_ (some (.ref b)))
noncomputable abbrev cI (a:Addr) (i:Int):Addr×OP:=(a,h_ (some (.int i)))
noncomputable abbrev cO (a:Addr) (o:Option AV):Addr×OP:=(a,h_ o)
noncomputable abbrev cN (a:Addr):Addr×OP:=(a,h_ none)
noncomputable abbrev lL (a:Addr) (l:List AV):Addr×OP:=(a,bD l)
noncomputable abbrev nR (x:Str) (b:Addr):Str×Option AV:=(x,some (.ref b))
noncomputable abbrev nI (x:Str) (i:Int):Str×Option AV:=(x,some (.int i))
theorem ab.ns {a:Addr} (ho:h.get? a=some o) (x:ab loc o):∃m,h.Ns a m∧LocIs loc m:=
 x.elim fun es x=>x.elim fun ep x=>x.elim fun m x=>⟨m,⟨o,es,ep,ho,x.1,x.2.1,x.2.2.1⟩,x.2.2.2⟩
theorem ab.of {a:Addr} {m:Str->Option Value} (hn:h.Ns a m) (hl:LocIs loc m):∃o,h.get? a=some o∧ab loc o:=
 hn.elim fun o x=>x.elim fun es x=>x.elim fun ep x=>⟨o,x.1,es,ep,m,x.2.1,x.2.2.1,x.2.2.2,hl⟩
theorem mo {loc}:NF (ab loc):=by rintro o ⟨_,_,_,hd,_⟩ fd e;rw[e]at hd;cases hd
inductive Put (x:Str) (v:AV):Loc->Loc->Prop
 |head {o r:_}:Put x v ((x,o)::r) ((x,some v)::r)
 |tail {q r r':_}:Put x v r r'->Put x v (q::r) (q::r')
section
variable {x:Str} {v:AV} {o:Option AV} {a b c d:Str×Option AV} {r r':Loc}
theorem Put.u1:Put x v (a::(x,o)::r) (a::(x,some v)::r):= .tail .head
theorem Put.u2:Put x v (a::b::(x,o)::r) (a::b::(x,some v)::r):= .tail .u1
theorem Put.u3:Put x v (a::b::c::(x,o)::r) (a::b::c::(x,some v)::r):= .tail .u2
theorem Put.ut (h:Put x v r r'):Put x v (a::b::c::d::r) (a::b::c::d::r'):= .tail (.tail (.tail (.tail h)))
end
theorem Put.keys {x v l l'} (u:Put x v l l'):l'.map (·.1)=l.map (·.1):=by
 induction u with
 |head=>rfl
 |tail _ ih=>simp[ih]
theorem Put.memk {x v l l'} (u:Put x v l l'):x∈l.map (·.1):=by
 induction u with
 |head=>exact .head _
 |tail _ ih=>exact .tail _ ih
theorem Put.cases {x v l l'} (u:Put x v l l') (hn:(l.map (·.1)).Nodup):∀p∈l',p=(x,some v)∨(p.1≠x∧p∈l):=by
 induction u with
 |head=>
  intro p hp;rcases EG.mp hp with rfl|hp
  ·exact .inl rfl
  ·rw[EQ,E2]at hn
   exact .inr ⟨fun e=>hn.1 (e▸EE (f:=(·.1)) hp),.tail _ hp⟩
 | @tail q r r' u ih=>
   intro p hp;rw[EQ,E2]at hn;rcases EG.mp hp with rfl|hp
   ·exact .inr ⟨fun e=>hn.1 (e▸u.memk),.head _⟩
   ·rcases ih hn.2 p hp with h|h
    ·exact .inl h
    ·exact .inr ⟨h.1,.tail _ h.2⟩
theorem LocIs.put {l l':Loc} {m:Str->Option Value} {x:Str} {a:AV} (h:LocIs l m) (u:Put x a l l') (hv:VR a v):
 LocIs l' (fun y=>if y=x then some v else m y):=by
 refine⟨by rw[u.keys];exact h.nd,fun y b hm=> ?_⟩;rcases u.cases h.nd _ hm with e|⟨hne,hp⟩
 ·cases e;exact⟨v,if_pos rfl,hv⟩
 ·obtain⟨z,hz,hr⟩:=h.get _ _ hp
  exact⟨z,by rw[if_neg hne];exact hz,hr⟩
structure Kd (env:Env) (x:Str) (k:NameKind):Prop where
 f:env.scope.kind= .function
 k:env.kindOf x=some k
 d:(x==("__debug__":Str))=false
 c:(x==("__classdict__":Str))=false
structure KdA (env:Env) (l:List (Str×NameKind)):Prop where
 f:env.scope.kind= .function
 a:(l.all fun p=>decide (env.kindOf p.1=some p.2∧(p.1==("__debug__":Str))=false∧(p.1==("__classdict__":Str))=false))=true
theorem KdA.at {l:List (Str×NameKind)} {x:Str} {k:NameKind} (h:KdA env l) (i:Nat) (e:l[i]? =some (x,k)):Kd env x k:=
 have⟨h1,h2,h3⟩:=of_decide_eq_true (HM.mp h.a _ (EF e))
 ⟨h.f,h1,h2,h3⟩
section
variable {x:Str}
theorem w_local {a:AV} (hk:Kd env x .local) (hL:env.locals=L) (hm:(L,ab loc)∈aa) (hx:(x,some a)∈loc) (h:K a aa):WE Γ env (.Name x pos) aa K:=by
 intro A s hA hR;subst hL;obtain⟨o,ho,hP⟩:=hR.get hm;obtain⟨m,hn,hl'⟩:=hP.ns ho;obtain⟨v,hv,hr⟩:=hl'.get _ _ hx;exact wpAny_Name (wpAny_loadName_local hk.f hk.k hn hv ⟨a,aa,hr,hR,h⟩) hk.d
theorem look_head {x:Str} {c:Addr} {r:List (Str×Addr)}:Hq x ((x,c)::r)=some c:=by simp[Hq]
theorem look_tail {x y:Str} {c d:Addr} {r:List (Str×Addr)} (hn:(x==y)=false) (h:Hq x r=some c):Hq x ((y,d)::r)=some c:=by
 simp only[Hq,hn];exact h
theorem w_cell {cells:List (Str×Addr)} {c:Addr} {a:AV} (hk:Kd env x .cell) (hC:env.cells=cells) (hc:cells.lookup x=some c) (hm:(c,h_ (some a))∈aa) (h:K a aa):WE Γ env (.Name x pos) aa K:=by
 intro A s hA hR;subst hC;obtain⟨o,ho,z,hz,hr⟩:=hR.get hm;exact wpAny_Name (wpAny_loadName_cell hk.f hk.k hc ⟨o,ho,hz⟩ ⟨a,aa,hr,hR,h⟩) hk.d
theorem w_free {cells:List (Str×Addr)} {c:Addr} {a:AV} (hk:Kd env x .free) (hC:env.cells=cells) (hc:cells.lookup x=some c) (hm:(c,h_ (some a))∈aa) (h:K a aa):WE Γ env (.Name x pos) aa K:=by
 intro A s hA hR;subst hC;obtain⟨o,ho,z,hz,hr⟩:=hR.get hm;exact wpAny_Name (wpAny_loadName_free hk.f hk.k hc ⟨o,ho,hz⟩ ⟨a,aa,hr,hR,h⟩ hk.c) hk.d
theorem kn {loc':Loc} {a:AV} {K:Led->Prop} (hk:Kd env x .local) (hv:VR a v) (hu:Upd env.locals (ab loc) (ab loc') aa ao) (hp:Put x a loc loc') (h:K ao):WU Γ (storeName env x v) aa K:=by
 intro A s hA hR;obtain⟨o,ho,hP⟩:=hR.get hu.mem;obtain⟨m,hn,hl'⟩:=hP.ns ho;refine wpAny_storeName_local hk.k hn (fun h' hn' hs=>⟨(),ao,trivial,hR.upd hu hs.extBut (ab.of hn' (hl'.put hp hv)) mo,h⟩) (by rw[hk.f];rfl)
theorem ly {c:Addr} {a:AV} {o₀:Option AV} {K:Led->Prop} (hk:Kd env x .cell) (hv:VR a v) (hc:env.cells.lookup x=some c) (hu:Upd c (h_ o₀) (h_ (some a)) aa ao) (h:K ao):WU Γ (storeName env x v) aa K:=by
 intro A s hA hR;obtain⟨o,ho,hP⟩:=hR.get hu.mem
 have hcell:∃v₀,s.heap.IsCell c v₀:=by
  cases o₀ with
  |none=>obtain⟨z,hz⟩:=hP;exact⟨z,o,ho,hz⟩
  |some b=>obtain⟨z,hz,_⟩:=hP;exact⟨_,o,ho,hz⟩
 obtain⟨v₀,hcell⟩:=hcell;refine wpAny_storeName_cell hk.f hk.k hc hcell fun h' hv' hs=>⟨(),ao,trivial,?_,h⟩;obtain⟨o',ho',hd'⟩:=hv';exact(hR.upd (t:=s.toks) hu hs.extBut ⟨o',ho',v,hd',hv⟩ AH)
end
end
section
section
theorem w_int {i:Int} (h:K (.int i) aa):WE Γ env (.Constant (.int i) k pos) aa K:=
 fun _ _ _ hR=>wpAny_Constant_int ⟨_,aa,.int _ _,hR.toks _,h⟩
theorem w_str {i:Str} (h:K (.str i) aa):WE Γ env (.Constant (.str i) k pos) aa K:=
 fun _ _ _ hR=>wpAny_Constant_str ⟨_,aa,.str _ _,hR.toks _,h⟩
theorem w_none (h:K .none aa):WE Γ env (.Constant .none k pos) aa K:=
 fun _ _ _ hR=>wpAny_Constant_none ⟨_,aa,.val _,hR,h⟩
theorem w_bool {b:Bool} (h:K (.bool b) aa):WE Γ env (.Constant (.bool b) k pos) aa K:=
 fun _ _ _ hR=>wpAny_Constant_bool ⟨_,aa,.val _,hR,h⟩
noncomputable def WBin (Γ:Cx) (op:Operator) (a b:AV) (aa:Led) (K:AV->Led->Prop):Prop:=∀va vb,VR a va->VR b vb->W VR Γ (binaryOp op va vb) aa K
noncomputable def WIn (Γ:Cx) (op:Operator) (a b:AV) (aa:Led) (K:AV->Led->Prop):Prop:=∀va vb,VR a va->VR b vb->W VR Γ (inplaceOp op va vb) aa K
noncomputable def WUn (Γ:Cx) (op:UnaryOp) (a:AV) (aa:Led) (K:AV->Led->Prop):Prop:=∀va,VR a va->W VR Γ (unaryOp op va) aa K
noncomputable def WCmp (Γ:Cx) (op:CmpOp) (a b:AV) (aa:Led) (K:AV->Led->Prop):Prop:=∀va vb,VR a va->VR b vb->W VR Γ (compareOp op va vb) aa K
noncomputable def WTr (Γ:Cx) (a:AV) (aa:Led) (K:Bool->Led->Prop):Prop:=∀va,VR a va->W Eq Γ (truthy va) aa K
noncomputable abbrev AI (Γ:Cx) (op:Operator) (K:AV->Led->Prop) (a b:AV) (o:Led):Prop:=WBin Γ op a b o K
noncomputable abbrev Cm (Γ:Cx) (env:Env) (r:Expr) (op:Operator) (K:AV->Led->Prop) (a:AV) (o:Led):Prop:=WE Γ env r o (AI Γ op K a)
noncomputable abbrev DB (Γ:Cx) (op:UnaryOp) (K:AV->Led->Prop) (a:AV) (o:Led):Prop:=WUn Γ op a o K
noncomputable abbrev AJ (Γ:Cx) (op:CmpOp) (K:AV->Led->Prop) (a b:AV) (o:Led):Prop:=WCmp Γ op a b o K
noncomputable abbrev AK (Γ:Cx) (env:Env) (r:Expr) (op:CmpOp) (K:AV->Led->Prop) (a:AV) (o:Led):Prop:=WE Γ env r o (AJ Γ op K a)
noncomputable abbrev Do (Γ:Cx) (K:Bool->Led->Prop) (a:AV) (o:Led):Prop:=WTr Γ a o K
noncomputable abbrev Cn (Γ:Cx) (env:Env) (body orelse:Expr) (K:AV->Led->Prop) (b:Bool) (o:Led):Prop:=if b then WE Γ env body o K else WE Γ env orelse o K
noncomputable abbrev kS (Γ:Cx) (env:Env) (rest:List Stmt) (K:AF->Led->Prop) (f:AF) (o:Led):Prop:=match f with| .next =>WS Γ env rest o K|f=>K f o
noncomputable abbrev DC (Γ:Cx) (env:Env) (body orelse:List Stmt) (K:AF->Led->Prop) (b:Bool) (o:Led):Prop:=if b then WS Γ env body o K else WS Γ env orelse o K
noncomputable abbrev Co (K:AF->Led->Prop) (a:AV) (o:Led):Prop:=K (.ret a) o
noncomputable abbrev DD (K:AF->Led->Prop) (_:AV) (o:Led):Prop:=K .next o
noncomputable abbrev B7 (K:AF->Led->Prop) (o:Led):Prop:=K .next o
theorem w_BinOp {l r:Expr} {op:Operator} (h:WE Γ env l aa (Cm Γ env r op K)):WE Γ env (.BinOp l op r pos) aa K:=by
 intro A s hA hR;refine wpAny_BinOp (W.go h hA hR fun va s1 a o1 ha hR1 h1=> ?_);refine W.go h1 hA hR1 fun vb s2 b o2 hb hR2 h2=> ?_;exact h2 va vb ha hb A s2 hA hR2
theorem w_UnaryOp {x:Expr} {op:UnaryOp} (h:WE Γ env x aa (DB Γ op K)):WE Γ env (.UnaryOp op x pos) aa K:=by
 intro A s hA hR;refine wpAny_UnaryOp (W.go h hA hR fun va s1 a o1 ha hR1 h1=> ?_);exact h1 va ha A s1 hA hR1
theorem w_Compare {l r:Expr} {op:CmpOp} (h:WE Γ env l aa (AK Γ env r op K)) (hm:behindInMarks op r=false:=by kernel_rfl):WE Γ env (.Compare l [op] [r] pos) aa K:=by
 intro A s hA hR;refine wpAny_Compare1 (W.go h hA hR fun va s1 a o1 ha hR1 h1=> ?_) hm;refine W.go h1 hA hR1 fun vb s2 b o2 hb hR2 h2=> ?_;exact h2 va vb ha hb A s2 hA hR2
theorem wtr_bool {b:Bool} {K:Bool->Led->Prop} (h:K b aa):WTr Γ (.bool b) aa K:=by
 intro va hv;cases hv;exact fun _ _ _ hR=>wpAny_truthy_bool ⟨b,aa,rfl,hR,h⟩
theorem t_Compare {l r:Expr} {op:CmpOp} {K:Bool->Led->Prop} (h:WE Γ env l aa (AK Γ env r op (Do Γ K))) (hm:behindInMarks op r=false:=by kernel_rfl):WT Γ env (.Compare l [op] [r] pos) aa K:=by
 intro A s hA hR;refine wpAny_isTrue_Compare1 (W.go h hA hR fun va s1 a o1 ha hR1 h1=> ?_) hm;refine W.go h1 hA hR1 fun vb s2 b o2 hb hR2 h2=> ?_;refine W.go (h2 va vb ha hb) hA hR2 fun vc s3 c o3 hc hR3 h3=> ?_;exact h3 vc hc A s3 hA hR3
theorem t_plain {e:Expr} {K:Bool->Led->Prop} (h:WE Γ env e aa (Do Γ K)) (he:isTrue e env (eval e env)=(do let v ←eval e env;standAt e.pos;holding [v] (truthy v)):=by kernel_rfl):WT Γ env e aa K:=by
 intro A s hA hR;refine isTrue_plain (W.go h hA hR fun va s1 a o1 ha hR1 h1=> ?_) he;exact h1 va ha A s1 hA hR1
theorem t_Not {e:Expr} {K:Bool->Led->Prop} (h:WT Γ env e aa fun b o=>K (!b) o):WT Γ env (.UnaryOp .Not e pos) aa K:=by
 intro A s hA hR;refine wpAny_isTrue_Not (W.goE h hA hR fun c s1 o1 hR1 h1=> ?_);exact⟨_,o1,rfl,hR1,h1⟩
noncomputable abbrev WAll (Γ:Cx) (env:Env) (op:BoolOp) (es:List Expr) (aa:Led) (K:Bool->Led->Prop):Prop:=W Eq Γ (allTrue op es env) aa K
noncomputable abbrev Cp (Γ:Cx) (env:Env) (rest:List Expr) (K:Bool->Led->Prop) (b:Bool) (o:Led):Prop:=if b then WAll Γ env .And rest o K else K false o
noncomputable abbrev DE (Γ:Cx) (env:Env) (rest:List Expr) (K:Bool->Led->Prop) (b:Bool) (o:Led):Prop:=if b then K true o else WAll Γ env .Or rest o K
theorem t_BoolOp {op:BoolOp} {es:List Expr} {K:Bool->Led->Prop} (h:WAll Γ env op es aa K):WT Γ env (.BoolOp op es pos) aa K:=
 fun A s hA hR=>wpAny_isTrue_BoolOp (h A s hA hR)
theorem t_And_nil {K:Bool->Led->Prop} (h:K true aa):WAll Γ env .And [] aa K:=fun _ _ _ hR=>wpAny_allTrue_And_nil ⟨_,aa,rfl,hR,h⟩
theorem t_Or_nil {K:Bool->Led->Prop} (h:K false aa):WAll Γ env .Or [] aa K:=fun _ _ _ hR=>wpAny_allTrue_Or_nil ⟨_,aa,rfl,hR,h⟩
theorem t_And_cons {x:Expr} {rest:List Expr} {K:Bool->Led->Prop} (h:WT Γ env x aa (Cp Γ env rest K)):WAll Γ env .And (x::rest) aa K:=by
 intro A s hA hR;refine wpAny_allTrue_And_cons (W.goE h hA hR fun c s1 o1 hR1 h1=> ?_);cases c with
 |true=>exact h1 A s1 hA hR1
 |false=>exact⟨_,o1,rfl,hR1,h1⟩
theorem t_Or_cons {x:Expr} {rest:List Expr} {K:Bool->Led->Prop} (h:WT Γ env x aa (DE Γ env rest K)):WAll Γ env .Or (x::rest) aa K:=by
 intro A s hA hR;refine wpAny_allTrue_Or_cons (W.goE h hA hR fun c s1 o1 hR1 h1=> ?_);cases c with
 |true=>exact⟨_,o1,rfl,hR1,h1⟩
 |false=>exact h1 A s1 hA hR1
noncomputable abbrev B8 (Γ:Cx) (env:Env) (pos:Pos) (op:BoolOp) (es:List Expr) (aa:Led) (K:AV->Led->Prop):Prop:=W VR Γ (boolOp pos op (evalEach es env)) aa K
theorem w_BoolOp {op:BoolOp} {es:List Expr} (h:B8 Γ env pos op es aa K):WE Γ env (.BoolOp op es pos) aa K:=h
theorem nv {op:BoolOp} {x:Expr} (h:WE Γ env x aa K):B8 Γ env pos op [x] aa K:=h
noncomputable abbrev Cq (Γ:Cx) (env:Env) (pos:Pos) (op:BoolOp) (rest:List Expr) (K:AV->Led->Prop) (a:AV) (t:Bool) (o2:Led):Prop:=
 match op,t with| .And,false=>K a o2| .Or,true=>K a o2|_,_=>B8 Γ env pos op rest o2 K
noncomputable abbrev DF (Γ:Cx) (env:Env) (pos:Pos) (op:BoolOp) (rest:List Expr) (K:AV->Led->Prop) (a:AV) (o:Led):Prop:=WTr Γ a o (Cq Γ env pos op rest K a)
theorem gK {op:BoolOp} {x y:Expr} {rest:List Expr} (h:WE Γ env x aa (DF Γ env pos op (y::rest) K)):
 B8 Γ env pos op (x::y::rest) aa K:=by
 show W VR Γ (do
  let v ←eval x env
  standAt pos
  let t ←holding [v] (truthy v)
  match op,t with
  | .And,false| .Or,true=>pure v
  |_,_=>boolOp pos op (evalEach (y::rest) env)) aa K
 refine W.bind (h.mono fun a o1 h1 v hv=>W.at (W.bind (W.holding ((h1 v hv).mono fun t o2 h2 t' ht=> ?_))));subst ht;cases op<;>cases t<;>first|exact W.pure hv h2|exact h2
theorem w_IfExp {test body orelse:Expr} (h:WT Γ env test aa (Cn Γ env body orelse K)):WE Γ env (.IfExp test body orelse pos) aa K:=by
 intro A s hA hR;refine wpAny_IfExp (W.goE h hA hR fun c s1 o1 hR1 h1=> ?_);cases c<;>exact h1 A s1 hA hR1
end
section
variable {K:AF->Led->Prop}
theorem s_nil (h:K .next aa):WS Γ env [] aa K:=fun _ _ _ hR=>wpAny_execs_nil ⟨_,aa,.next,hR,h⟩
theorem s_cons {st:Stmt} {rest:List Stmt} (h:WX Γ env st aa (kS Γ env rest K)):WS Γ env (st::rest) aa K:=by
 intro A s hA hR;refine wpAny_execs_cons (W.go h hA hR fun f s1 c o1 hf hR1 h1=> ?_);cases hf with
 |next=>exact h1 A s1 hA hR1
 |brk=>exact⟨_,o1,.brk,hR1,h1⟩
 |cont=>exact⟨_,o1,.cont,hR1,h1⟩
 |ret hv=>exact⟨_,o1,.ret hv,hR1,h1⟩
theorem x_If {test:Expr} {orelse:List Stmt} (h:WT Γ env test aa (DC Γ env body orelse K)):WX Γ env (.If test body orelse pos) aa K:=by
 intro A s hA hR;refine wpAny_If (W.goE h hA hR fun c s1 o1 hR1 h1=> ?_);cases c<;>exact h1 A s1 hA hR1
theorem x_Return {e:Expr} (h:WE Γ env e aa (Co K)):WX Γ env (.Return (some e) pos) aa K:=by
 intro A s hA hR;refine wpAny_Return_some (W.go h hA hR fun v s1 c o1 hv hR1 h1=> ?_);exact⟨_,o1,.ret hv,hR1,h1⟩
theorem x_Return_none (h:K (.ret .none) aa):WX Γ env (.Return none pos) aa K:=
 fun _ _ _ hR=>wpAny_Return_none ⟨_,aa,.ret (.val _),hR,h⟩
theorem x_Expr {e:Expr} (h:WE Γ env e aa (DD K)) (hi:interactive env=false:=by kernel_rfl) (hs:swapsWith e none pos.line env=pure false:=by kernel_rfl):
 WX Γ env (.Expr e pos) aa K:=by
 intro A s hA hR;refine wpAny_Expr_any (W.go h hA hR fun v s1 c o1 hv hR1 h1=> ?_) hi hs;exact⟨_,o1,.next,hR1,h1⟩
noncomputable def WSt (Γ:Cx) (env:Env) (x:Str) (a:AV) (aa:Led) (K:Led->Prop):Prop:=∀v,VR a v->WU Γ (storeName env x v) aa K
theorem st_local {x:Str} {loc':Loc} {a:AV} {K:Led->Prop} (hk:Kd env x .local) (hL:env.locals=L) (hu:Upd L (ab loc) (ab loc') aa ao) (hp:Put x a loc loc') (h:K ao):WSt Γ env x a aa K:=
 fun _ hv=>kn hk hv (by rw[hL];exact hu) hp h
theorem st_cell {x:Str} {cells:List (Str×Addr)} {c:Addr} {a:AV} {o₀:Option AV} {K:Led->Prop} (hk:Kd env x .cell) (hC:env.cells=cells) (hc:cells.lookup x=some c) (hu:Upd c (h_ o₀) (h_ (some a)) aa ao) (h:K ao):WSt Γ env x a aa K:=
 fun _ hv=>ly hk hv (by rw[hC];exact hc) hu h
theorem W.bindName {x:Str} {K:Led->Prop} (h:WU Γ (storeName env x v) aa K):WU Γ (bindName env x v) aa K:=
 fun A s hA hR=>wpAny_bindName (h A s hA hR)
noncomputable abbrev AL (Γ:Cx) (env:Env) (x:Str) (K:AF->Led->Prop) (a:AV) (o:Led):Prop:=WSt Γ env x a o (B7 K)
noncomputable abbrev Cr (Γ:Cx) (env:Env) (op:Operator) (x:Str) (K:AF->Led->Prop) (a b:AV) (o:Led):Prop:=WIn Γ op a b o (AL Γ env x K)
noncomputable abbrev DG (Γ:Cx) (env:Env) (op:Operator) (e:Expr) (x:Str) (K:AF->Led->Prop) (a:AV) (o:Led):Prop:=WE Γ env e o (Cr Γ env op x K a)
theorem x_Assign_Name {x:Str} {p':Pos} {e:Expr} (h:WE Γ env e aa (AL Γ env x K)) (hs:swapsWith e (some (.Name x p')) pos.line env=pure false:=by kernel_rfl):WX Γ env (.Assign [.Name x p'] e pos) aa K:=by
 intro A s hA hR;refine wpAny_Assign_Name (W.go h hA hR fun v s1 c o1 hv hR1 h1=> ?_) hs;refine W.go (h1 v hv) hA hR1 fun _ s2 _ o2 _ hR2 h2=> ?_;exact⟨_,o2,.next,hR2,h2⟩
theorem x_Aug_Name {x:Str} {p':Pos} {op:Operator} {e:Expr} (h:W VR Γ (loadName env x) aa (DG Γ env op e x K)):
 WX Γ env (.AugAssign (.Name x p') op e pos) aa K:=by
 intro A s hA hR;refine wpAny_AugAssign_Name (W.go h hA hR fun va s1 a o1 ha hR1 h1=> ?_);refine W.go h1 hA hR1 fun vb s2 b o2 hb hR2 h2=> ?_;refine W.go (h2 va vb ha hb) hA hR2 fun vc s3 c o3 hc hR3 h3=> ?_;refine W.go (h3 vc hc) hA hR3 fun _ s4 _ o4 _ hR4 h4=> ?_;exact⟨_,o4,.next,hR4,h4⟩
theorem l_local {x:Str} {a:AV} {K:AV->Led->Prop} (hk:Kd env x .local) (hL:env.locals=L) (hm:(L,ab loc)∈aa) (hx:(x,some a)∈loc) (h:K a aa):W VR Γ (loadName env x) aa K:=by
 intro A s hA hR;subst hL;obtain⟨o,ho,hP⟩:=hR.get hm;obtain⟨m,hn,hl'⟩:=hP.ns ho;obtain⟨v,hv,hr⟩:=hl'.get _ _ hx;exact wpAny_loadName_local hk.f hk.k hn hv ⟨a,aa,hr,hR,h⟩
end
section
variable {x y:Int}
theorem b_add (h:K (.int (x+y)) aa):WBin Γ .Add (.int x) (.int y) aa K:=by
 intro va vb ha hb;cases ha;cases hb;exact fun _ _ _ hR=>add_int ⟨_,aa,.int _ _,hR.toks _,h⟩
theorem b_sub (h:K (.int (x-y)) aa):WBin Γ .Sub (.int x) (.int y) aa K:=by
 intro va vb ha hb;cases ha;cases hb;exact fun _ _ _ hR=>sub_int ⟨_,aa,.int _ _,hR.toks _,h⟩
theorem d8 (hm:IntMulOk x y) (h:K (.int (x*y)) aa):WBin Γ .Mult (.int x) (.int y) aa K:=by
 intro va vb ha hb;cases ha;cases hb;exact fun _ _ _ hR=>mul_int ⟨_,aa,.int _ _,hR.toks _,h⟩ hm
theorem dT (hy:y≠0) (hp:Builtin.divisionGoesByPylong x y=false) (h:K (.int (x.fdiv y)) aa):WBin Γ .FloorDiv (.int x) (.int y) aa K:=by
 intro va vb ha hb;cases ha;cases hb;exact fun _ _ _ hR=>floordiv_int hy ⟨_,aa,.int _ _,hR.toks _,h⟩ (.inl hp)
theorem gL (hy:y≠0) (h:K (.int (x.fmod y)) aa):WBin Γ .Mod (.int x) (.int y) aa K:=by
 intro va vb ha hb;cases ha;cases hb;exact fun _ _ _ hR=>mod_int' hy ⟨_,aa,.int _ _,hR.toks _,h⟩
theorem qU (hy:0≤y) (hs:(Builtin.Int.intBits x:Int)*y≤2^27) (h:K (.int (x^y.toNat)) aa):WBin Γ .Pow (.int x) (.int y) aa K:=by
 intro va vb ha hb;cases ha;cases hb;exact fun _ _ _ hR=>pow_int hy hs ⟨_,aa,.int _ _,hR.toks _,h⟩
theorem iL (hy:0≤y) (hs:(Builtin.Int.intBits x:Int)+y≤2^27) (h:K (.int (x*2^y.toNat)) aa):WBin Γ .LShift (.int x) (.int y) aa K:=by
 intro va vb ha hb;cases ha;cases hb;exact fun _ _ _ hR=>lshift_int hy hs ⟨_,aa,.int _ _,hR.toks _,h⟩
theorem iM (hy:0≤y) (h:K (.int (x.fdiv (2^y.toNat))) aa):WBin Γ .RShift (.int x) (.int y) aa K:=by
 intro va vb ha hb;cases ha;cases hb;exact fun _ _ _ hR=>rshift_int hy ⟨_,aa,.int _ _,hR.toks _,h⟩
theorem oG (h:K (.int (Builtin.bitAnd x y)) aa):WBin Γ .BitAnd (.int x) (.int y) aa K:=by
 intro va vb ha hb;cases ha;cases hb;exact fun _ _ _ hR=>and_int ⟨_,aa,.int _ _,hR.toks _,h⟩
theorem AM (h:K (.int (Builtin.bitOr x y)) aa):WBin Γ .BitOr (.int x) (.int y) aa K:=by
 intro va vb ha hb;cases ha;cases hb;exact fun _ _ _ hR=>or_int ⟨_,aa,.int _ _,hR.toks _,h⟩
theorem AN (h:K (.int (Builtin.bitXor x y)) aa):WBin Γ .BitXor (.int x) (.int y) aa K:=by
 intro va vb ha hb;cases ha;cases hb;exact fun _ _ _ hR=>xor_int ⟨_,aa,.int _ _,hR.toks _,h⟩
theorem i_add (h:K (.int (x+y)) aa):WIn Γ .Add (.int x) (.int y) aa K:=by
 intro va vb ha hb;cases ha;cases hb;exact fun _ _ _ hR=>iadd_int ⟨_,aa,.int _ _,hR.toks _,h⟩
theorem i_sub (h:K (.int (x-y)) aa):WIn Γ .Sub (.int x) (.int y) aa K:=by
 intro va vb ha hb;cases ha;cases hb;exact fun _ _ _ hR=>isub_int ⟨_,aa,.int _ _,hR.toks _,h⟩
theorem wP (hy:0≤y) (hs:(Builtin.Int.intBits x:Int)+y≤2^27) (h:K (.int (x*2^y.toNat)) aa):WIn Γ .LShift (.int x) (.int y) aa K:=by
 intro va vb ha hb;cases ha;cases hb;exact fun _ _ _ hR=>ilshift_int hy hs ⟨_,aa,.int _ _,hR.toks _,h⟩
theorem AO (hy:0≤y) (h:K (.int (x.fdiv (2^y.toNat))) aa):WIn Γ .RShift (.int x) (.int y) aa K:=by
 intro va vb ha hb;cases ha;cases hb;exact fun _ _ _ hR=>irshift_int hy ⟨_,aa,.int _ _,hR.toks _,h⟩
theorem u_neg (h:K (.int (-x)) aa):WUn Γ .USub (.int x) aa K:=by
 intro va ha;cases ha;exact fun _ _ _ hR=>neg_int ⟨_,aa,.int _ _,hR.toks _,h⟩
theorem c_lt (h:K (.bool (decide (x<y))) aa):WCmp Γ .Lt (.int x) (.int y) aa K:=by
 intro va vb ha hb;cases ha;cases hb;exact fun _ _ _ hR=>lt_int ⟨_,aa,.val _,hR,h⟩
theorem c_le (h:K (.bool (decide (x≤y))) aa):WCmp Γ .LtE (.int x) (.int y) aa K:=by
 intro va vb ha hb;cases ha;cases hb;exact fun _ _ _ hR=>le_int ⟨_,aa,.val _,hR,h⟩
theorem c_gt (h:K (.bool (decide (y<x))) aa):WCmp Γ .Gt (.int x) (.int y) aa K:=by
 intro va vb ha hb;cases ha;cases hb;exact fun _ _ _ hR=>gt_int ⟨_,aa,.val _,hR,h⟩
theorem c_eq (h:K (.bool (x==y)) aa):WCmp Γ .Eq (.int x) (.int y) aa K:=by
 intro va vb ha hb;cases ha;cases hb;exact fun _ _ _ hR=>eq_int ⟨_,aa,.val _,hR,h⟩
theorem c_ne (h:K (.bool (x !=y)) aa):WCmp Γ .NotEq (.int x) (.int y) aa K:=by
 intro va vb ha hb;cases ha;cases hb;exact fun _ _ _ hR=>ne_int ⟨_,aa,.val _,hR,h⟩
theorem aX {a:AV} {b:Bool} (hb':∀v,VR a v->(v==Value.none)=b) (h:K (.bool b) aa):WCmp Γ .Is a .none aa K:=by
 intro va vb ha hb;cases hb;exact fun _ _ _ hR=>is_none ⟨_,aa,.val _,hR,by rw[hb' _ ha];exact h⟩
theorem tr_int {K:Bool->Led->Prop} (h:K (x !=0) aa):WTr Γ (.int x) aa K:=by
 intro va ha;cases ha;exact fun _ _ _ hR=>truthy_int ⟨_,aa,rfl,hR,h⟩
end
end
section
theorem All2.length {as:List α} (h:All2 r as bs):as.length=bs.length:=by
 induction h with
 |nil=>rfl
 |cons _ _ ih=>simp[ih]
theorem All2.append {as as':List α} {bs':List β} (h:All2 r as bs) (h':All2 r as' bs'):All2 r (as++as') (bs++bs'):=by
 induction h with
 |nil=>exact h'
 |cons x _ ih=>exact .cons x ih
theorem All2.get {as:List α} (h:All2 r as bs):∀{i:Nat} {a:α},as[i]? =some a->∃b,bs[i]? =some b∧r a b:=by
 induction h with
 |nil=>intro i a e;simp at e
 | @cons a b as bs x _ ih=>
   intro i c e;cases i with
   |zero=>simp at e;subst e;exact⟨b,rfl,x⟩
   |succ i=>simp at e;obtain⟨d,hd,hr⟩:=ih e;exact⟨d,by simpa using hd,hr⟩
theorem All2.take {as:List α} (h:All2 r as bs):∀n,All2 r (as.take n) (bs.take n):=by
 induction h with
 |nil=>intro n;simp;exact .nil
 |cons x _ ih=>intro n;cases n with
  |zero=>exact .nil
  |succ n=>exact .cons x (ih n)
theorem All2.drop {as:List α} (h:All2 r as bs):∀n,All2 r (as.drop n) (bs.drop n):=by
 induction h with
 |nil=>intro n;simp;exact .nil
 |cons x y ih=>intro n;cases n with
  |zero=>exact .cons x y
  |succ n=>exact ih n
theorem All2.reverse {as:List α} (h:All2 r as bs):All2 r as.reverse bs.reverse:=by
 induction h with
 |nil=>exact .nil
 |cons x _ ih=>rw[HD,HD];exact ih.append (.cons x .nil)
theorem All2.set {as:List α} (h:All2 r as bs) {a:α} {b:β} (hr:r a b):∀i,All2 r (as.set i a) (bs.set i b):=by
 induction h with
 |nil=>intro i;exact .nil
 |cons x y ih=>intro i;cases i with
  |zero=>exact .cons hr y
  |succ i=>exact .cons x (ih i)
noncomputable abbrev KR (a:Str×AV) (b:Str×Value):Prop:=a.1=b.1∧VR a.2 b.2
noncomputable def ai (Γ:Cx) (f:Value) (as:List AV) (ks:List (Str×AV)) (aa:Led) (K:AV->Led->Prop):Prop:=
 ∀vs kv,VRs as vs->All2 KR ks kv->W VR Γ (call f vs kv) aa K
section
noncomputable abbrev WArgs (Γ:Cx) (env:Env) (pos:Pos) (es:List Expr) (aa:Led) (K:List AV->Led->Prop):Prop:=W VRs Γ (spliced (backTo pos (starEach es env))) aa K
theorem a_nil {K:List AV->Led->Prop} (h:K [] aa):WArgs Γ env pos [] aa K:=fun _ _ _ hR=>wpAny_items_nil ⟨[],aa,.nil,hR,h⟩
noncomputable abbrev AP (K:List AV->Led->Prop) (a:AV) (as:List AV) (o:Led):Prop:=K (a::as) o
noncomputable abbrev DH (Γ:Cx) (env:Env) (pos:Pos) (rest:List Expr) (K:List AV->Led->Prop) (a:AV) (o:Led):Prop:=WArgs Γ env pos rest o (AP K a)
theorem a_cons {e:Expr} {rest:List Expr} {K:List AV->Led->Prop} (h:WE Γ env e aa (DH Γ env pos rest K)) (he:starEach (e::rest) env=(false,eval e env)::starEach rest env:=by kernel_rfl):WArgs Γ env pos (e::rest) aa K:=by
 intro A s hA hR;refine wpAny_items_cons (W.go h hA hR fun v s1 a o1 hv hR1 h1=> ?_) he;refine W.go h1 hA hR1 fun vs s2 as o2 hvs hR2 h2=> ?_;exact⟨_,o2,.cons hv hvs,hR2,h2⟩
noncomputable abbrev WKw (Γ:Cx) (env:Env) (pos:Pos) (ks:List Keyword) (aa:Led) (K:List AV->Led->Prop):Prop:=W VRs Γ (evalAll ((backToKw pos (keywordEach ks env)).map (·.2))) aa K
theorem k_nil {K:List AV->Led->Prop} (h:K [] aa):WKw Γ env pos [] aa K:=fun _ _ _ hR=>wpAny_evalAll_nil ⟨[],aa,.nil,hR,h⟩
noncomputable abbrev DI (Γ:Cx) (env:Env) (pos:Pos) (rest:List Keyword) (K:List AV->Led->Prop) (a:AV) (o:Led):Prop:=WKw Γ env pos rest o (AP K a)
theorem k_cons {n:Str} {e:Expr} {p:Pos} {rest:List Keyword} {K:List AV->Led->Prop} (h:WE Γ env e aa (DI Γ env pos rest K)):
 WKw Γ env pos (⟨some n,e,p⟩::rest) aa K:=by
 intro A s hA hR;show wpAny _ _ (evalAll ((do let v ←eval e env;standAt pos;pure v)::(backToKw pos (keywordEach rest env)).map (·.2))) _ _ _;refine wpAny_evalAll_cons (wpAny_bind (W.go h hA hR fun v s1 a o1 hv hR1 h1=> ?_));refine wpAny_bind (wpAny_standAt (wpAny_pure (W.go h1 hA hR1 fun vs s2 as o2 hvs hR2 h2=> ?_)));exact⟨_,o2,.cons hv hvs,hR2,h2⟩
noncomputable def bu (Γ:Cx) (aa:Led) (f:Value):Prop:=∀s,R Γ aa s->∃k,(k=Keeper.frame∨k=Keeper.machine∨k=Keeper.boundFrame)∧W.Looks (model PR Γ.w) s.heap (keeperOf f) k
theorem keeps_builtin {id:String}:bu Γ aa (.builtin id):=fun _ _=>⟨.machine,.inr (.inl rfl),Looks.of_pure rfl⟩
theorem keeps_type {id:String}:bu Γ aa (.type id):=fun _ _=>⟨.machine,.inr (.inl rfl),Looks.of_pure rfl⟩
theorem mr (h:∀s,R Γ aa s->∃o fd,s.heap.get? f=some o∧o.data= .func fd):bu Γ aa (.ref f):=fun s hR=>by
 obtain⟨o,fd,ho,hd⟩:=h s hR;obtain⟨c,d,dt,sl⟩:=o;cases hd;exact⟨.frame,.inl rfl,(Looks.ld (part:=none) ho).andThen .now⟩
theorem qV:∀{ns:List Str} {ks:List AV} {vs:List Value},VRs ks vs->All2 KR (ns.zip ks) (ns.zip vs):=by
 intro ns;induction ns with
 |nil=>exact fun _=> .nil
 |cons n ns ih=>
  intro ks vs h;cases h with
  |nil=>exact .nil
  |cons h r=>exact .cons ⟨rfl,h⟩ (ih r)
theorem jd {f:Value} {first:List Value} {fas:List AV} {args:List Expr} {kws:List Keyword} (hf:VRs fas first) (h:WArgs Γ env pos args aa fun as o2=>WKw Γ env pos kws o2 fun ks o3=>
 bu Γ o3 f∧ai Γ f (fas++as) (((backToKw pos (keywordEach kws env)).filterMap (·.1)).zip ks) o3 K) (hplain:((backTo pos (starEach args env)).any (·.1)||(backToKw pos (keywordEach kws env)).any (·.1.isNone))=false:=by kernel_rfl) (hall:(backToKw pos (keywordEach kws env)).all (·.1.isSome)=true:=by kernel_rfl):
 W VR Γ (callWith pos f first (backTo pos (starEach args env)) (backToKw pos (keywordEach kws env))) aa K:=by
 have hlone:∀x,backTo pos (starEach args env)≠[(true,x)]:=fun x e=>by rw[e]at hplain;simp at hplain
 intro A s hA hR;refine callWith_of (P:=fun h=>∃o3 s',s'.heap=h∧R Γ o3 s'∧bu Γ o3 f) hplain (fun h hk=> ?_) ?_
 ·obtain⟨o3,s',rfl,hR',hk⟩:=hk
  exact hk s' hR'
 ·unfold WArgs at h
  generalize backTo pos (starEach args env)=L at h hlone
  have go:wpAny (model PR Γ.w) A (spliced L>>=fun vs=>holding (vs++(none:Option Value).toList) (do
   let ks ←evalAll ((backToKw pos (keywordEach kws env)).map (·.2))
   let ps ←(Pure.pure vs:Sem (List Value))
   (Pure.pure ⟨ps,((backToKw pos (keywordEach kws env)).filterMap (·.1)).zip ks⟩:Sem Args)))
   (fun a s₁=>(∃o3 s',s'.heap=s₁.heap∧R Γ o3 s'∧bu Γ o3 f)∧wpAny (model PR Γ.w) A (call f (first++a.pos) a.kw)
     (Post VR Γ K) (fun _ _=>False) s₁) (fun _ _=>False) s:=by
   refine wpAny_bind (W.go h hA hR fun vs s2 as o2 hvs hR2 h2=> ?_);refine wpAny_holding (wpAny_bind (W.go h2 hA hR2 fun ks s3 kas o3 hks hR3 hz=> ?_));obtain⟨hk,h3⟩:=hz;refine wpAny_bind (wpAny_pure (wpAny_pure ⟨⟨o3,s3,rfl,hR3,hk⟩,?_⟩));exact h3 _ _ (hf.append hvs) (qV hks) A s3 hA hR3
  unfold evalArgs;rcases L with _|⟨⟨b,x⟩,_|⟨p,r⟩⟩
  ·(rw[hall];exact go)
  ·cases b with
   |true=>exact absurd rfl (hlone x)
   |false=>(rw[hall];exact go)
  ·cases b<;>(rw[hall];exact go)
noncomputable abbrev AQ (Γ:Cx) (env:Env) (pos:Pos) (kws:List Keyword) (K:AV->Led->Prop) (f:Value) (as ks:List AV) (o:Led):Prop:=
 bu Γ o f∧ai Γ f as (((backToKw pos (keywordEach kws env)).filterMap (·.1)).zip ks) o K
noncomputable abbrev Ct (Γ:Cx) (env:Env) (pos:Pos) (kws:List Keyword) (K:AV->Led->Prop) (f:Value) (as:List AV) (o:Led):Prop:=WKw Γ env pos kws o (AQ Γ env pos kws K f as)
noncomputable abbrev DJ (Γ:Cx) (env:Env) (pos:Pos) (args:List Expr) (kws:List Keyword) (K:AV->Led->Prop) (fa:AV) (o:Led):Prop:=∃f,fa= .val f∧WArgs Γ env pos args o (Ct Γ env pos kws K f)
noncomputable abbrev Cu (Γ:Cx) (env:Env) (pos:Pos) (kws:List Keyword) (K:AV->Led->Prop) (fx:Value×List AV) (as:List AV) (o:Led):Prop:=WKw Γ env pos kws o (AQ Γ env pos kws K fx.1 (fx.2++as))
noncomputable abbrev Cv (Γ:Cx) (env:Env) (pos:Pos) (args:List Expr) (kws:List Keyword) (K:AV->Led->Prop) (fx:Value×List AV) (o:Led):Prop:=WArgs Γ env pos args o (Cu Γ env pos kws K fx)
theorem w_Call {func:Expr} {args:List Expr} {kws:List Keyword} (h:WE Γ env func aa (DJ Γ env pos args kws K)) (he:eval (.Call func args kws pos) env=(do callWith pos (←eval func env) [] (backTo pos (starEach args env)) (backToKw pos (keywordEach kws env))):=by kernel_rfl) (hplain:((backTo pos (starEach args env)).any (·.1)||(backToKw pos (keywordEach kws env)).any (·.1.isNone))=false:=by kernel_rfl) (hall:(backToKw pos (keywordEach kws env)).all (·.1.isSome)=true:=by kernel_rfl):WE Γ env (.Call func args kws pos) aa K:=by
 refine W.of_eq he (W.bind (h.mono fun fa o1 h1 v hv=> ?_));obtain⟨f,rfl,h1⟩:=h1;cases hv;exact jd (fas:=[]) .nil (by simpa using h1) hplain hall
noncomputable abbrev MR (a:Value×List AV) (b:Value×List Value):Prop:=a.1=b.1∧VRs a.2 b.2
noncomputable def mu (Γ:Cx) (a:AV) (name:Str) (aa:Led) (K:Value×List AV->Led->Prop):Prop:=∀va pl,VR a va->W MR Γ (getMethod va name pl) aa K
noncomputable abbrev DK (Γ:Cx) (env:Env) (pos:Pos) (name:Str) (args:List Expr) (kws:List Keyword) (K:AV->Led->Prop) (oa:AV) (o:Led):Prop:=mu Γ oa name o (Cv Γ env pos args kws K)
theorem w_MCall {o:Expr} {name:Str} {apos:Pos} {args:List Expr} {kws:List Keyword} (h:WE Γ env o aa (DK Γ env pos name args kws K)) (he:eval (.Call (.Attribute o name apos) args kws pos) env=(do
 let ov ←eval o env
 standAt apos.atName
 let(f,first) ←holding [ov] (getMethod ov name (do return(←importBound o env).getD true))
 callWith pos f first (backTo pos (starEach args env)) (backToKw pos (keywordEach kws env))):=by kernel_rfl) (hplain:((backTo pos (starEach args env)).any (·.1)||(backToKw pos (keywordEach kws env)).any (·.1.isNone))=false:=by kernel_rfl) (hall:(backToKw pos (keywordEach kws env)).all (·.1.isSome)=true:=by kernel_rfl):WE Γ env (.Call (.Attribute o name apos) args kws pos) aa K:=by
 refine W.of_eq he (W.bind (h.mono fun oa o1 h1 v hv=>W.at (W.bind (W.holding ((h1 v _ hv).mono fun fx o2 h2 fx' hfx=> ?_)))));obtain⟨f,fas⟩:=fx;obtain⟨f',first⟩:=fx';obtain⟨e,hfirst⟩:=hfx;cases e;exact jd hfirst h2 hplain hall
end
section
theorem bD.get (hR:R Γ aa s) (hm:lL l vs∈aa):∃items n,s.heap.get? l=some {cls:= .type "list",data:= .seq items n}∧VRs vs items.toList:=by
 obtain⟨o,ho,items,n,rfl,hv⟩:=hR.get hm;exact⟨items,n,ho,hv⟩
theorem cy {name:Str} {id:String} {K:Value×List AV->Led->Prop} (slot:Slot "list" name id) (ht:typeOf (.builtin id)=pure (.type "method_descriptor")) (hm:lL l vs∈aa) (h:K (.builtin id,[.ref l]) aa):mu Γ (.ref l) name aa K:=by
 intro va pl hv;cases hv;intro A s hA hR;obtain⟨items,n,ho,_⟩:=bD.get hR hm;have hT:s.TypeIs (.ref l) "list":=⟨_,ho,rfl⟩;unfold getMethod;refine wpAny_bind (wpAny_specialOf hT PySem.list_getattribute ?_);show wpAny _ A (if(Manifest.canonical "list.__getattribute__"!="object.__getattribute__")=true then _ else _) _ _ s;rw[PySem.canon_list_getattribute,if_neg E6];refine wpAny_bind (wpAny_specialOf hT PySem.list_getattr_none ?_);refine wpAny_bind (wpAny_specialOf hT slot.lookup ?_);refine wpAny_bind (wpAny_of_eq ht ?_);refine wpAny_bind (wpAny_load ho ?_);exact wpAny_bind (wpAny_rule (wpAny_pure ⟨(.builtin id,[.ref l]),aa,⟨rfl,.cons (.val _) .nil⟩,hR,h⟩))
theorem R.list (hR:R Γ aa s) {vs':List AV} (hu:Upd l (bD vs) (bD vs') aa ao) {f:Array Value->Array Value} {t:Tok} (ho:s.heap.get? l=some {cls:= .type "list",data:= .seq items n}) (hv:VRs vs' (f items).toList):
 R Γ ao {s with heap:=s.heap.update l (Obj.mapSeq f),toks:=t}:=
 hR.upd hu (Heap.SameBut.update ..).extBut ⟨_,PySem.IsL.update ho f,_,_,rfl,hv⟩ km
theorem cY {v:AV} (hu:Upd l (bD vs) (bD (vs++[v])) aa ao) (hz:vs.length≤sizeLine) (h:K .none ao):ai Γ (.builtin "list.append") [.ref l,v] [] aa K:=by
 intro va kv hv hk;cases hk;obtain _|⟨h1,_|⟨h2,_|_⟩⟩:=hv;cases h1;rename_i y;intro A s hA hR;obtain⟨items,n,ho,hvs⟩:=bD.get hR hu.mem;refine call_meets PySem.slot_list_append ⟨_,ho,rfl⟩ PySem.entry_list_append (PySem.args_list_append _ _) (PySem.list_append l items n y (by rw[←E0,←hvs.length];exact hz)) ⟨ho,?_⟩;refine⟨.none,ao,.val _,hR.list hu ho ?_,h⟩;rw[IP];exact hvs.append (.cons h2 .nil)
end
end
section
structure TopG (Γ:Cx):Prop where
 T:∃p loose,Top p loose Γ.mean Γ.mg Γ.mb Γ.h0
 X:(Mine.Internal.hd.heap_1 Γ.w.params).In Γ.h0
 C:∀t∈Γ.tabs,CodeHd Γ.h0 t.1 t.2.1
noncomputable abbrev Cx.dn (Γ:Cx):Cx:={Γ with k:=Γ.k-1,pa:=fun _=>True}
section
theorem R.dn (h:R Γ aa s):R Γ.dn aa s:=⟨h.keep,h.ow,h.nd,h.ap,h.gens,h.os,h.tb,h.fn⟩
theorem R.up (h:R Γ.dn aa s):R Γ aa s:=⟨h.keep,h.ow,h.nd,h.ap,h.gens,h.os,h.tb,h.fn⟩
theorem TopG.dn (h:TopG Γ):TopG Γ.dn:=⟨h.T,h.X,h.C⟩
theorem gJ.in1 (h:gJ Γ A) (hk:0<Γ.k):gJ Γ.dn A.in1:=by
 obtain⟨h1,h2,h3,_⟩:=h;refine⟨h1,?_,?_,trivial⟩
 ·show A.depth+(Γ.k-1)<700;omega
 ·show A.units+1+16*(Γ.k-1)<5000;omega
theorem gJ.deeper (h:gJ Γ A) (hk:0<Γ.k):gJ Γ.dn (A.deeper env):=by
 obtain⟨h1,h2,h3,_⟩:=h;refine⟨h1,?_,?_,trivial⟩
 ·show A.depth+1+(Γ.k-1)<700;omega
 ·show A.units+3+16*(Γ.k-1)<5000;omega
theorem gJ.room (h:gJ Γ A):A.depth<recursionLimit:=by
 have:=h.2.1;show A.depth<1000;omega
theorem TopG.nolimit (h:TopG Γ) (hR:R Γ aa s):s.heap.NoLimit:=by
 obtain⟨p,l,T⟩:=h.T;exact T.nolimit.keeps hR.keep
structure EnvOk (env:Env):Prop where
 g:env.globals=mainGlobals
 b:env.builtins=builtinsNs
theorem w_global {x:Str} (hk:Kd env x .globalImplicit) (he:EnvOk env) (e:nsIn (Mine.Internal.hd.heap_1 Γ.w.params) mainGlobals x=some (some v)) (hT:TopG Γ) (h:K (.val v) aa):WE Γ env (.Name x pos) aa K:=by
 intro A s hA hR;obtain⟨p,l,T⟩:=hT.T;refine Calls.Name_function_global hk.f hk.k (Calls.loadGlobal_global (by rw[he.g];exact T.g.keeps hR.keep) (mg_of hT.X T.g e) ⟨_,aa,.val _,hR,h⟩) hk.d
theorem w_builtin {x:Str} (hk:Kd env x .globalImplicit) (he:EnvOk env) (e:nsIn (Mine.Internal.hd.heap_1 Γ.w.params) mainGlobals x=some none) (hv:bootBuiltins x=some v) (hn:(x==("__name__":Str))=false) (hT:TopG Γ) (h:K (.val v) aa):
 WE Γ env (.Name x pos) aa K:=by
 intro A s hA hR;obtain⟨p,l,T⟩:=hT.T;refine Calls.Name_function_global hk.f hk.k (Calls.loadGlobal_builtin (by rw[he.g];exact T.g.keeps hR.keep) (mg_none_of hT.X T.g e) (by rw[he.b];exact T.b.keeps hR.keep) ((T.builtins x (fun q=>by rw[q]at hn;simp at hn)).trans hv) ⟨_,aa,.val _,hR,h⟩) hk.d
noncomputable def WBinds (Γ:Cx) (env:Env):List (Str×AV)->Led->(Led->Prop)->Prop
 |[],aa,K=>K aa
 |(x,a)::r,aa,K=>WSt Γ env x a aa fun o=>WBinds Γ env r o K
noncomputable def a_:List (Str×NameKind)->List Str
 |[]=>[]
 |(n,k)::r=>a_ r++(if k== .cell then [n]else [])
theorem wQ:a_ []=[]:=rfl
theorem iN {n:Str} {k:NameKind} {r:List (Str×NameKind)}:a_ ((n,k)::r)=a_ r++(if k== .cell then [n]else []):=rfl
noncomputable abbrev cJ (cs:List (Str×Addr)):Led:=cs.map fun p=>cN p.2
theorem kz (f:Str×NameKind->List (Str×Addr)->Sem (ForInStep (List (Str×Addr)))) (hf:∀name kind cells,f (name,kind) cells=if kind== .cell then(do let a ←alloc {cls:= .type "cell",data:= .cell none};pure (.yield ((name,a)::cells)))else pure (.yield cells)) {K:List (Str×Addr)->Led->Prop}:∀(names:List (Str×NameKind)) (acc:List (Str×Addr)) (aa:Led),
 (∀cs,cs.map (·.1)=a_ names->K (cs++acc) (cJ cs++aa))->W Eq Γ (forIn names acc f) aa K:=fun z_=>by
 induction z_ with
 |nil=>
  intro acc aa h;rw[Gy];exact W.pure rfl (h [] rfl)
 |cons p r ih=>
  intro acc aa h;obtain⟨name,kind⟩:=p;rw[Gb,hf];by_cases hk:(kind== .cell)=true
  ·rw[if_pos hk]
   intro A s hA hR;refine wpAny_bind (wpAny_bind (wpAny_alloc (wpAny_pure ?_)));refine ih ((name,s.heap.objs.size)::acc) (cN s.heap.objs.size::aa) (fun cs hcs=> ?_) A _ hA (hR.push (t:=s.toks) ⟨_,rfl⟩ AH);have:=h (cs++[(name,s.heap.objs.size)]) (by rw[Ez,hcs,iN,if_pos hk];rfl);simpa[cJ]using this
  ·rw[if_neg hk]
   intro A s hA hR;refine wpAny_bind (wpAny_pure ?_);refine ih acc aa (fun cs hcs=> ?_) A _ hA hR;exact h cs (by rw[hcs,iN,if_neg hk,EV])
theorem ab.new (hn:(loc.map (·.1)).Nodup) (h0:∀p∈loc,p.2=none) (c:Value):ab loc {cls:=c,data:= .dict #[]}:=by
 refine⟨#[],0,fun _=>none,rfl,?_,fun _=>rfl,hn,fun x a hm=> ?_⟩
 ·intro e he;simp at he
 ·have:=h0 _ hm;cases this
theorem t0 (env:Env) {K:Led->Prop} (f:Str×Value->PUnit->Sem (ForInStep PUnit)) (hf:∀x u,f x u=(do storeName env x.1 x.2;Pure.pure (.yield ⟨⟩))):
 ∀(abs:List (Str×AV)) (bs:List (Str×Value)) (aa:Led),All2 KR abs bs->WBinds Γ env abs aa K->WU Γ (forIn bs PUnit.unit f) aa K:=fun abs bs aa h1=>by
 induction h1 generalizing aa with
 |nil=>intro h;rw[Gy];exact W.pure (b:=()) trivial h
 | @cons p q r bs hr hrs ih=>
   intro h;obtain⟨y,v⟩:=q;rw[Gb,hf];intro A s hA hR;refine wpAny_bind (wpAny_bind (W.go (hr.1▸h v hr.2) hA hR fun _ s' _ o _ hR' h'=> ?_));exact wpAny_pure (ih o h' A s' hA hR')
theorem eG {globals:Addr} {closure:List (Str×Addr)} {abs:List (Str×AV)} {binds:List (Str×Value)} {qual:Str} {func:Option Addr} {code:Value} {builtins:Addr} {K:Env->Led->Prop} (hb:All2 KR abs binds) (hn:(loc.map (·.1)).Nodup) (h0:∀p∈loc,p.2=none) (h:∀L cs,cs.map (·.1)=a_ scope.names->WBinds Γ {scope,locals:=L,globals,cells:=cs++closure,qual,func,code,frame:=some L,builtins} abs (cJ cs++(L,ab loc)::aa)
 (K {scope,locals:=L,globals,cells:=cs++closure,qual,func,code,frame:=some L,builtins})):
 W Eq Γ (newFunctionEnv scope globals closure binds qual func code none builtins) aa K:=by
 simp only[newFunctionEnv,Option.isSome_none,E1,if_false];intro A s hA hR;refine wpAny_bind (wpAny_alloc ?_);have hR1:=hR.push (t:=s.toks) (P:=ab loc) (o:={cls:= .type "frame",data:= .dict #[]}) (ab.new hn h0 _) mo
 refine wpAny_bind (W.goE (kz (K:=fun cs o=>WBinds Γ {scope,locals:=s.heap.objs.size,globals,cells:=cs,qual,func,code,frame:=some s.heap.objs.size,builtins} abs o (K {scope,locals:=s.heap.objs.size,globals,cells:=cs,qual,func,code,frame:=some s.heap.objs.size,builtins})) _ (fun name kind cells=>by cases kind<;>rfl) _ _ _ (fun cs hcs=>h s.heap.objs.size cs hcs)) hA hR1 fun cells' s' o1 hR' h'=> ?_);refine wpAny_bind (W.go (t0 _ _ (fun x u=>rfl) abs binds o1 hb h') hA hR' fun _ s'' _ o2 _ hR'' h''=> ?_);exact wpAny_pure ⟨_,o2,rfl,hR'',h''⟩
noncomputable abbrev AF.val:AF->AV
 | .ret a=>a
 |_=> .none
noncomputable abbrev ah (fd:FuncData) (f L:Addr) (cells:List (Str×Addr)):Env:=
 {scope:=fd.scope,locals:=L,globals:=fd.globals,cells:=cells,qual:=fd.qualname++".<locals>.",func:=some f,code:=fd.code,frame:=some L,builtins:=fd.builtins}
theorem cf:(ah fd f L cs).cells =cs:=rfl
theorem lf:(ah fd f L cs).locals =L:=rfl
noncomputable def WB (Γ:Cx) (fd:FuncData) (as:List AV) (ks:List (Str×AV)) (aa:Led) (K:List (Str×AV)->Led->Prop):Prop:=
 ∀vs kv,VRs as vs->All2 KR ks kv->W (All2 KR) Γ (bindArgs fd ⟨vs,kv⟩) aa K
theorem bA (hk:0<Γ.k) (hT:TopG Γ) (hf:∀s,R Γ aa s->(∃o,s.heap.get? f=some o∧o.data= .func fd)∧s.heap.CodeRec fd.code fd.qualname) (hbody:fd.body= .stmts body) (hn:(loc.map (·.1)).Nodup) (h0:∀p∈loc,p.2=none) (h:WB Γ.dn fd as ks aa fun abs o=>∀L cs,cs.map (·.1)=a_ fd.scope.names->WBinds Γ.dn (ah fd f L (cs++fd.closure)) abs (cJ cs++(L,ab loc)::o)
 fun o1=>WS Γ.dn (ah fd f L (cs++fd.closure)) body o1 fun fl o2=>∃o3,Less o3 o2∧K fl.val o3) (hco:fd.scope.isCoroutine=false:=by rfl) (hgen:fd.scope.isGenerator=false:=by rfl):ai Γ (.ref f) as ks aa K:=by
 intro vs kv hvs hkv A s hA hR;obtain⟨⟨o,ho,hd⟩,hcd⟩:=hf s hR;refine wpAny_call (codeAny_call_function hA.room ho hd hco hgen hbody hcd ?_);refine W.go (h vs kv hvs hkv) (hA.in1 hk) hR.dn fun binds s1 abs o1 hbs hR1 h1=> ?_;refine W.goE (eG (Γ:=Γ.dn) (K:=fun env o1=>WS Γ.dn env body o1 fun fl o2=>∃o3,Less o3 o2∧K fl.val o3) hbs hn h0 h1) (hA.in1 hk) hR1 fun env' s2 o1 hR2 h2=> ?_;refine⟨hT.nolimit hR2.up,codeAny_func (W.go h2 (hA.deeper hk) hR2 fun fl s3 fl' o2 hfl hR3 hz=> ?_)⟩;obtain⟨o3,hs,h3⟩:=hz;have hR4:=(hR3.up).sub hs;cases hfl with
 |next=>exact⟨.none,o3,.val _,hR4,h3⟩
 |brk=>exact⟨.none,o3,.val _,hR4,h3⟩
 |cont=>exact⟨.none,o3,.val _,hR4,h3⟩
 |ret hv=>exact⟨_,o3,hv,hR4,h3⟩
theorem cZ {body:Expr} (hk:0<Γ.k) (hT:TopG Γ) (hf:∀s,R Γ aa s->(∃o,s.heap.get? f=some o∧o.data= .func fd)∧s.heap.CodeRec fd.code fd.qualname) (hbody:fd.body= .expr body) (hn:(loc.map (·.1)).Nodup) (h0:∀p∈loc,p.2=none) (h:WB Γ.dn fd as ks aa fun abs o=>∀L cs,cs.map (·.1)=a_ fd.scope.names->WBinds Γ.dn (ah fd f L (cs++fd.closure)) abs (cJ cs++(L,ab loc)::o)
 fun o1=>WE Γ.dn (ah fd f L (cs++fd.closure)) body o1 fun a o2=>∃o3,Less o3 o2∧K a o3) (hco:fd.scope.isCoroutine=false:=by rfl) (hgen:fd.scope.isGenerator=false:=by rfl):ai Γ (.ref f) as ks aa K:=by
 intro vs kv hvs hkv A s hA hR;obtain⟨⟨o,ho,hd⟩,hcd⟩:=hf s hR;refine wpAny_call (kla_callFunE hA.room ho hd hco hgen hbody hcd ?_);refine W.go (h vs kv hvs hkv) (hA.in1 hk) hR.dn fun binds s1 abs o1 hbs hR1 h1=> ?_;refine W.goE (eG (Γ:=Γ.dn) (K:=fun env o1=>WE Γ.dn env body o1 fun a o2=>∃o3,Less o3 o2∧K a o3) hbs hn h0 h1) (hA.in1 hk) hR1 fun env' s2 o1 hR2 h2=> ?_;refine⟨hT.nolimit hR2.up,kla_codeExpr (W.go h2 (hA.deeper hk) hR2 fun v s3 a o2 hv hR3 hz=> ?_)⟩;obtain⟨o3,hs,h3⟩:=hz;exact⟨_,o3,hv,(hR3.up).sub hs,h3⟩
theorem WB.of_eq {abs:List (Str×AV)} {K:List (Str×AV)->Led->Prop} (h:∀vs kv,VRs as vs->All2 KR ks kv->∃binds,All2 KR abs binds∧bindArgs fd ⟨vs,kv⟩=pure binds) (hK:K abs aa):WB Γ fd as ks aa K:=
 fun vs kv h1 h2=>let⟨_,hb,e⟩:=h vs kv h1 h2;W.of_eq e (W.pure hb hK)
theorem WB.of_peek {abs:List (Str×AV)} {K:List (Str×AV)->Led->Prop} (hT:TopG Γ) (h:∀vs kv,VRs as vs->All2 KR ks kv->∃binds,All2 KR abs binds∧peek (hd.heap_1 Γ.w.params) ⟨PR,Γ.w.params⟩ (bindArgs fd ⟨vs,kv⟩)=some binds) (hK:K abs aa):WB Γ fd as ks aa K:=by
 intro vs kv h1 h2 A s hA hR;obtain⟨b,hb,e⟩:=h vs kv h1 h2;exact(Looks.of_peek (M:=model PR Γ.w) (hT.X.keeps hR.keep) e).here ⟨abs,aa,hb,hR,hK⟩
theorem iY {G:List β->Prop} {vs:List β} (f:G []) (h:All2 r [] vs):G vs:=by
 cases h;exact f
theorem pH {G:List β->Prop} {a:α} {as:List α} {vs:List β} (f:∀v vs,r a v->All2 r as vs->G (v::vs)) (h:All2 r (a::as) vs):G vs:=by
 cases h with
 |cons h t=>exact f _ _ h t
theorem pI {G:List β->Prop} {a1:α} {vs:List β} (f:∀v1,r a1 v1->G [v1]) (h:All2 r [a1] vs):G vs:=pH (fun v vs h t=>iY (G:=fun vs=>G (v::vs)) (f v h) t) h
theorem qW {G:List β->Prop} {a1 a2:α} {vs:List β} (f:∀v1 v2,r a1 v1->r a2 v2->G [v1,v2]) (h:All2 r [a1,a2] vs):G vs:=pH (fun v vs h t=>pI (G:=fun vs=>G (v::vs)) (fun v2 h2=>f v v2 h h2) t) h
theorem qX {G:List β->Prop} {a1 a2 a3:α} {vs:List β} (f:∀v1 v2 v3,r a1 v1->r a2 v2->r a3 v3->G [v1,v2,v3]) (h:All2 r [a1,a2,a3] vs):G vs:=pH (fun v vs h t=>qW (G:=fun vs=>G (v::vs)) (fun v2 v3 h2 h3=>f v v2 v3 h h2 h3) t) h
theorem xc {G:List β->Prop} {a1 a2 a3 a4:α} {vs:List β} (f:∀v1 v2 v3 v4,r a1 v1->r a2 v2->r a3 v3->r a4 v4->G [v1,v2,v3,v4]) (h:All2 r [a1,a2,a3,a4] vs):G vs:=pH (fun v vs h t=>qX (G:=fun vs=>G (v::vs)) (fun v2 v3 v4 h2 h3 h4=>f v v2 v3 v4 h h2 h3 h4) t) h
theorem Cw {G:List β->Prop} {a1 a2 a3 a4 a5:α} {vs:List β} (f:∀v1 v2 v3 v4 v5,r a1 v1->r a2 v2->r a3 v3->r a4 v4->r a5 v5->G [v1,v2,v3,v4,v5]) (h:All2 r [a1,a2,a3,a4,a5] vs):G vs:=pH (fun v vs h t=>xc (G:=fun vs=>G (v::vs)) (fun v2 v3 v4 v5 h2 h3 h4 h5=>f v v2 v3 v4 v5 h h2 h3 h4 h5) t) h
theorem Cy {G:List β->Prop} {a1 a2 a3 a4 a5 a6:α} {vs:List β} (f:∀v1 v2 v3 v4 v5 v6,r a1 v1->r a2 v2->r a3 v3->r a4 v4->r a5 v5->r a6 v6->G [v1,v2,v3,v4,v5,v6]) (h:All2 r [a1,a2,a3,a4,a5,a6] vs):G vs:=pH (fun v vs h t=>Cw (G:=fun vs=>G (v::vs)) (fun v2 v3 v4 v5 v6 h2 h3 h4 h5 h6=>f v v2 v3 v4 v5 v6 h h2 h3 h4 h5 h6) t) h
theorem dj {x:Str} {a:AV} (h:VR a v):KR (x,a) (x,v):=⟨rfl,h⟩
theorem WB.p1 {n1:Str} {a1:AV} {K:List (Str×AV)->Led->Prop} (hT:TopG Γ) (hp:∀v1,peek (hd.heap_1 Γ.w.params) ⟨PR,Γ.w.params⟩ (bindArgs fd ⟨[v1],[]⟩)=some ((n1,v1)::exv)) (hx:All2 KR ex exv) (hK:K ((n1,a1)::ex) aa):WB Γ fd [a1] [] aa K:=WB.of_peek hT (fun vs kv h1 h2=>iY (G:=fun kv=>∃binds,All2 KR _ binds∧peek (hd.heap_1 Γ.w.params) ⟨PR,Γ.w.params⟩ (bindArgs fd ⟨vs,kv⟩)=some binds) (pI (G:=fun vs=>∃binds,All2 KR _ binds∧peek (hd.heap_1 Γ.w.params) ⟨PR,Γ.w.params⟩ (bindArgs fd ⟨vs,[]⟩)=some binds) (fun v1 e1=>⟨_,.cons (dj e1) (hx),hp v1⟩) h1) h2) hK
theorem WB.p2 {n1 n2:Str} {a1 a2:AV} {K:List (Str×AV)->Led->Prop} (hT:TopG Γ) (hp:∀v1 v2,peek (hd.heap_1 Γ.w.params) ⟨PR,Γ.w.params⟩ (bindArgs fd ⟨[v1,v2],[]⟩)=some ((n1,v1)::(n2,v2)::exv)) (hx:All2 KR ex exv) (hK:K ((n1,a1)::(n2,a2)::ex) aa):WB Γ fd [a1,a2] [] aa K:=WB.of_peek hT (fun vs kv h1 h2=>iY (G:=fun kv=>∃binds,All2 KR _ binds∧peek (hd.heap_1 Γ.w.params) ⟨PR,Γ.w.params⟩ (bindArgs fd ⟨vs,kv⟩)=some binds) (qW (G:=fun vs=>∃binds,All2 KR _ binds∧peek (hd.heap_1 Γ.w.params) ⟨PR,Γ.w.params⟩ (bindArgs fd ⟨vs,[]⟩)=some binds) (fun v1 v2 e1 e2=>⟨_,.cons (dj e1) (.cons (dj e2) (hx)),hp v1 v2⟩) h1) h2) hK
theorem WB.p3 {n1 n2 n3:Str} {a1 a2 a3:AV} {K:List (Str×AV)->Led->Prop} (hT:TopG Γ) (hp:∀v1 v2 v3,peek (hd.heap_1 Γ.w.params) ⟨PR,Γ.w.params⟩ (bindArgs fd ⟨[v1,v2,v3],[]⟩)=some ((n1,v1)::(n2,v2)::(n3,v3)::exv)) (hx:All2 KR ex exv) (hK:K ((n1,a1)::(n2,a2)::(n3,a3)::ex) aa):WB Γ fd [a1,a2,a3] [] aa K:=WB.of_peek hT (fun vs kv h1 h2=>iY (G:=fun kv=>∃binds,All2 KR _ binds∧peek (hd.heap_1 Γ.w.params) ⟨PR,Γ.w.params⟩ (bindArgs fd ⟨vs,kv⟩)=some binds) (qX (G:=fun vs=>∃binds,All2 KR _ binds∧peek (hd.heap_1 Γ.w.params) ⟨PR,Γ.w.params⟩ (bindArgs fd ⟨vs,[]⟩)=some binds) (fun v1 v2 v3 e1 e2 e3=>⟨_,.cons (dj e1) (.cons (dj e2) (.cons (dj e3) (hx))),hp v1 v2 v3⟩) h1) h2) hK
theorem WB.p4 {n1 n2 n3 n4:Str} {a1 a2 a3 a4:AV} {K:List (Str×AV)->Led->Prop} (hT:TopG Γ) (hp:∀v1 v2 v3 v4,peek (hd.heap_1 Γ.w.params) ⟨PR,Γ.w.params⟩ (bindArgs fd ⟨[v1,v2,v3,v4],[]⟩)=some ((n1,v1)::(n2,v2)::(n3,v3)::(n4,v4)::exv)) (hx:All2 KR ex exv) (hK:K ((n1,a1)::(n2,a2)::(n3,a3)::(n4,a4)::ex) aa):WB Γ fd [a1,a2,a3,a4] [] aa K:=WB.of_peek hT (fun vs kv h1 h2=>iY (G:=fun kv=>∃binds,All2 KR _ binds∧peek (hd.heap_1 Γ.w.params) ⟨PR,Γ.w.params⟩ (bindArgs fd ⟨vs,kv⟩)=some binds) (xc (G:=fun vs=>∃binds,All2 KR _ binds∧peek (hd.heap_1 Γ.w.params) ⟨PR,Γ.w.params⟩ (bindArgs fd ⟨vs,[]⟩)=some binds) (fun v1 v2 v3 v4 e1 e2 e3 e4=>⟨_,.cons (dj e1) (.cons (dj e2) (.cons (dj e3) (.cons (dj e4) (hx)))),hp v1 v2 v3 v4⟩) h1) h2) hK
theorem WB.p6 {n1 n2 n3 n4 n5 n6:Str} {a1 a2 a3 a4 a5 a6:AV} {K:List (Str×AV)->Led->Prop} (hT:TopG Γ) (hp:∀v1 v2 v3 v4 v5 v6,peek (hd.heap_1 Γ.w.params) ⟨PR,Γ.w.params⟩ (bindArgs fd ⟨[v1,v2,v3,v4,v5,v6],[]⟩)=some ((n1,v1)::(n2,v2)::(n3,v3)::(n4,v4)::(n5,v5)::(n6,v6)::exv)) (hx:All2 KR ex exv) (hK:K ((n1,a1)::(n2,a2)::(n3,a3)::(n4,a4)::(n5,a5)::(n6,a6)::ex) aa):WB Γ fd [a1,a2,a3,a4,a5,a6] [] aa K:=WB.of_peek hT (fun vs kv h1 h2=>iY (G:=fun kv=>∃binds,All2 KR _ binds∧peek (hd.heap_1 Γ.w.params) ⟨PR,Γ.w.params⟩ (bindArgs fd ⟨vs,kv⟩)=some binds) (Cy (G:=fun vs=>∃binds,All2 KR _ binds∧peek (hd.heap_1 Γ.w.params) ⟨PR,Γ.w.params⟩ (bindArgs fd ⟨vs,[]⟩)=some binds) (fun v1 v2 v3 v4 v5 v6 e1 e2 e3 e4 e5 e6=>⟨_,.cons (dj e1) (.cons (dj e2) (.cons (dj e3) (.cons (dj e4) (.cons (dj e5) (.cons (dj e6) (hx)))))),hp v1 v2 v3 v4 v5 v6⟩) h1) h2) hK
theorem WB.q0 {K:List (Str×AV)->Led->Prop} (hp:bindArgs fd ⟨[],[]⟩=pure (exv)) (hx:All2 KR ex exv) (hK:K (ex) aa):WB Γ fd [] [] aa K:=WB.of_eq (fun vs kv h1 h2=>iY (G:=fun kv=>∃binds,All2 KR _ binds∧bindArgs fd ⟨vs,kv⟩=pure binds) (iY (G:=fun vs=>∃binds,All2 KR _ binds∧bindArgs fd ⟨vs,[]⟩=pure binds) ⟨_,hx,hp⟩ h1) h2) hK
theorem WB.q1 {n1:Str} {a1:AV} {K:List (Str×AV)->Led->Prop} (hp:∀v1,bindArgs fd ⟨[v1],[]⟩=pure ((n1,v1)::exv)) (hx:All2 KR ex exv) (hK:K ((n1,a1)::ex) aa):WB Γ fd [a1] [] aa K:=WB.of_eq (fun vs kv h1 h2=>iY (G:=fun kv=>∃binds,All2 KR _ binds∧bindArgs fd ⟨vs,kv⟩=pure binds) (pI (G:=fun vs=>∃binds,All2 KR _ binds∧bindArgs fd ⟨vs,[]⟩=pure binds) (fun v1 e1=>⟨_,.cons (dj e1) (hx),hp v1⟩) h1) h2) hK
theorem WB.q2 {n1 n2:Str} {a1 a2:AV} {K:List (Str×AV)->Led->Prop} (hp:∀v1 v2,bindArgs fd ⟨[v1,v2],[]⟩=pure ((n1,v1)::(n2,v2)::exv)) (hx:All2 KR ex exv) (hK:K ((n1,a1)::(n2,a2)::ex) aa):WB Γ fd [a1,a2] [] aa K:=WB.of_eq (fun vs kv h1 h2=>iY (G:=fun kv=>∃binds,All2 KR _ binds∧bindArgs fd ⟨vs,kv⟩=pure binds) (qW (G:=fun vs=>∃binds,All2 KR _ binds∧bindArgs fd ⟨vs,[]⟩=pure binds) (fun v1 v2 e1 e2=>⟨_,.cons (dj e1) (.cons (dj e2) (hx)),hp v1 v2⟩) h1) h2) hK
theorem WB.q3 {n1 n2 n3:Str} {a1 a2 a3:AV} {K:List (Str×AV)->Led->Prop} (hp:∀v1 v2 v3,bindArgs fd ⟨[v1,v2,v3],[]⟩=pure ((n1,v1)::(n2,v2)::(n3,v3)::exv)) (hx:All2 KR ex exv) (hK:K ((n1,a1)::(n2,a2)::(n3,a3)::ex) aa):WB Γ fd [a1,a2,a3] [] aa K:=WB.of_eq (fun vs kv h1 h2=>iY (G:=fun kv=>∃binds,All2 KR _ binds∧bindArgs fd ⟨vs,kv⟩=pure binds) (qX (G:=fun vs=>∃binds,All2 KR _ binds∧bindArgs fd ⟨vs,[]⟩=pure binds) (fun v1 v2 v3 e1 e2 e3=>⟨_,.cons (dj e1) (.cons (dj e2) (.cons (dj e3) (hx))),hp v1 v2 v3⟩) h1) h2) hK
theorem WB.k2 {n1 n2:Str} {a1 a2:AV} {m:Str} {b:AV} {exv:Value->List (Str×Value)} {K:List (Str×AV)->Led->Prop} (hT:TopG Γ) (hp:∀v1 v2 w,peek (hd.heap_1 Γ.w.params) ⟨PR,Γ.w.params⟩ (bindArgs fd ⟨[v1,v2],[(m,w)]⟩)=some ((n1,v1)::(n2,v2)::exv w)) (hx:∀w,VR b w->All2 KR ex (exv w)) (hK:K ((n1,a1)::(n2,a2)::ex) aa):WB Γ fd [a1,a2] [(m,b)] aa K:=WB.of_peek hT (fun vs kv h1 h2=>pI (G:=fun kv=>∃binds,All2 KR _ binds∧peek _ _ (bindArgs fd ⟨vs,kv⟩)=some binds) (fun w hw=>qW (G:=fun vs=>∃binds,All2 KR _ binds∧peek _ _ (bindArgs fd ⟨vs,[w]⟩)=some binds) (fun v1 v2 e1 e2=>by obtain⟨_,w⟩:=w;obtain⟨rfl,hw⟩:=hw;exact⟨_,.cons (dj e1) (.cons (dj e2) (hx w hw)),hp v1 v2 w⟩) h1) h2) hK
theorem WB.k3 {n1 n2 n3:Str} {a1 a2 a3:AV} {m:Str} {b:AV} {exv:Value->List (Str×Value)} {K:List (Str×AV)->Led->Prop} (hT:TopG Γ) (hp:∀v1 v2 v3 w,peek (hd.heap_1 Γ.w.params) ⟨PR,Γ.w.params⟩ (bindArgs fd ⟨[v1,v2,v3],[(m,w)]⟩)=some ((n1,v1)::(n2,v2)::(n3,v3)::exv w)) (hx:∀w,VR b w->All2 KR ex (exv w)) (hK:K ((n1,a1)::(n2,a2)::(n3,a3)::ex) aa):WB Γ fd [a1,a2,a3] [(m,b)] aa K:=WB.of_peek hT (fun vs kv h1 h2=>pI (G:=fun kv=>∃binds,All2 KR _ binds∧peek _ _ (bindArgs fd ⟨vs,kv⟩)=some binds) (fun w hw=>qX (G:=fun vs=>∃binds,All2 KR _ binds∧peek _ _ (bindArgs fd ⟨vs,[w]⟩)=some binds) (fun v1 v2 v3 e1 e2 e3=>by obtain⟨_,w⟩:=w;obtain⟨rfl,hw⟩:=hw;exact⟨_,.cons (dj e1) (.cons (dj e2) (.cons (dj e3) (hx w hw))),hp v1 v2 v3 w⟩) h1) h2) hK
theorem WB.k4 {n1 n2 n3 n4:Str} {a1 a2 a3 a4:AV} {m:Str} {b:AV} {exv:Value->List (Str×Value)} {K:List (Str×AV)->Led->Prop} (hT:TopG Γ) (hp:∀v1 v2 v3 v4 w,peek (hd.heap_1 Γ.w.params) ⟨PR,Γ.w.params⟩ (bindArgs fd ⟨[v1,v2,v3,v4],[(m,w)]⟩)=some ((n1,v1)::(n2,v2)::(n3,v3)::(n4,v4)::exv w)) (hx:∀w,VR b w->All2 KR ex (exv w)) (hK:K ((n1,a1)::(n2,a2)::(n3,a3)::(n4,a4)::ex) aa):WB Γ fd [a1,a2,a3,a4] [(m,b)] aa K:=WB.of_peek hT (fun vs kv h1 h2=>pI (G:=fun kv=>∃binds,All2 KR _ binds∧peek _ _ (bindArgs fd ⟨vs,kv⟩)=some binds) (fun w hw=>xc (G:=fun vs=>∃binds,All2 KR _ binds∧peek _ _ (bindArgs fd ⟨vs,[w]⟩)=some binds) (fun v1 v2 v3 v4 e1 e2 e3 e4=>by obtain⟨_,w⟩:=w;obtain⟨rfl,hw⟩:=hw;exact⟨_,.cons (dj e1) (.cons (dj e2) (.cons (dj e3) (.cons (dj e4) (hx w hw)))),hp v1 v2 v3 v4 w⟩) h1) h2) hK
theorem bF {l:Loc} (h:l.all (·.2.isNone)=true):∀p∈l,p.2=none:=fun p hp=>by
 have:=HM.mp h p hp;exact Option.isNone_iff_eq_none.mp this
end
end
section
theorem qY {ps:Array Value} {q:Str} {u:Tok} (ht:TriplesOk ps.toList) (e:ps[1]? =some (.str q u)):False:=by
 rcases ps with⟨_|⟨x,_|⟨y,r⟩⟩⟩
 ·cases e
 ·cases e
 ·cases (Option.some.inj (show some y=some (.str q u)from e))
  cases x<;>exact ht
theorem fo {P:Addr} {ps:Array Value} {cv:Value} {q:Str} (x:h.CodeRec cv q) (hP:h.get? P=some (tabObj ps)) (ht:TriplesOk ps.toList) (hx:Heap.ExtBut P h h'):h'.CodeRec cv q:=by
 obtain⟨c,o,vs,t,e1,e2,e3,e4⟩:=x;refine⟨c,o,vs,t,e1,hx _ _ (fun e=> ?_) e2,e3,e4⟩;subst e;rw[hP]at e2;cases e2;cases e3;exact(qY ht e4).elim
theorem iZ {pos':Pos} {c cv:Value} (l:List Value) (h:TriplesOk l) (e:codeAmong pos' (l++[rawInt pos.line,rawInt pos.col,c])=some cv):codeAmong pos' l=some cv∨(cv=c∧tU pos'=tU pos):=by
 fun_induction TriplesOk l with
 |case1=>
  simp only[Ff,codeAmong,rawInt]at e;split at e
  ·rename_i hc
   rw[GS,beq_iff_eq,beq_iff_eq]at hc;refine .inr ⟨(Option.some.inj e).symm,?_⟩;unfold tU;rw[show pos'.line=pos.line from by have:=hc.1;omega,show pos'.col=pos.col from by have:=hc.2;omega]
  ·cases e
 |case2 a t b u x rest ih=>
  simp only[EX,codeAmong]at e⊢;split at e
  ·rename_i hc;rw[if_pos hc];exact .inl e
  ·rename_i hc;rw[if_neg hc];exact ih h e
 |case3 l h1 h2=>exact h.elim
section
theorem R.tabUpd (h:R Γ aa s) {c P:Addr} {q:Str} {ps:Array Value} {tk:Tok} (ht:(c,P,q)∈Γ.tabs) (hu:∀t∈Γ.tabs,t.2.1=P->t.2.2=q) (hP:s.heap.get? P=some (tabObj ps)) (hx:Heap.ExtBut P s.heap h') (hP':h'.get? P=some (tabObj (ps++ #[rawInt pos.line,rawInt pos.col,.ref c']))) (hc:h'.CodeRec (.ref c') q) (hge:s.heap.objs.size≤c') (hok:Γ.fl=true->tU pos=false):R Γ aa {s with heap:=h',toks:=tk}:=by
 obtain⟨hP0,hPk,ps₀,e0,htr,hall⟩:=h.tb _ ht;rw[hP]at e0;cases e0;have hne:∀p∈aa,p.1≠P:=fun p hp e=>hPk (e▸EE (f:=(·.1)) hp)
 have hck:c'∉keys aa:=fun hm=>by
  obtain⟨p,hp,e⟩:=EP.mp hm;obtain⟨o,ho,_⟩:=h.ow p hp;have:=Heap.lt_size ho;rw[e]at this;exact absurd (Ev this hge) (Fa _)
 refine⟨fun b o e=>hx _ _ (fun e'=> ?_) (h.keep b o e),fun p hp=> ?_,h.nd,h.ap,h.gens,h.os,fun t ht'=>⟨(h.tb t ht').1,?_⟩,fun p hp o e=> ?_⟩
 ·rw[e']at e;rw[show Γ.h0.get? P=none from hP0]at e;cases e
 ·obtain⟨o,ho,x⟩:=h.ow p hp
  exact⟨o,hx _ _ (hne p hp) ho,x⟩
 ·obtain⟨h1,ps1,h2,h3,h4⟩:=(h.tb t ht').2
  refine⟨h1,?_⟩;by_cases hq:t.2.1=P
  ·have hq2:=hu t ht' hq
   rw[hq]at h2;rw[hP]at h2;cases h2;refine⟨_,by rw[hq];exact hP',?_,fun pos' cv e=> ?_⟩
   ·have:=TriplesOk_snoc (pos.line) (pos.col) (.ref c') ps.toList htr
    simpa using this
   ·have e':codeAmong pos' (ps.toList++[rawInt pos.line,rawInt pos.col,.ref c'])=some cv:=by simpa using e
    rcases iZ _ htr e' with e2|⟨e2,e3⟩
    ·obtain⟨c2,r1,r2,r3,r4⟩:=h4 pos' cv e2
     exact⟨c2,r1,r2,fo r3 hP htr hx,r4⟩
    ·exact⟨c',e2,hck,by rw[e2,hq2];exact hc,fun hf=>e3.trans (hok hf)⟩
  ·refine⟨ps1,hx _ _ hq h2,h3,fun pos' cv e=> ?_⟩
   obtain⟨c2,r1,r2,r3,r4⟩:=h4 pos' cv e;exact⟨c2,r1,r2,fo r3 hP htr hx,r4⟩
 ·obtain⟨o1,ho1,_⟩:=h.ow p hp
  have z:=hx _ _ (hne p hp) ho1;have e':h'.get? p.1=some o:=e;rw[e']at z;cases z;intro fd hd;obtain⟨c2,r1,r2,r3⟩:=h.fn p hp _ ho1 fd hd;exact⟨c2,r1,r2,fo r3 hP htr hx⟩
noncomputable def bg (o:Obj):OP:=fun o'=>o'=o
theorem TopG.bat (hT:TopG Γ) (hR:R Γ aa s) {P:Addr} (hP:Γ.h0.get? P=none):mainGlobals≠P∧s.heap.BuiltinsAt Γ.mg P∧s.heap.Ns mainGlobals Γ.mg:=by
 obtain⟨p,l,T⟩:=hT.T;obtain⟨bm,ob,b1,b2,b3,b4,b5,b6⟩:=T.bmain
 have hgP:mainGlobals≠P:=fun q=>by
  obtain⟨o,es,ep,e,hd,_⟩:=T.g;rw[q,hP]at e;cases e
 have hbP:bm≠P:=fun q=>by rw[q,hP]at b3;cases b3
 have hbG:bm≠mainGlobals:=fun q=>by
  obtain⟨o,es,ep,e,hd,_⟩:=T.g;rw[q,e]at b3;cases b3;rw[hd]at b6;cases b6
 exact⟨hgP,⟨bm,ob,b1,b2,hbG,hbP,hR.keep _ _ b3,b4,b5,b6⟩,T.g.keeps hR.keep⟩
theorem pJ {params:Arguments} {body:Expr} {clos:List (Str×Addr)} {c P:Addr} {q name:Str} {line:Nat} (hT:TopG Γ) (ht:(c,P,q)∈Γ.tabs) (hu:∀t∈Γ.tabs,t.2.1=P->t.2.2=q) (hcode:env.code= .ref c) (hge:env.globals=mainGlobals) (hcl:closureFor scope env=pure clos) (hok:Γ.fl=true->tU pos=false) (h:∀f pm c' aq,K (.ref f) ((f,bg (kla_obj name q params body scope clos pm c' aq))::aa)):
 W VR Γ (makeFunction name q params (.expr body) scope env [] [] [] pos line) aa K:=by
 intro A s hA hR;obtain⟨hP0,hPk,ps,hP,htr,hall⟩:=hR.tb _ ht;have C:=(hT.C _ ht).keeps hR.keep;obtain⟨hgP,hb,hg⟩:=hT.bat hR hP0;cases hf:codeAmong pos ps.toList with
 |none=>
  refine kla_makeFunction hcl hge hg hcode C hP htr hf hgP hb fun c' aq h' tk hx hge' hlt hrec htb=> ?_;have hR1:=hR.tabUpd (pos:=pos) (tk:=tk) ht hu hP hx htb hrec hge' hok
  have hck:c'∉keys aa:=fun hm=>by
   obtain⟨p,hp,e⟩:=EP.mp hm;obtain⟨o,ho,_⟩:=hR.ow p hp;have:=Heap.lt_size ho;rw[e]at this;exact absurd (Ev this hge') (Fa _)
  refine⟨_,_,.val _,R.new (t:=tk) hR1 (h':=h'.push _) (a:=h'.objs.size) (P:=bg (kla_obj name q params body scope clos ((Γ.mg "__name__").getD .none) c' aq))
   (fun _ _ e=>Heap.get?_push_of_some _ e) (Heap.get?_push_size _ rfl) rfl (Heap.get?_none_of_le (EL _)) ?_ ?_,h _ _ _ _⟩
  ·intro fd e;cases e
   exact⟨c',rfl,hck,hrec.keeps fun _ _ e=>Heap.get?_push_of_some _ e⟩
  ·intro fd e e2;cases e;cases e2;exact absurd hlt (Fa _)
 |some cv=>
  obtain⟨c',rfl,hck,hrec,_⟩:=hall _ _ hf;refine kla_makeFunctionHit hcl hge hg hcode C hP htr hf hb fun aq h' tk hk hsz=> ?_;have hR1:=hR.grow (t:=tk) hk;obtain⟨c2,o2,vs2,t2,e2,e3,_⟩:=id hrec;cases e2
  refine⟨_,_,.val _,R.new (t:=tk) hR1 (h':=h'.push _) (a:=h'.objs.size) (P:=bg (kla_obj name q params body scope clos ((Γ.mg "__name__").getD .none) c' aq))
   (fun _ _ e=>Heap.get?_push_of_some _ e) (Heap.get?_push_size _ rfl) rfl (Heap.get?_none_of_le (EL _)) ?_ ?_,h _ _ _ _⟩
  ·intro fd e;cases e
   exact⟨c',rfl,hck,(hrec.keeps hk).keeps fun _ _ e=>Heap.get?_push_of_some _ e⟩
  ·intro fd e e4;cases e;cases e4
   exact absurd (Heap.lt_size (hk _ _ e3)) (Fa _)
theorem b7 {params:Arguments} {body:Expr} {clos:List (Str×Addr)} {c P:Addr} {q:Str} (hT:TopG Γ) (ht:(c,P,q)∈Γ.tabs) (hu:∀t∈Γ.tabs,t.2.1=P->t.2.2=q) (hcode:env.code= .ref c) (hge:env.globals=mainGlobals) (hq:env.qual++("<lambda>":Str)=q) (hdef:defaultsOf params env=([],[])) (hcl:closureFor scope env=pure clos) (h:∀f pm c' aq,K (.ref f) ((f,bg (kla_obj "<lambda>" q params body scope clos pm c' aq))::aa)) (hok:tU pos=false:=by kernel_rfl):WE Γ env (.Lambda params body scope pos) aa K:=by
 intro A s hA hR;refine kla_eval hdef ?_;rw[hq];exact pJ hT ht hu hcode hge hcl (fun _=>hok) h A s hA hR
noncomputable abbrev eT (name q:Str) (params:Arguments) (body:List Stmt) (scope:Scope) (clos:List (Str×Addr)) (doc pm:Value) (c':Addr) (aq:Value):Obj:=fnMade name q params body scope clos doc pm c' aq
theorem pK {params:Arguments} {clos:List (Str×Addr)} {c P:Addr} {q name:Str} {line:Nat} (hT:TopG Γ) (ht:(c,P,q)∈Γ.tabs) (hu:∀t∈Γ.tabs,t.2.1=P->t.2.2=q) (hcode:env.code= .ref c) (hge:env.globals=mainGlobals) (hcl:closureFor scope env=pure clos) (hok:Γ.fl=true->tU pos=false) (h:∀f doc pm c' aq,K (.ref f) ((f,bg (eT name q params body scope clos doc pm c' aq))::aa)):
 W VR Γ (makeFunction name q params (.stmts body) scope env [] [] [] pos line) aa K:=by
 intro A s hA hR;obtain⟨hP0,hPk,ps,hP,htr,hall⟩:=hR.tb _ ht;have C:=(hT.C _ ht).keeps hR.keep;obtain⟨hgP,hb,hg⟩:=hT.bat hR hP0;cases hf:codeAmong pos ps.toList with
 |none=>
  refine makeFunction_K hcl hge hg hcode C hP htr hf hgP hb fun c' aq doc h' tk hx hge' hlt hrec htb=> ?_;have hR1:=hR.tabUpd (pos:=pos) (tk:=tk) ht hu hP hx htb hrec hge' hok
  have hck:c'∉keys aa:=fun hm=>by
   obtain⟨p,hp,e⟩:=EP.mp hm;obtain⟨o,ho,_⟩:=hR.ow p hp;have:=Heap.lt_size ho;rw[e]at this;exact absurd (Ev this hge') (Fa _)
  refine⟨_,_,.val _,R.new (t:=tk) hR1 (h':=h'.push _) (a:=h'.objs.size) (P:=bg (eT name q params body scope clos doc ((Γ.mg "__name__").getD .none) c' aq))
   (fun _ _ e=>Heap.get?_push_of_some _ e) (Heap.get?_push_size _ rfl) rfl (Heap.get?_none_of_le (EL _)) ?_ ?_,h _ _ _ _ _⟩
  ·intro fd e;cases e
   exact⟨c',rfl,hck,hrec.keeps fun _ _ e=>Heap.get?_push_of_some _ e⟩
  ·intro fd e e2;cases e;cases e2;exact absurd hlt (Fa _)
 |some cv=>
  obtain⟨c',rfl,hck,hrec,_⟩:=hall _ _ hf;refine makeFunction_hit hcl hge hg hcode C hP htr hf hb fun aq doc h' tk hk hsz=> ?_;have hR1:=hR.grow (t:=tk) hk;obtain⟨c2,o2,vs2,t2,e2,e3,_⟩:=id hrec;cases e2
  refine⟨_,_,.val _,R.new (t:=tk) hR1 (h':=h'.push _) (a:=h'.objs.size) (P:=bg (eT name q params body scope clos doc ((Γ.mg "__name__").getD .none) c' aq))
   (fun _ _ e=>Heap.get?_push_of_some _ e) (Heap.get?_push_size _ rfl) rfl (Heap.get?_none_of_le (EL _)) ?_ ?_,h _ _ _ _ _⟩
  ·intro fd e;cases e
   exact⟨c',rfl,hck,(hrec.keeps hk).keeps fun _ _ e=>Heap.get?_push_of_some _ e⟩
  ·intro fd e e4;cases e;cases e4
   exact absurd (Heap.lt_size (hk _ _ e3)) (Fa _)
end
end
section
noncomputable abbrev Cx.at (Γ:Cx) (h:Heap):Cx:={Γ with h0:=h}
noncomputable def Sub (Γ:Cx) (h:Heap):Prop:=∀b o,Γ.h0.get? b=some o->h.get? b=some o
noncomputable abbrev dD (Γ:Cx):List Addr:=Γ.tabs.map (·.2.1)
section
theorem TopG.at (hT:TopG Γ) (hs:Sub Γ h):TopG (Γ.at h):=by
 obtain⟨p,l,T⟩:=hT.T;exact⟨⟨p,l,T.keeps hs⟩,hT.X.keeps hs,fun t ht=>(hT.C t ht).keeps hs⟩
noncomputable def rest (Γ:Cx) (aa:Led) (s:Shared):Heap:=hideAll s.heap (keys aa++dD Γ)
theorem fq {b:Addr} (e:s.heap.get? b=some o) (h1:b∉keys aa) (h2:b∉dD Γ):(rest Γ aa s).get? b=some o:=
 hideAll_get _ e fun hm=>(E3.mp hm).elim h1 h2
theorem R.sub_rest (hR:R Γ aa s):Sub Γ (rest Γ aa s):=fun b o e=>by
 refine fq (hR.keep b o e) (fun hm=> ?_) fun hm=> ?_
 ·obtain⟨p,hp,rfl⟩:=EP.mp hm
  rw[hR.ap p hp]at e;cases e
 ·obtain⟨t,ht,rfl⟩:=EP.mp hm
  rw[(hR.tb t ht).1]at e;cases e
theorem R.rest (hR:R Γ aa s):R (Γ.at (rest Γ aa s)) aa s:=
 ⟨fun b o e=>of_hideAll _ e,hR.ow,hR.nd,fun p hp=>hideAll_none _ (E3.mpr (.inl (EE (f:=(·.1)) hp))),hR.gens,hR.os,
   fun t ht=>⟨hideAll_none _ (E3.mpr (.inr (EE (f:=(·.2.1)) ht))),(hR.tb t ht).2⟩,hR.fn⟩
theorem R.back (hs:Sub Γ h) (hR:R (Γ.at h) aa s):R Γ aa s:=by
 have key:∀b,(Γ.at h).h0.get? b=none->Γ.h0.get? b=none:=fun b e=>by
  cases q:Γ.h0.get? b with
  |none=>rfl
  |some o=>rw[show(Γ.at h).h0.get? b=some o from hs _ _ q]at e;cases e
 exact⟨fun b o e=>hR.keep b o (hs b o e),hR.ow,hR.nd,fun p hp=>key _ (hR.ap p hp),hR.gens,hR.os,fun t ht=>⟨key _ (hR.tb t ht).1,(hR.tb t ht).2⟩,hR.fn⟩
theorem R.other (hR:R Γ aa s) {b:Addr} {t:Tok} (h1:b∉keys aa) (h2:b∉dD Γ) (h3:Γ.h0.get? b=none) (h4:∀q,¬s.heap.CodeRec (.ref b) q) (hx:Heap.ExtBut b s.heap h'):R Γ aa {s with heap:=h',toks:=t}:=by
 have hne:∀p∈aa,p.1≠b:=fun p hp e=>h1 (e▸EE (f:=(·.1)) hp)
 have hcr:∀cv q,s.heap.CodeRec cv q->h'.CodeRec cv q:=fun cv q x=>by
  obtain⟨c,o,vs,t,e1,e2,e3,e4⟩:=id x;refine⟨c,o,vs,t,e1,hx _ _ (fun e=> ?_) e2,e3,e4⟩;subst e;subst e1;exact h4 q x
 refine⟨fun c o e=>hx _ _ (fun q=> ?_) (hR.keep c o e),fun p hp=> ?_,hR.nd,hR.ap,hR.gens,hR.os,fun t ht=>⟨(hR.tb t ht).1,?_⟩,fun p hp o e=> ?_⟩
 ·rw[q,h3]at e;cases e
 ·obtain⟨o,ho,x⟩:=hR.ow p hp
  exact⟨o,hx _ _ (hne p hp) ho,x⟩
 ·obtain⟨q1,ps,q2,q3,q4⟩:=(hR.tb t ht).2
  refine⟨q1,ps,hx _ _ (fun e=>h2 (e▸EE (f:=(·.2.1)) ht)) q2,q3,fun pos cv e=> ?_⟩;obtain⟨c,r1,r2,r3,r4⟩:=q4 pos cv e;exact⟨c,r1,r2,hcr _ _ r3,r4⟩
 ·obtain⟨o1,ho1,_⟩:=hR.ow p hp
  have z:=hx _ _ (hne p hp) ho1;have e':h'.get? p.1=some o:=e;rw[e']at z;cases z;intro fd hd;obtain⟨c2,r1,r2,r3⟩:=hR.fn p hp _ ho1 fd hd;exact⟨c2,r1,r2,hcr _ _ r3⟩
end
inductive Item where
 |one (a:AV)
 |tup (as:List AV)
inductive ItemIs (aa:Led):Item->Value->Led->Prop
 |one {a:AV} {v:Value}:VR a v->ItemIs aa (.one a) v aa
 |tup (as:List AV) (t:Addr):ItemIs aa (.tup as) (.ref t) ((t,bV as)::aa)
noncomputable def ft:Item->Led->(AV->Led->Prop)->Prop
 | .one a,aa,K=>K a aa
 | .tup as,aa,K=>∀t,K (.ref t) ((t,bV as)::aa)
structure Apart (Γ:Cx) (aa:Led) (fp:List Addr) (h:Heap):Prop where
 key:∀b∈fp,b∉keys aa
 tab:∀b∈fp,b∉dD Γ
 old:∀b∈fp,Γ.h0.get? b=none
 live:∀b∈fp,∃o,h.get? b=some o
structure Itr (Γ:Cx) (tgt:Expr) (v:Value) (items:List Item) (need:Led->Prop) (fp:List Addr) (J:Nat->Heap->Prop):Prop where
 frame:∀i h h',J i h->(∀b∈fp,∀o,h.get? b=some o->h'.get? b=some o)->J i h'
 again:∀A s aa (Q:Value->Shared->Prop),R Γ aa s->J 0 s.heap->Q v s->wpAny (model PR Γ.w) A (pyIter v) Q (fun _ _=>False) s
 item:∀A s i it aa (Q:Value->Shared->Prop),gJ Γ A->R Γ aa s->need aa->Apart Γ aa fp s.heap->J i s.heap->items[i]? =some it->
  (∀v' o' s',ItemIs aa it v' o'->R Γ o' s'->J (i+1) s'.heap->Apart Γ o' fp s'.heap->Q v' s')->
    wpAny (model PR Γ.w) A (pyNext v) (fun r s₁=>∃v',r=some v'∧wpAny (model PR Γ.w) A (letOwnedTupleGo tgt v v') (fun _ s₂=>Q v' s₂) (fun _ _=>False) s₁) (fun _ _=>False) s
 stop:∀A s i aa (Q:Option Value->Shared->Prop),gJ Γ A->R Γ aa s->need aa->Apart Γ aa fp s.heap->J i s.heap->items[i]? =none->
  (∀s',R Γ aa s'->Q none s')->wpAny (model PR Γ.w) A (pyNext v) Q (fun _ _=>False) s
inductive PostIt (Γ:Cx) (tgt:Expr) (items:List Item) (K:(Led->Prop)->Led->Prop) (itv:Value) (s:Shared):Prop|mk (need:Led->Prop) (fp:List Addr) (J:Nat->Heap->Prop) (o:Led):Itr Γ tgt itv items need fp J->R Γ o s->J 0 s.heap->Apart Γ o fp s.heap->K need o->PostIt Γ tgt items K itv s
noncomputable def eD (Γ:Cx) (tgt:Expr) (a:AV) (aa:Led) (items:List Item) (K:(Led->Prop)->Led->Prop):Prop:=
 ∀v,VR a v->∀A s,gJ Γ A->R Γ aa s->wpAny (model PR Γ.w) A (pyIter v)
  (PostIt Γ tgt items K) (fun _ _=>False) s
theorem eD.go {a:AV} {items:List Item} {K:(Led->Prop)->Led->Prop} (h:eD Γ tgt a aa items K) (hv:VR a v) (hA:gJ Γ A) (hR:R Γ aa s) (k:∀itv s' need fp J o2,Itr Γ tgt itv items need fp J->R Γ o2 s'->J 0 s'.heap->Apart Γ o2 fp s'.heap->K need o2->Q itv s') (e:Γ.w=w:=by rfl):wpAny (model PR w) A (pyIter v) Q E s:=
 e▸wpAny_mono (h v hv A s hA hR) (fun v s' ⟨n,f,J,o,h1,h2,h3,h4,h5⟩=>k v s' n f J o h1 h2 h3 h4 h5) fun _ _ x=>x.elim
theorem dJ {Q:α->Shared->Prop} {t:Shared} (w:wpAny (model PR Γ.w) A m Q (fun _ _=>False) t):wpAny (model PR Γ.w) A m Q E t:=
 wpAny_mono w (fun _ _ x=>x) fun _ _ x=>x.elim
theorem eH {R:Result->Shared->Prop} {target:Expr} {it:Value} {orelse:List Stmt} (I:Nat->Shared->Prop) (turn:∀n s,I n s->wpAny (model PR w) A (pyNext it) (fun r s₁=>match r with
 |none=>wpAny (model PR w) A (execs orelse env) (fun f s₃=>R (.ok f) s₃) (notedBy (model PR w) A env fun e s'=>R (.error e) s') s₁
 |some v=>wpAny (model PR w) A (letOwnedTupleGo target it v) (fun _ s₁'=>wpAny (model PR w) A (assign target env v) (fun _ s₂=>wpAny (model PR w) A (execs body env) (fun f s₃=>match f with
   | .next | .cont =>∃m,m<n∧I m s₃
   | .brk =>R (.ok .next) s₃
   | .ret v=>R (.ok (.ret v)) s₃) (notedBy (model PR w) A env fun e s'=>R (.error e) s') s₂) (notedBy (model PR w) A env fun e s'=>R (.error e) s') s₁') (notedBy (model PR w) A env fun e s'=>R (.error e) s') s₁) (notedBy (model PR w) A env fun e s'=>R (.error e) s') s) (n:Nat) (h:I n s):codeAny (model PR w) A (.forLoop target it body orelse env) R s:=by
 refine codeAny_loop' rfl I (fun n s hI=> ?_) n h;show wpAny _ _ ((forTurn target it body orelse env).onRaise (fun x=>do noteFrame x env;theTreesLotGoes x)) _ _ s;refine wpAny_noted ?_;simp only[forTurn];refine wpAny_bind (wpAny_standAt (wpAny_bind (wpAny_onRaise (wpAny_mono (turn n s hI) (fun r s₁ h₁=> ?_) fun _ _ h'=>wpAny_standAt h'))));cases r with
 |none=>exact wpAny_pure (.inr ⟨rfl,codeAny_block h₁⟩)
 |some v=>
  refine wpAny_bind (wpAny_mono h₁ (fun _ s₁' h₁'=> ?_) fun _ _ h'=>h');refine wpAny_bind (wpAny_mono h₁' (fun _ s₂ h₂=>wpAny_bind (wpAny_mono h₂ (fun f s₃ h₃=> ?_) fun _ _ h'=>h')) fun _ _ h'=>h');cases f with
  |next=>exact wpAny_pure (.inl ⟨rfl,h₃⟩)
  |cont=>exact wpAny_pure (.inl ⟨rfl,h₃⟩)
  |brk=>exact wpAny_pure h₃
  |ret v=>exact wpAny_pure h₃
theorem ft.of {o':Led} (hi:ItemIs aa it v o') (h:ft it aa K):∃a,VR a v∧K a o':=by
 cases hi with
 |one hv=>exact⟨_,hv,h⟩
 |tup as t=>exact⟨_,.val _,h t⟩
noncomputable def WAsg (Γ:Cx) (env:Env) (t:Expr) (a:AV) (aa:Led) (K:Led->Prop):Prop:=∀v,VR a v->WU Γ (assign t env v) aa K
section
theorem asg_Name {x:Str} {p:Pos} {a:AV} {K:Led->Prop} (h:WSt Γ env x a aa K):WAsg Γ env (.Name x p) a aa K:=
 fun v hv A s hA hR=>wpAny_assign_Name (h v hv A s hA hR)
theorem Apart.after {o1 o2:Led} {fp:List Addr} {s1 s2:Shared} (ha:Apart Γ o1 fp s1.heap) (hR:R (Γ.at (rest Γ o1 s1)) o2 s2):Apart Γ o2 fp s2.heap∧∀b∈fp,∀o,s1.heap.get? b=some o->s2.heap.get? b=some o:=by
 have hk:∀b∈fp,∀o,s1.heap.get? b=some o->s2.heap.get? b=some o:=fun b hb o e=>hR.keep b o (fq e (ha.key b hb) (ha.tab b hb));refine⟨⟨fun b hb hm=> ?_,ha.tab,ha.old,fun b hb=>(ha.live b hb).elim fun o e=>⟨o,hk b hb o e⟩⟩,hk⟩;obtain⟨o,e⟩:=ha.live b hb;obtain⟨p,hp,rfl⟩:=EP.mp hm;have z:=hR.ap p hp;rw[show(Γ.at (rest Γ o1 s1)).h0.get? p.1=some o from fq e (ha.key _ hb) (ha.tab _ hb)]at z;cases z
theorem Apart.sub {o1 o2:Led} {fp:List Addr} (ha:Apart Γ o1 fp h) (hs:Less o2 o1):Apart Γ o2 fp h:=⟨fun b hb=>fR hs (ha.key b hb),ha.tab,ha.old,ha.live⟩
noncomputable abbrev DL (J:Led->Prop) (fl:AF) (o:Led):Prop:=fl= .next ∧∃o6,Less o6 o∧J o6
noncomputable abbrev DM (Γ:Cx) (env:Env) (body:List Stmt) (J:Led->Prop) (o:Led):Prop:=WS Γ env body o (DL J)
noncomputable abbrev xd (Γ:Cx) (env:Env) (target:Expr) (body:List Stmt) (J:Led->Prop) (v:AV) (o:Led):Prop:=WAsg Γ env target v o (DM Γ env body J)
theorem oH {target iter:Expr} {items:List Item} (Inv:Nat->Led->Prop) {K:AF->Led->Prop} (h:WE Γ env iter aa fun a o1=>eD Γ target a o1 items fun need o2=>Inv 0 o2∧∀i o,Inv i o->need o) (hbody:∀i,let J:=Inv (i+1);∀it o h',items[i]? =some it->Inv i o->Sub Γ h'->ft it o (xd (Γ.at h') env target body J)) (hK:∀o,Inv items.length o->K .next o) (hs:∀x,foldedSetIterable iter env x=pure x:=by intro _;kernel_rfl):
 WX Γ env (.For target iter body [] pos) aa K:=by
 intro A s hA hR;refine wpAny_For (W.go h hA hR fun v s1 a o1 hv hR1 h1=> ?_) hs;refine eD.go h1 hv hA hR1 fun itv s2 need fp J o2 hI hR2 hJ hap hz=> ?_;obtain⟨hi0,hneed⟩:=hz;refine eH (fun n s'=>∃i o,n=items.length-i∧i≤items.length∧R Γ o s'∧J i s'.heap∧Apart Γ o fp s'.heap∧Inv i o) ?_ (items.length-0) ⟨0,o2,rfl,ET _,hR2,hJ,hap,hi0⟩;rintro n s3 ⟨i,o,rfl,hle,hR3,hJ3,hap3,hinv⟩;cases hit:items[i]? with
 |none=>
  refine dJ (hI.stop A s3 i o _ hA hR3 (hneed i o hinv) hap3 hJ3 hit fun s4 hR4=> ?_);have:i=items.length:=Ga hle (by simpa using hit);subst this;exact wpAny_execs_nil ⟨_,o,.next,hR4,hK _ hinv⟩
 |some it=>
  have hlt:i<items.length:=(EB.mp hit).1
  refine dJ (wpAny_mono (hI.item A s3 i it o (fun v' s4=>∃o',ItemIs o it v' o'∧R Γ o' s4∧J (i+1) s4.heap∧Apart Γ o' fp s4.heap) hA hR3 (hneed i o hinv) hap3 hJ3 hit
   fun v' o' s4 h1 h2 h3 h4=>⟨o',h1,h2,h3,h4⟩) ?_ fun _ _ x=>x)
  rintro _ s4' ⟨v',rfl,hw⟩;refine dJ (wpAny_mono hw ?_ fun _ _ x=>x);rintro _ s4 ⟨o',hit',hR4,hJ4,hap4⟩;obtain⟨a',ha',hb⟩:=ft.of hit' (hbody i it o (rest Γ o' s4) hit hinv hR4.sub_rest);refine dJ (W.go (hb v' ha') hA hR4.rest fun _ s5 _ o4 _ hR5 h5=> ?_);refine dJ (W.go h5 hA hR5 fun fl s6 fl' o5 hfl hR6 hz=> ?_);obtain⟨rfl,o6,hs6,hinv6⟩:=hz;cases hfl;obtain⟨hap6,hk6⟩:=Apart.after hap4 hR6;exact⟨items.length-(i+1),by omega,i+1,o6,rfl,hlt,(hR6.back hR4.sub_rest).sub hs6,hI.frame _ _ _ hJ4 hk6,hap6.sub hs6,hinv6⟩
end
end
end
section
variable {gens:List Comprehension} {hi:Nat} {iter:Expr}
section
section
theorem R.lt (hR:R Γ aa s) {b:Addr} (h:b∈keys aa):b<s.heap.objs.size:=by
 obtain⟨p,hp,rfl⟩:=EP.mp h;obtain⟨o,ho,_⟩:=hR.ow p hp;exact Heap.lt_size ho
theorem R.tab_lt (hR:R Γ aa s) {b:Addr} (h:b∈dD Γ):b<s.heap.objs.size:=by
 obtain⟨t,ht,rfl⟩:=EP.mp h;obtain⟨_,ps,e,_⟩:=(hR.tb t ht).2;exact Heap.lt_size e
theorem R.old_lt (hR:R Γ aa s) {b:Addr} (h:s.heap.objs.size≤b):Γ.h0.get? b=none:=by
 cases q:Γ.h0.get? b with
 |none=>rfl
 |some o=>exact absurd (Heap.lt_size (hR.keep _ _ q)) (F3.mpr h)
theorem Apart.fresh (hR:R Γ aa s) {fp:List Addr} (hf:∀b∈fp,s.heap.objs.size≤b) (hl:∀b∈fp,∃o,h'.get? b=some o):Apart Γ aa fp h':=
 ⟨fun b hb hm=>absurd (hR.lt hm) (F3.mpr (hf b hb)),fun b hb hm=>absurd (hR.tab_lt hm) (F3.mpr (hf b hb)),fun b hb=>hR.old_lt (hf b hb),hl⟩
noncomputable abbrev qZ:List String:=["enumerate","zip","dict_itemiterator","dict_reverseitemiterator","odict_iterator","itertools.zip_longest","itertools.pairwise"]
theorem d9 {it:Addr} {n:String} {Q:Unit->Shared->Prop} (ho:s.heap.get? it=some o) (hc:o.cls= .type n) (hn:qZ.contains n=false) (h:Q () s):wpAny (model PR Γ.w) A (letOwnedTupleGo tgt (.ref it) v) Q (fun _ _=>False) s:=by
 have key:∀a,wpAny (model PR Γ.w) A (do
  let o ←load it
  match o.cls,o.data with
  | .type n,.fields vs=>
    if qZ.contains n&&vs[0]? ==some (rawInt a)then
     rule "for.unpacks-the-owned-tuple"
     updateField it 0 .none
  |_,_=>pure ()) Q (fun _ _=>False) s:=fun a=>by
  refine wpAny_bind (wpAny_load ho ?_);rw[hc];cases hd:o.data<;>try exact wpAny_pure h
  simp only[hn,Bool.false_and,E1,if_false];exact wpAny_pure h
 unfold letOwnedTupleGo
 cases tgt<;>first
  |exact wpAny_pure h
  |(cases v<;>first|exact wpAny_pure h|exact key _)
theorem q8 {it:Addr}:Itr Γ tgt (.ref it) (vs.map .one) (fun o=>lL l vs∈o) [it] (fun i h=>h.IsListIter it l i) where
 frame:=fun i h h' hJ hk=>Exists.elim hJ fun o y=>⟨o,hk it (.head _) o y.1,y.2⟩
 again:=fun A s aa Q hR hJ hQ=>wpAny_pyIter_listiter hJ hQ
 item:=fun A s i itm aa Q hA hR hn hap hJ hi hQ=>by
  obtain⟨items,n,ho,hvs⟩:=bD.get hR hn;rw[Eu,Ew]at hi;obtain⟨a,ha,rfl⟩:=hi;obtain⟨v,hv,hr⟩:=hvs.get ha;refine wpAny_pyNext_list_item hJ ⟨_,ho,rfl,n,rfl⟩ (x:=v) (by simpa using hv) fun h' hit' hs'=>⟨v,rfl,?_⟩;have hit:it∈[it]:=ED.mpr rfl;have hit2:=hit';obtain⟨oi,ei,eic,_⟩:=hit2;refine d9 ei eic (by decide) ?_;refine hQ v aa _ (.one hr) (hR.other (t:=s.toks) (hap.key it hit) (hap.tab it hit) (hap.old it hit) (fun q x=> ?_) hs'.extBut) hit' ⟨hap.key,hap.tab,hap.old,fun b hb=> ?_⟩
  ·obtain⟨o,e1,_,e3⟩:=hJ
   obtain⟨c,o',vs',t,r1,r2,r3,r4⟩:=x;cases r1;rw[e1]at r2;cases r2;rw[e3]at r3;cases r3;simp at r4
  ·rw[ED.mp hb]
   obtain⟨o,e,_⟩:=hit';exact⟨o,e⟩
 stop:=fun A s i aa Q hA hR hn hap hJ hi hQ=>by
  obtain⟨items,n,ho,hvs⟩:=bD.get hR hn;have hit:it∈[it]:=ED.mpr rfl;refine wpAny_pyNext_list_end hA.1 hJ ⟨_,ho,rfl,n,rfl⟩ ?_ fun h' hx=> ?_
  ·have:vs.length≤i:=by simpa using hi
   have e:=hvs.length;simp only[E0]at e;simp;omega
  ·refine hQ _ (hR.other (t:=s.toks) (hap.key it hit) (hap.tab it hit) (hap.old it hit) (fun q x=> ?_) hx)
   obtain⟨o,e1,_,e3⟩:=hJ;obtain⟨c,o',vs',t,r1,r2,r3,r4⟩:=x;cases r1;rw[e1]at r2;cases r2;rw[e3]at r3;cases r3;simp at r4
theorem aW {K:(Led->Prop)->Led->Prop} (hm:lL l vs∈aa) (h:K (fun o=>lL l vs∈o) aa):eD Γ tgt (.ref l) aa (vs.map .one) K:=by
 intro v hv;cases hv;intro A s hA hR;obtain⟨items,n,ho,hvs⟩:=bD.get hR hm;refine wpAny_pyIter_list ⟨_,ho,rfl,n,rfl⟩ ?_;refine⟨_,[s.heap.objs.size],_,aa,q8,hR.grow (t:=s.toks) (fun _ _ e=>Heap.get?_push_of_some _ e),⟨_,Heap.get?_push_size _ rfl,rfl,rfl⟩,Apart.fresh hR (fun b hb=> ?_) (fun b hb=> ?_),h⟩
 ·rw[ED.mp hb];exact EL _
 ·rw[ED.mp hb];exact⟨_,Heap.get?_push_size _ rfl⟩
noncomputable def nw (a b c:Int):OP:=fun o=>∃t u v,o={cls:= .type "range",dict:=none,data:= .fields #[.int a t,.int b u,.int c v],slots:= #[]}
theorem q9 {a b c}:NF (nw a b c):=by rintro o ⟨_,_,_,rfl⟩ fd e;cases e
noncomputable def dr (a c:Int) (n:Nat):List AV:=(Et n).map fun(j:Nat)=>AV.int (a+c*(j:Int))
theorem pL {it:Addr} {a c:Int}:Itr Γ tgt (.ref it) ((dr a c n).map .one) (fun _=>True) [it] (fun i h=>IsRangeIter h it (a+c*(i:Int)) ((n:Int)-i) c) where
 frame:=fun i h h' hJ hk=>hk it (.head _) _ hJ
 again:=fun A s aa Q hR hJ hQ=>wpAny_pyIter_rangeiter hJ hQ
 item:=fun A s i itm aa Q hA hR hn hap hJ hi hQ=>by
  rw[Eu,Ew]at hi;obtain⟨x,hx,rfl⟩:=hi;unfold dr at hx;rw[Eu,Ew]at hx;obtain⟨j,hj,rfl⟩:=hx
  have hlt:i<n:=by
   have:=(EB.mp hj).1;simpa using this
  have hji:i=j:=by
   rw[FL hlt]at hj;exact Option.some.inj hj
  subst hji;refine wpAny_pyNext_range_item hJ (by omega) fun h' hit' hs'=>⟨_,rfl,?_⟩;have hit:it∈[it]:=ED.mpr rfl;refine d9 hit' rfl (by decide) ?_;refine hQ _ aa _ (.one (.int _ _)) (hR.other (t:=s.toks+1) (hap.key it hit) (hap.tab it hit) (hap.old it hit) (fun q x=> ?_) hs'.extBut) ?_ ⟨hap.key,hap.tab,hap.old,fun b hb=> ?_⟩
  ·obtain⟨c,o',vs',t,r1,r2,r3,r4⟩:=x
   cases r1;rw[hJ]at r2;cases r2;cases r3;simp[rawInt]at r4
  ·have e1:a+c*(i:Int)+c=a+c*((i+1:Nat):Int):=by rw[GY,Int.mul_add];omega
   have e2:(n:Int)-(i:Int)-1=(n:Int)-((i+1:Nat):Int):=by omega
   rw[e1,e2]at hit';exact hit'
  ·rw[ED.mp hb]
   exact⟨_,hit'⟩
 stop:=fun A s i aa Q hA hR hn hap hJ hi hQ=>by
  have hit:it∈[it]:=ED.mpr rfl;have hle:n≤i:=by simpa[dr]using hi
  refine wpAny_pyNext_range_end hA.1 hJ (by omega) fun h' hx=> ?_;refine hQ _ (hR.other (t:=s.toks) (hap.key it hit) (hap.tab it hit) (hap.old it hit) (fun q x=> ?_) hx);obtain⟨c,o',vs',t,r1,r2,r3,r4⟩:=x;cases r1;rw[hJ]at r2;cases r2;cases r3;simp[rawInt]at r4
theorem mw {r:Addr} {a b c:Int} {K:(Led->Prop)->Led->Prop} (hm:(r,nw a b c)∈aa) (hsm:Builtin.Range.small a b c=true) (hn:Builtin.Range.rangeSize a b c=(n:Int)) (h:K (fun _=>True) aa):eD Γ tgt (.ref r) aa ((dr a c n).map .one) K:=by
 intro v hv;cases hv;intro A s hA hR;obtain⟨o,ho,t,u,v,rfl⟩:=hR.get hm;refine wpAny_pyIter_range ho hsm ?_;refine⟨_,[s.heap.objs.size],_,aa,pL,hR.grow (t:=s.toks) (fun _ _ e=>Heap.get?_push_of_some _ e),?_,Apart.fresh hR (fun b hb=> ?_) (fun b hb=> ?_),h⟩
 ·have:=Heap.get?_push_size (h:=s.heap) (o:={cls:= .type "range_iterator",data:= .fields #[rawInt a,rawInt (Builtin.Range.rangeSize a b c),rawInt c]}) rfl
  rw[hn]at this;simpa[hn]using this
 ·rw[ED.mp hb];exact EL _
 ·rw[ED.mp hb];exact⟨_,Heap.get?_push_size _ rfl⟩
end
end
section
section
theorem R.drop (hR:R Γ aa s) {a:Addr} {P:OP} (hs:Less ao aa) (hm:(a,P)∈aa) (ha:a∉keys ao) (hnd:∀q,¬s.heap.CodeRec (.ref a) q) {t:Tok} (hx:Heap.ExtBut a s.heap h'):
 R Γ ao {s with heap:=h',toks:=t}:=by
 refine(hR.sub hs).other ha (fun hm'=> ?_) (hR.ap _ hm) hnd hx;obtain⟨t',ht',e⟩:=EP.mp hm';exact(hR.tb t' ht').2.1 (e▸EE (f:=(·.1)) hm)
noncomputable abbrev WTests (Γ:Cx) (env:Env) (ifs:List Expr) (aa:Led) (K:Bool->Led->Prop):Prop:=
 W Eq Γ (forIn ifs true fun c r=>if r=true then do let ok ←isTrue c env (eval c env);pure (ForInStep.yield ok)else pure (ForInStep.yield r)) aa K
theorem ts_nil {K:Bool->Led->Prop} (h:K true aa):WTests Γ env [] aa K:=fun _ _ _ hR=>wpAny_pure ⟨true,aa,rfl,hR,h⟩
theorem q_ {K:Bool->Led->Prop} (h:K false aa):∀ifs:List Expr,
 W Eq Γ (forIn ifs false fun c r=>if r=true then do let ok ←isTrue c env (eval c env);pure (ForInStep.yield ok)else pure (ForInStep.yield r)) aa K:=fun z_=>by
 induction z_ with
 |nil=>exact fun _ _ _ hR=>wpAny_pure ⟨false,aa,rfl,hR,h⟩
 |cons c r ih=>
  rw[Gb];simp only[E1,if_false,pure_bind];exact ih
noncomputable abbrev DN (Γ:Cx) (env:Env) (r:List Expr) (K:Bool->Led->Prop) (b:Bool) (o:Led):Prop:=if b then WTests Γ env r o K else K false o
theorem ts_cons {c:Expr} {r:List Expr} {K:Bool->Led->Prop} (h:WT Γ env c aa (DN Γ env r K)):WTests Γ env (c::r) aa K:=by
 unfold WTests;rw[Gb];simp only[if_true,bind_assoc,pure_bind];refine W.bind (h.mono fun b o hb v hv=> ?_);subst hv;cases b with
 |true=>exact hb
 |false=>exact q_ (K:=K) hb r
noncomputable def aR (Γ:Cx) (e:Expr) (d:Nat) (acc:Addr) (cenv:Env) (tgt:Expr) (items:List Item) (need:Led->Prop) (aa:Led) (K:Led->Prop):Prop:=
 ∀itv fp J,Itr Γ tgt itv items need fp J->∀A s,gJ Γ A->R Γ aa s->J 0 s.heap->Apart Γ aa fp s.heap->
  codeAny (model PR Γ.w) A (.compLoop e d itv (.ref acc) cenv) (fun r s'=>∃f ao,r= .ok f∧R Γ ao s'∧K ao) s
noncomputable def ia (e:Expr) (d:Nat) (it acc:Value) (env:Env) (tgt iter:Expr) (ifs:List Expr) (body:Sem Unit):Sem Fin:=do
 PySem.standAt iter.pos
 match ←pyNext it with
 |none=>pure (.done .next)
 |some v=>do
  letOwnedTupleGo tgt it v
  assign tgt env v
  let ok ←forIn ifs true fun c r=>if r=true then do let ok ←isTrue c env (eval c env);pure (ForInStep.yield ok)else pure (ForInStep.yield r)
  if ok=true then do
   body
   again (.compLoop e d it acc env)
  else again (.compLoop e d it acc env)
theorem mx (elt:Expr) (gens:List Comprehension) (scope:Scope) (pos:Pos) (d:Nat) (it acc:Value) (env:Env) (hg:gens[d]? =some ⟨tgt,iter,ifs,0⟩) (hg':gens[d+1]? =none):
 compTurn (.ListComp elt gens scope pos) d it acc env=ia (.ListComp elt gens scope pos) d it acc env tgt iter ifs (do
  let x ←eval elt env
  let _ ←call (.builtin "list.append") [acc,x]
  pure ()):=by
 unfold compTurn ia;simp only[hg,hg'];simp;rfl
theorem ko (elt:Expr) (gens:List Comprehension) (scope:Scope) (pos:Pos) (d:Nat) (it acc:Value) (env:Env) {tgt' iter':Expr} {ifs':List Expr} (hg:gens[d]? =some ⟨tgt,iter,ifs,0⟩) (hg':gens[d+1]? =some ⟨tgt',iter',ifs',0⟩):
 compTurn (.ListComp elt gens scope pos) d it acc env=ia (.ListComp elt gens scope pos) d it acc env tgt iter ifs (do
  let x ←eval iter' env
  PySem.standAt iter'.pos
  let x ←foldedSetIterable iter' env x
  let it' ←holding [x] (pyIter x)
  let _ ←runOwn (.compStart (.ListComp elt gens scope pos) (d+1) it' acc env) env
  pure ()):=by
 unfold compTurn ia;simp only[hg,hg'];simp;rfl
theorem d_ {R:Result->Shared->Prop} {elt:Expr} {it acc:Value} (hg:gens[d]? =some ⟨tgt,iter,ifs,0⟩) (h0:codeAny (model PR w) A (.compLoop (.ListComp elt gens scope pos) d it acc env) R s) (h:wpAny (model PR w) A (pyIter it) (fun it' s'=>codeAny (model PR w) A (.compLoop (.ListComp elt gens scope pos) d it' acc env) R s') (fun _ _=>False) s):
 codeAny (model PR w) A (.compStart (.ListComp elt gens scope pos) d it acc env) R s:=by
 refine codeAny_of_tree ?_;show wpAny _ _ ((compStart (.ListComp elt gens scope pos) d it acc env).onRaise (fun x=>do noteFrame x env;standAt theWindowsPlace)) _ _ s;refine wpAny_notedAt ?_;unfold compStart;have hcl:clausesOf (.ListComp elt gens scope pos)=gens:=rfl;simp only[hcl,hg];refine wpAny_bind (wpAny_askSetting ?_);refine wpAny_ite ?_;split
 ·exact wpAny_bind (wpAny_pure (wpAny_pure ⟨rfl,h0⟩))
 ·refine wpAny_bind (wpAny_rule (wpAny_bind (wpAny_standAt (wpAny_bind (wpAny_mono h (fun it' s' h'=>wpAny_pure ⟨rfl,h'⟩) fun _ _ x=>x.elim)))))
theorem wR {elt:Expr} {cp:Pos} {acc:Addr} {cenv:Env} {items:List Item} {need:Led->Prop} {K:Led->Prop} {body:Sem Unit} (hturn:∀it,compTurn (.ListComp elt gens scope cp) d it (.ref acc) cenv=ia (.ListComp elt gens scope cp) d it (.ref acc) cenv tgt iter ifs body) (Inv:Nat->Led->Prop) (h0:Inv 0 aa) (hneed:∀i o,Inv i o->need o) (hbody:∀i it o h',items[i]? =some it->Inv i o->Sub Γ h'->ft it o fun v o3=>WAsg (Γ.at h') cenv tgt v o3 fun o4=>WTests (Γ.at h') cenv ifs o4 fun ok o5=>
 if ok then WU (Γ.at h') body o5 fun o6=>∃o8,Less o8 o6∧Inv (i+1) o8 else ∃o8,Less o8 o5∧Inv (i+1) o8) (hK:∀o,Inv items.length o->K o):aR Γ (.ListComp elt gens scope cp) d acc cenv tgt items need aa K:=by
 intro itv fp J hI A s hA hR hJ hap;refine codeAny_loop rfl (fun n s'=>∃i o,n=items.length-i∧i≤items.length∧R Γ o s'∧J i s'.heap∧Apart Γ o fp s'.heap∧Inv i o) ?_ (items.length-0) ⟨0,aa,rfl,ET _,hR,hJ,hap,h0⟩;rintro n s3 ⟨i,o,rfl,hle,hR3,hJ3,hap3,hinv⟩;show wpAny _ A ((compTurn (.ListComp elt gens scope cp) d itv (.ref acc) cenv).onRaise (fun x=>do noteFrame x cenv;theTreesLotGoes x)) _ _ s3;refine wpAny_noted ?_;rw[hturn];unfold ia;refine wpAny_bind (wpAny_standAt (wpAny_bind ?_));cases hit:items[i]? with
 |none=>
  refine dJ (hI.stop A s3 i o _ hA hR3 (hneed i o hinv) hap3 hJ3 hit fun s4 hR4=> ?_);have:i=items.length:=Ga hle (by simpa using hit);subst this;exact wpAny_pure ⟨_,o,rfl,hR4,hK _ hinv⟩
 |some it=>
  have hlt:i<items.length:=(EB.mp hit).1
  refine dJ (wpAny_mono (hI.item A s3 i it o (fun v' s4=>∃o',ItemIs o it v' o'∧R Γ o' s4∧J (i+1) s4.heap∧Apart Γ o' fp s4.heap) hA hR3 (hneed i o hinv) hap3 hJ3 hit
   fun v' o' s4 h1 h2 h3 h4=>⟨o',h1,h2,h3,h4⟩) ?_ fun _ _ x=>x)
  rintro _ s4' ⟨v',rfl,hw⟩;refine wpAny_bind (dJ (wpAny_mono hw ?_ fun _ _ x=>x));rintro _ s4 ⟨o',hit',hR4,hJ4,hap4⟩;obtain⟨a',ha',hb⟩:=ft.of hit' (hbody i it o (rest Γ o' s4) hit hinv hR4.sub_rest);refine wpAny_bind (dJ (W.go (hb v' ha') hA hR4.rest fun _ s5 _ o4 _ hR5 h5=> ?_));refine wpAny_bind (dJ (wpAny_mono (h5 A s5 hA hR5) ?_ fun _ _ x=>x))
  have fin:∀(o7:Led) (s7:Shared),R (Γ.at (rest Γ o' s4)) o7 s7->(∃o8,Less o8 o7∧Inv (i+1) o8)->
   ∃m,m<items.length-i∧∃i o,m=items.length-i∧i≤items.length∧R Γ o s7∧J i s7.heap∧Apart Γ o fp s7.heap∧Inv i o:=by
   rintro o7 s7 hR7 ⟨o8,hs8,hinv8⟩;obtain⟨hap7,hk7⟩:=Apart.after hap4 hR7;exact⟨items.length-(i+1),by omega,i+1,o8,rfl,hlt,(hR7.back hR4.sub_rest).sub hs8,hI.frame _ _ _ hJ4 hk7,hap7.sub hs8,hinv8⟩
  rintro ok s6 ⟨ok',o5,rfl,hR6,h6⟩;cases ok' with
  |false=>exact wpAny_pure ⟨rfl,fin _ _ hR6 h6⟩
  |true=>
   refine wpAny_bind (dJ (W.go h6 hA hR6 fun _ s7 _ o7 _ hR7 h7=> ?_));exact wpAny_pure ⟨rfl,fin _ _ hR7 h7⟩
noncomputable abbrev DO (acc:Addr) (J:Led->Prop) (x:AV) (o6:Led):Prop:=∃vs o7 o8,Upd acc (bD vs) (bD (vs++[x])) o6 o7∧vs.length≤sizeLine∧Less o8 o7∧J o8
noncomputable abbrev DP (Γ:Cx) (env:Env) (elt:Expr) (acc:Addr) (J:Led->Prop) (ok:Bool) (o5:Led):Prop:=if ok then WE Γ env elt o5 (DO acc J)else ∃o8,Less o8 o5∧J o8
noncomputable abbrev DQ (Γ:Cx) (env:Env) (ifs:List Expr) (elt:Expr) (acc:Addr) (J:Led->Prop) (o:Led):Prop:=WTests Γ env ifs o (DP Γ env elt acc J)
noncomputable abbrev kL (Γ:Cx) (env:Env) (tgt:Expr) (ifs:List Expr) (elt:Expr) (acc:Addr) (J:Led->Prop) (v:AV) (o:Led):Prop:=WAsg Γ env tgt v o (DQ Γ env ifs elt acc J)
theorem aB {elt:Expr} {cp:Pos} {acc:Addr} {cenv:Env} {items:List Item} {need:Led->Prop} {K:Led->Prop} (Inv:Nat->Led->Prop) (hg:gens[d]? =some ⟨tgt,iter,ifs,0⟩) (hg':gens[d+1]? =none) (h0:Inv 0 aa) (hneed:∀i o,Inv i o->need o) (hbody:∀i,let J:=Inv (i+1);∀it o h',items[i]? =some it->Inv i o->Sub Γ h'->ft it o (kL (Γ.at h') cenv tgt ifs elt acc J)) (hK:∀o,Inv items.length o->K o):aR Γ (.ListComp elt gens scope cp) d acc cenv tgt items need aa K:=by
 refine wR (fun it=>mx elt gens scope cp d it (.ref acc) cenv hg hg') Inv h0 hneed (fun i it o h' hit hinv hs=> ?_) hK
 have key:∀(ok:Bool) (o5:Led),(if ok then WE (Γ.at h') cenv elt o5 fun x o6=>∃vs o7 o8,Upd acc (bD vs) (bD (vs++[x])) o6 o7∧vs.length≤sizeLine∧Less o8 o7∧Inv (i+1) o8 else ∃o8,Less o8 o5∧Inv (i+1) o8)->
  if ok then WU (Γ.at h') (do let x ←eval elt cenv;let _ ←call (.builtin "list.append") [.ref acc,x];pure ()) o5 fun o6=>∃o8,Less o8 o6∧Inv (i+1) o8 else ∃o8,Less o8 o5∧Inv (i+1) o8:=by
  intro ok o5 h5;cases ok with
  |false=>exact h5
  |true=>
   refine W.bind (W.mono h5 fun x o6 h6 v hv=> ?_);obtain⟨vs,o7,o8,hu,hz,hs8,hi8⟩:=h6;refine W.bind (W.mono (cY (K:=fun _ o=>o=o7) hu hz rfl _ _ (.cons (.val _) (.cons hv .nil)) .nil) fun y o9 h9 z _=> ?_);subst h9;exact W.pure (b:=()) trivial ⟨o8,hs8,hi8⟩
 have hb:=hbody i it o h' hit hinv hs
 have conv:∀v o3,(WAsg (Γ.at h') cenv tgt v o3 fun o4=>WTests (Γ.at h') cenv ifs o4 fun ok o5=>
  if ok then WE (Γ.at h') cenv elt o5 fun x o6=>∃vs o7 o8,Upd acc (bD vs) (bD (vs++[x])) o6 o7∧vs.length≤sizeLine∧Less o8 o7∧Inv (i+1) o8 else ∃o8,Less o8 o5∧Inv (i+1) o8)->
  WAsg (Γ.at h') cenv tgt v o3 fun o4=>WTests (Γ.at h') cenv ifs o4 fun ok o5=>
  if ok then WU (Γ.at h') (do let x ←eval elt cenv;let _ ←call (.builtin "list.append") [.ref acc,x];pure ()) o5 fun o6=>∃o8,Less o8 o6∧Inv (i+1) o8 else ∃o8,Less o8 o5∧Inv (i+1) o8:=
  fun v o3 h va hva=>W.mono (h va hva) fun _ o4 h4=>W.mono h4 key
 cases it with
 |one a=>exact conv _ _ hb
 |tup as=>exact fun t=>conv _ _ (hb t)
noncomputable abbrev DR (J:Led->Prop) (o8:Led):Prop:=∃o9,Less o9 o8∧J o9
noncomputable abbrev DS (Γ:Cx) (env:Env) (e:Expr) (d:Nat) (acc:Addr) (tgt':Expr) (its':List Item) (J:Led->Prop) (need':Led->Prop) (o7:Led):Prop:=aR Γ e d acc env tgt' its' need' o7 (DR J)
noncomputable abbrev DT (Γ:Cx) (env:Env) (e:Expr) (d:Nat) (acc:Addr) (tgt':Expr) (J:Led->Prop) (x:AV) (o6:Led):Prop:=∃its',eD Γ tgt' x o6 its' (DS Γ env e d acc tgt' its' J)
noncomputable abbrev DU (Γ:Cx) (env:Env) (e:Expr) (d:Nat) (iter':Expr) (acc:Addr) (tgt':Expr) (J:Led->Prop) (ok:Bool) (o5:Led):Prop:=if ok then WE Γ env iter' o5 (DT Γ env e d acc tgt' J)else ∃o8,Less o8 o5∧J o8
noncomputable abbrev DV (Γ:Cx) (env:Env) (ifs:List Expr) (e:Expr) (d:Nat) (iter':Expr) (acc:Addr) (tgt':Expr) (J:Led->Prop) (o:Led):Prop:=WTests Γ env ifs o (DU Γ env e d iter' acc tgt' J)
noncomputable abbrev kN (Γ:Cx) (env:Env) (tgt:Expr) (ifs:List Expr) (e:Expr) (d:Nat) (iter':Expr) (acc:Addr) (tgt':Expr) (J:Led->Prop) (v:AV) (o:Led):Prop:=WAsg Γ env tgt v o (DV Γ env ifs e d iter' acc tgt' J)
theorem dk {elt:Expr} {cp:Pos} {acc:Addr} {cenv:Env} {tgt' iter':Expr} {ifs':List Expr} {items:List Item} {need:Led->Prop} {K:Led->Prop} (Inv:Nat->Led->Prop) (hg:gens[d]? =some ⟨tgt,iter,ifs,0⟩) (hg':gens[d+1]? =some ⟨tgt',iter',ifs',0⟩) (hs':∀x,foldedSetIterable iter' cenv x=pure x) (h0:Inv 0 aa) (hneed:∀i o,Inv i o->need o) (hbody:∀i,let J:=Inv (i+1);∀it o h',items[i]? =some it->Inv i o->Sub Γ h'->ft it o (kN (Γ.at h') cenv tgt ifs (.ListComp elt gens scope cp) (d+1) iter' acc tgt' J)) (hK:∀o,Inv items.length o->K o):aR Γ (.ListComp elt gens scope cp) d acc cenv tgt items need aa K:=by
 refine wR (fun it=>ko elt gens scope cp d it (.ref acc) cenv hg hg') Inv h0 hneed (fun i it o h' hit hinv hs=> ?_) hK
 have key:∀(ok:Bool) (o5:Led),(if ok then WE (Γ.at h') cenv iter' o5 fun x o6=>∃its',eD (Γ.at h') tgt' x o6 its' fun need' o7=>aR (Γ.at h') (.ListComp elt gens scope cp) (d+1) acc cenv tgt' its' need' o7 fun o8=>∃o9,Less o9 o8∧Inv (i+1) o9
  else ∃o8,Less o8 o5∧Inv (i+1) o8)->
  if ok then WU (Γ.at h') (do
      let x ←eval iter' cenv
      PySem.standAt iter'.pos
      let x ←foldedSetIterable iter' cenv x
      let it' ←holding [x] (pyIter x)
      let _ ←runOwn (.compStart (.ListComp elt gens scope cp) (d+1) it' (.ref acc) cenv) cenv
      pure ()) o5 fun o6=>∃o8,Less o8 o6∧Inv (i+1) o8 else ∃o8,Less o8 o5∧Inv (i+1) o8:=by
  intro ok o5 h5;cases ok with
  |false=>exact h5
  |true=>
   refine W.bind (W.mono h5 fun x o6 h6 v hv=>W.at (W.bind (rel:=Eq) (W.of_eq (hs' v) (W.pure (b:=v) rfl ?_))));rintro v' rfl;obtain⟨its',h6⟩:=h6;intro A s1 hA hR1;refine wpAny_bind (wpAny_holding (eD.go h6 hv hA hR1 fun itv s2 need' fp J o7 hI hR2 hJ hap h7=> ?_));have loop:=h7 itv fp J hI A s2 hA hR2 hJ hap;refine wpAny_bind (wpAny_runOwn (d_ hg' (codeAny_mono loop ?_) (hI.again A s2 o7 _ hR2 hJ (codeAny_mono loop ?_))))
   all_goals
    rintro r s3 ⟨f,o8,rfl,hR3,h8⟩;exact wpAny_pure ⟨(),o8,trivial,hR3,h8⟩
 have hb:=hbody i it o h' hit hinv hs
 have conv:∀v o3,(WAsg (Γ.at h') cenv tgt v o3 fun o4=>WTests (Γ.at h') cenv ifs o4 fun ok o5=>_)->WAsg (Γ.at h') cenv tgt v o3 fun o4=>WTests (Γ.at h') cenv ifs o4 fun ok o5=>_:=
  fun v o3 h va hva=>W.mono (h va hva) fun _ o4 h4=>W.mono h4 key
 cases it with
 |one a=>exact conv _ _ hb
 |tup as=>exact fun t=>conv _ _ (hb t)
end
end
section
section
theorem ib {vs:List Value} (hv:VRs as vs) (hz:as.length≤sizeLine) (h:∀a,K (.ref a) (lL a as::aa)):W VR Γ (newList vs) aa K:=by
 intro A s hA hR;refine wpAny_newObj_type ?_ (by show vs.toArray.size≤sizeLine;rw[GN,←hv.length];exact hz);exact⟨_,_,.val _,hR.push (t:=s.toks) ⟨_,_,rfl,by simpa using hv⟩ km,h _⟩
theorem nx {vs:List Value} (hv:VRs as vs) (hz:as.length≤sizeLine) (h:∀a,K (.ref a) ((a,bV as)::aa)):W VR Γ (newTuple vs) aa K:=by
 intro A s hA hR;refine wpAny_newObj_type ?_ (by show vs.toArray.size≤sizeLine;rw[GN,←hv.length];exact hz);exact⟨_,_,.val _,hR.push (t:=s.toks) ⟨_,_,rfl,by simpa using hv⟩ tZ,h _⟩
noncomputable abbrev DW (K:AV->Led->Prop) (as:List AV) (o:Led):Prop:=as.length≤sizeLine∧∀a,K (.ref a) (lL a as::o)
noncomputable abbrev DX (K:AV->Led->Prop) (as:List AV) (o:Led):Prop:=as.length≤sizeLine∧∀a,K (.ref a) ((a,bV as)::o)
theorem w_List (h:WArgs Γ env pos elts aa (DW K)):WE Γ env (.List elts pos) aa K:=by
 refine W.of_eq (arm_eval_List elts pos env) (W.at (W.bind (W.mono h fun as o h1 vs hv=>ib hv h1.1 h1.2)))
theorem w_Tuple (h:WArgs Γ env pos elts aa (DX K)):WE Γ env (.Tuple elts k pos) aa K:=by
 refine W.of_eq (arm_eval_Tuple elts k pos env) (W.at (W.bind (W.mono h fun as o h1 vs hv=>nx hv h1.1 h1.2)))
noncomputable abbrev aM (scope:Scope) (env:Env) (L:Addr) (cells:List (Str×Addr)):Env:=
 {scope:=relabel scope env,locals:=L,globals:=env.globals,cells:=cells,qual:=env.qual,func:=none,code:=env.code,frame:=env.frame,builtins:=env.builtins}
theorem cc {cells:List (Str×Addr)}:(aM scope env L cells).cells =cells:=rfl
theorem lc {cells:List (Str×Addr)}:(aM scope env L cells).locals =L:=rfl
theorem pM {closure:List (Str×Addr)} {K:Env->Led->Prop} (hn:(loc.map (·.1)).Nodup) (h0:∀p∈loc,p.2=none) (h:∀L cs,cs.map (·.1)=a_ scope.names->K {scope,locals:=L,globals:=env.globals,cells:=cs++closure,qual:=env.qual,func:=none,code:=env.code,frame:=env.frame,builtins:=env.builtins} (cJ cs++(L,ab loc)::aa)):
 W Eq Γ (newFunctionEnv scope env.globals closure [] env.qual none .none (some env)) aa K:=by
 simp only[newFunctionEnv,Option.isSome_some,if_true];intro A s hA hR;refine wpAny_bind (wpAny_alloc ?_);have hR1:=hR.push (t:=s.toks) (P:=ab loc) (o:={cls:= .type "dict",data:= .dict #[]}) (ab.new hn h0 _) mo
 refine wpAny_bind (wpAny_mono (kz (K:=fun cs o=>K {scope,locals:=s.heap.objs.size,globals:=env.globals,cells:=cs,qual:=env.qual,func:=none,code:=env.code,frame:=env.frame,builtins:=env.builtins} o)
  _ (fun name kind cells=>by cases kind<;>rfl) _ _ _ (fun cs hcs=>h s.heap.objs.size cs hcs) A _ hA hR1) ?_ fun _ _ x=>x)
 rintro cells s' ⟨cells',o1,rfl,hR',h'⟩;rw[Gy];exact wpAny_bind (wpAny_pure (wpAny_pure ⟨_,o1,rfl,hR',h'⟩))
theorem pN {a:Addr} (ho:h.get? a=some o) (x:ab loc o):∀q,¬h.CodeRec (.ref a) q:=by
 rintro q ⟨c,o',vs,t,e1,e2,e3,_⟩;cases e1;rw[ho]at e2;cases e2;obtain⟨_,_,_,hd,_⟩:=x;rw[hd]at e3;cases e3
theorem kB {elt:Expr} {gs:List Comprehension} {cp:Pos} {cl:List (Str×Addr)} {use:Option (Value->Sem Unit)} (hs:∀x,foldedSetIterable iter env x=pure x) (hclos:closureFor scope env=pure cl) (hkind:scope.kind= .function) (hnames:∀x∈scope.names,x.2= .local ->scope.names.lookup x.1=some .local) (hn:(loc.map (·.1)).Nodup) (h0:∀p∈loc,p.2=none) (h:WE Γ env iter aa fun a o1=>∃items,eD Γ tgt a o1 items fun need o2=>∀acc L cs,cs.map (·.1)=a_ scope.names->
 aR Γ (.ListComp elt (⟨tgt,iter,ifs,0⟩::gs) scope cp) 0 acc (aM scope env L (cs++cl)) tgt items need (cJ cs++(L,ab loc)::lL acc []::o2) fun o3=>
  match use with
  |none=>∃o4 loc',Less ((L,ab loc')::o4) o3∧K (.ref acc) o4
  |some u=>∃o4 l1,Less ((L,ab l1)::o4) o3∧WU Γ (u (.ref acc)) ((L,ab l1)::o4) fun o5=>∃o6 loc',Less ((L,ab loc')::o6) o5∧K .none o6):
 W VR Γ (comprehension (.ListComp elt (⟨tgt,iter,ifs,0⟩::gs) scope cp) scope env pos (newList []) false (eval iter env) use) aa K:=by
 intro A s hA hR;refine wpAny_comprehension_free rfl hs hclos hkind hnames (W.go h hA hR fun v s1 a o1 hv hR1 hz=> ?_);obtain⟨items,h1⟩:=hz;refine eD.go h1 hv hA hR1 fun itv s2 need fp J o2 hI hR2 hJ hap h2=> ?_;refine W.go (ib (Γ:=Γ.at (rest Γ o2 s2)) (as:=[]) (K:=fun a o=>∃acc,a= .ref acc∧o=lL acc []::o2) .nil (ET _) (fun acc=>⟨acc,rfl,rfl⟩)) hA hR2.rest fun accv s3 _ o3 hacc hR3 hz=> ?_;obtain⟨acc,rfl,rfl⟩:=hz;cases hacc
 refine wpAny_mono (pM (Γ:=Γ.at (rest Γ o2 s2)) (K:=fun e o=>∃L cs,cs.map (·.1)=a_ scope.names∧
  e={scope,locals:=L,globals:=env.globals,cells:=cs++cl,qual:=env.qual,func:=none,code:=env.code,frame:=env.frame,builtins:=env.builtins}∧o=cJ cs++(L,ab loc)::lL acc []::o2)
  hn h0 (fun L cs hcs=>⟨L,cs,hcs,rfl,rfl⟩) A s3 hA hR3) ?_ fun _ _ x=>x
 rintro cenv s4 ⟨_,o4,rfl,hR4,L,cs,hcs,rfl,rfl⟩;obtain⟨hap4,hk4⟩:=Apart.after hap hR4;have hR4':=hR4.back hR2.sub_rest;have loop:=h2 acc L cs hcs itv fp J hI A s4 hA hR4' (hI.frame _ _ _ hJ hk4) hap4
 have done:∀(loc':Loc) (o5 o6:Led) (s5:Shared),R Γ o5 s5->Less ((L,ab loc')::o6) o5->∃m,s5.heap.Ns L m∧∀h',Heap.SameBut L s5.heap h'->R Γ o6 {s5 with heap:=h'}:=by
  intro loc' o5 o6 s5 hR5 hs5;have hR6:=hR5.sub hs5;obtain⟨o,ho,hP⟩:=hR6.get (.head _);obtain⟨m,hm,_⟩:=hP.ns ho;refine⟨m,hm,fun h' hx=> ?_⟩;have hnd:=hR6.nd;rw[EQ,E2]at hnd;exact hR6.drop (t:=s5.toks) (Less.skip Less.refl) (.head _) hnd.1 (pN ho hP) hx.extBut
 refine d_ (gens:=⟨tgt,iter,ifs,0⟩::gs) (d:=0) rfl (codeAny_mono loop ?_) (hI.again A s4 _ _ hR4' (hI.frame _ _ _ hJ hk4) (codeAny_mono loop ?_))
 all_goals
  rintro r s5 ⟨f,o5,rfl,hR5,h5⟩;cases use with
  |none=>
   obtain⟨o6,_,hs6,hK⟩:=h5;obtain⟨m,hm,hfin⟩:=done _ _ _ _ hR5 hs6;exact⟨m,hm,fun h' hx=>⟨_,o6,.val _,hfin h' hx,hK⟩⟩
  |some u=>
   obtain⟨o6,l1,hs6,hu⟩:=h5;refine wpAny_mono (hu A s5 hA (hR5.sub hs6)) ?_ fun _ _ x=>x;rintro _ s6 ⟨_,o7,_,hR7,o8,_,hs8,hK⟩;obtain⟨m,hm,hfin⟩:=done _ _ _ _ hR7 hs8;exact⟨m,hm,fun h' hx=>⟨_,o8,.val _,hfin h' hx,hK⟩⟩
noncomputable abbrev DY (Γ:Cx) (env:Env) (elt:Expr) (gens:List Comprehension) (scope:Scope) (cp:Pos) (cl:List (Str×Addr)) (loc:Loc) (fin:Addr->Addr->Led->Prop) (tgt:Expr) (items:List Item) (need:Led->Prop) (o2:Led):Prop:=
 ∀acc L cs,cs.map (·.1)=a_ scope.names->aR Γ (.ListComp elt gens scope cp) 0 acc (aM scope env L (cs++cl)) tgt items need (cJ cs++(L,ab loc)::lL acc []::o2) (fin acc L)
noncomputable abbrev DZ (Γ:Cx) (env:Env) (elt:Expr) (gens:List Comprehension) (scope:Scope) (cp:Pos) (cl:List (Str×Addr)) (loc:Loc) (fin:Addr->Addr->Led->Prop) (tgt:Expr) (a:AV) (o1:Led):Prop:=
 ∃items,eD Γ tgt a o1 items (DY Γ env elt gens scope cp cl loc fin tgt items)
noncomputable abbrev D0 (K:AV->Led->Prop) (acc L:Addr) (o3:Led):Prop:=∃o4 loc',Less ((L,ab loc')::o4) o3∧K (.ref acc) o4
noncomputable abbrev Cz (K:AF->Led->Prop) (L:Addr) (o5:Led):Prop:=∃o6 loc',Less ((L,ab loc')::o6) o5∧K .next o6
noncomputable abbrev D1 (Γ:Cx) (env:Env) (x:Str) (K:AF->Led->Prop) (acc L:Addr) (o3:Led):Prop:=∃o4 l1,Less ((L,ab l1)::o4) o3∧WSt Γ env x (.ref acc) ((L,ab l1)::o4) (Cz K L)
noncomputable def bC (Γ:Cx) (env:Env) (elt:Expr) (gens:List Comprehension) (scope:Scope) (cp:Pos) (cl:List (Str×Addr)) (loc:Loc) (aa:Led) (fin:Addr->Addr->Led->Prop):Prop:=
 match gens with
 |⟨tgt,iter,_,_⟩::_=>WE Γ env iter aa (DZ Γ env elt gens scope cp cl loc fin tgt)
 |[]=>False
theorem aL {elt:Expr} {gs:List Comprehension} {cp:Pos} {cl:List (Str×Addr)} (hclos:closureFor scope env=pure cl) (hkind:scope.kind= .function) (hnames:∀x∈scope.names,x.2= .local ->scope.names.lookup x.1=some .local) (hn:(loc.map (·.1)).Nodup) (h0:∀p∈loc,p.2=none) (h:bC Γ env elt (⟨tgt,iter,ifs,0⟩::gs) scope cp cl loc aa (D0 K)) (hs:∀x,foldedSetIterable iter env x=pure x:=by intro _;kernel_rfl):WE Γ env (.ListComp elt (⟨tgt,iter,ifs,0⟩::gs) scope cp) aa K:=by
 refine W.of_eq (arm_eval_ListComp _ _ _ _ _) ?_;exact kB hs hclos hkind hnames hn h0 h
theorem bq {x:Str} {p':Pos} {elt:Expr} {gs:List Comprehension} {cp:Pos} {cl:List (Str×Addr)} {K:AF->Led->Prop} (hclos:closureFor scope env=pure cl) (hkind:scope.kind= .function) (hnames:∀x∈scope.names,x.2= .local ->scope.names.lookup x.1=some .local) (hn:(loc.map (·.1)).Nodup) (h0:∀p∈loc,p.2=none) (h:bC Γ env elt (⟨tgt,iter,ifs,0⟩::gs) scope cp cl loc aa (D1 Γ env x K)) (hsw:swapsWith (.ListComp elt (⟨tgt,iter,ifs,0⟩::gs) scope cp) (some (.Name x p')) pos.line env=pure true) (hs:∀x,foldedSetIterable iter env x=pure x:=by intro _;kernel_rfl):WX Γ env (.Assign [.Name x p'] (.ListComp elt (⟨tgt,iter,ifs,0⟩::gs) scope cp) pos) aa K:=by
 have e:exec (.Assign [.Name x p'] (.ListComp elt (⟨tgt,iter,ifs,0⟩::gs) scope cp) pos) env=(do
  PySem.standAt pos
  if ←swapsWith (.ListComp elt (⟨tgt,iter,ifs,0⟩::gs) scope cp) (some (.Name x p')) pos.line env then do
   (do let _ ←comprehension (.ListComp elt (⟨tgt,iter,ifs,0⟩::gs) scope cp) scope env (firstIterPos (⟨tgt,iter,ifs,0⟩::gs) cp) (newList []) false (eval iter env) (some fun v=>assignAll v ((assignEach [.Name x p'] env).map (·.2))))
   pure .next
  else do
   let v ←eval (.ListComp elt (⟨tgt,iter,ifs,0⟩::gs) scope cp) env
   assignStores env v (←swappedStores [.Name x p'] (.ListComp elt (⟨tgt,iter,ifs,0⟩::gs) scope cp) env) ((assignEach [.Name x p'] env).map (·.2))):=by rfl
 rw[hsw]at e;refine W.of_eq e (W.at ?_);simp only[pure_bind,if_true];refine W.bind (rel:=fun(_:Unit) (_:Unit)=>True) (W.bind (W.mono (kB (use:=some fun v=>assign (.Name x p') env v) (K:=fun _ o=>K .next o) hs hclos hkind hnames hn h0 ?_) fun _ o hK _ _=>W.pure (b:=()) trivial fun _ _=>W.pure .next hK));refine W.mono h fun a o1 h1=> ?_;obtain⟨items,h1⟩:=h1;refine⟨items,fun v hv A s hA hR=>eD.go h1 hv hA hR fun itv s2 need fp J o2 hI hR2 hJ hap h2=> ?_⟩;refine⟨need,fp,J,o2,hI,hR2,hJ,hap,fun acc L cs hcs itv fp J hI A s hA hR hJ hap=>codeAny_mono (h2 acc L cs hcs itv fp J hI A s hA hR hJ hap) ?_⟩;rintro r s3 ⟨f,o3,rfl,hR3,o4,l1,hs4,hst⟩;exact⟨f,o3,rfl,hR3,o4,l1,hs4,asg_Name hst _ (.val _)⟩
end
end
section
theorem gM {k:Int} (h0:0≤k) (h:k<(n:Int)):seqIndex? k n=some k.toNat:=by
 have h1:¬k<0:=by omega
 unfold seqIndex?;simp only[h1,if_false];rw[if_pos (by simp[h0,h])]
theorem All2.size (h:VRs vs items.toList):vs.length=items.size:=by
 have:=h.length;simpa using this
section
noncomputable def fS (Γ:Cx) (a i:AV) (aa:Led) (K:AV->Led->Prop):Prop:=
 ∀va vi,VR a va->VR i vi->∀A s,gJ Γ A->R Γ aa s->(∃T id,s.TypeIs va T∧typeLookup (.type T) "__getitem__"=pure (some (.builtin id)))∧
  wpAny (model PR Γ.w) A (getItem va vi) (Post VR Γ K) (fun _ _=>False) s
noncomputable abbrev CA (Γ:Cx) (K:AV->Led->Prop) (a i:AV) (o:Led):Prop:=fS Γ a i o K
noncomputable abbrev D2 (Γ:Cx) (env:Env) (slice:Expr) (K:AV->Led->Prop) (a:AV) (o:Led):Prop:=WE Γ env slice o (CA Γ K a)
theorem w_Subscript {value slice:Expr} (h:WE Γ env value aa (D2 Γ env slice K)) (hs:∀o i,subscripted slice false o i=operate [o,i] (getItem o i):=by intro _ _;kernel_rfl):WE Γ env (.Subscript value slice pos) aa K:=by
 refine W.of_eq (arm_eval_Subscript value slice pos env) (W.bind (W.mono h fun a o1 h1 va ha=>W.bind (W.holding (W.mono h1 fun i o2 h2 vi hi=>W.at ?_))));intro A s hA hR;obtain⟨⟨T,id,hT,hl⟩,hg⟩:=h2 va vi ha hi A s hA hR;unfold getitemInPython;refine wpAny_bind (wpAny_bind (wpAny_specialOf hT hl (wpAny_pure ?_)));rw[hs];refine wpAny_bind (wpAny_operate' (wpAny_mono hg ?_ fun _ _ x=>x));rintro v s1 ⟨b,o3,hv,hR3,hK⟩;exact wpAny_bind (wpAny_letTemporaryGo (wpAny_pure ⟨b,o3,hv,hR3,hK⟩))
theorem ar {k:Int} {a:AV} (hm:lL l vs∈aa) (h0:0≤k) (hz:k<2^63) (ha:vs[k.toNat]? =some a) (h:K a aa):fS Γ (.ref l) (.int k) aa K:=by
 intro va vi hva hvi A s hA hR;cases hva;cases hvi;obtain⟨items,n,ho,hvs⟩:=bD.get hR hm;obtain⟨v,hv,hr⟩:=hvs.get ha;refine⟨⟨"list","list.__getitem__",⟨_,ho,rfl⟩,slot_list_getitem.lookup⟩,?_⟩;exact wpAny_getItem_list ⟨_,ho,rfl,n,rfl⟩ h0 hz (by simpa using hv) ⟨a,aa,hr,hR,h⟩
theorem my {k:Int} {a:AV} (hm:lL l vs∈aa) (h0:k<0) (h1: -(vs.length:Int)≤k) (hz: -(2^63)≤k) (ha:vs[(k+vs.length).toNat]? =some a) (h:K a aa):
 fS Γ (.ref l) (.int k) aa K:=by
 intro va vi hva hvi A s hA hR;cases hva;cases hvi;obtain⟨items,n,ho,hvs⟩:=bD.get hR hm;have e:=hvs.size;obtain⟨v,hv,hr⟩:=hvs.get ha;refine⟨⟨"list","list.__getitem__",⟨_,ho,rfl⟩,slot_list_getitem.lookup⟩,?_⟩;refine wpAny_getItem_list_neg ⟨_,ho,rfl,n,rfl⟩ h0 (by rw[←e];exact h1) hz ?_ ⟨a,aa,hr,hR,h⟩;rw[←e];simpa using hv
theorem bV.get (hR:R Γ aa s) (hm:(l,bV vs)∈aa):∃items n,s.heap.get? l=some {cls:= .type "tuple",data:= .seq items n}∧VRs vs items.toList:=by
 obtain⟨o,ho,items,n,rfl,hv⟩:=hR.get hm;exact⟨items,n,ho,hv⟩
theorem je {k:Int} {a:AV} (hm:(l,bV vs)∈aa) (h0:0≤k) (hz:k<2^63) (ha:vs[k.toNat]? =some a) (h:K a aa):fS Γ (.ref l) (.int k) aa K:=by
 intro va vi hva hvi A s hA hR;cases hva;cases hvi;obtain⟨items,n,ho,hvs⟩:=bV.get hR hm;obtain⟨v,hv,hr⟩:=hvs.get ha;refine⟨⟨"tuple","tuple.__getitem__",⟨_,ho,rfl⟩,F.slot_tuple_getitem.lookup⟩,?_⟩
 have hlt:k.toNat<items.size:=by
  have:=(EB.mp hv).1;simpa using this
 exact getItem_tuple ⟨_,ho,rfl,n,rfl⟩ (by omega) hz (j:=k.toNat) (gM h0 (by omega)) (by simpa using hv) ⟨a,aa,hr,hR,h⟩
theorem jf {x:Str} {k:Int} (h0:0≤k) (hz:k<2^63) (hc:x.cps[k.toNat]? =some c) (h:K (.str ⟨#[c]⟩) aa):fS Γ (.str x) (.int k) aa K:=by
 intro va vi hva hvi A s hA hR;cases hva;cases hvi;refine⟨⟨"str","str.__getitem__",rfl,F.slot_str_getitem.lookup⟩,?_⟩;have hlt:k.toNat<x.cps.size:=(Array.getElem?_eq_some_iff.mp hc).1;refine getItem_str (c:=c) ?_ ?_ ⟨_,aa,.str _ _,hR.toks _,h⟩
 ·rw[Ik,decide_eq_false_iff_not,decide_eq_false_iff_not];omega
 ·rw[gM h0 (by show k<(x.cps.size:Int);omega)]
  exact hc
noncomputable def WPart (Γ:Cx) (env:Env) (e:Option Expr) (aa:Led) (K:Option Int->Led->Prop):Prop:=match e with
 |none=>K none aa
 |some e=>WE Γ env e aa fun a o=>∃k,a= .int k∧K (some k) o
theorem fT {e:Option Expr} {K:Option Int->Led->Prop} (h:WPart Γ env e aa K):W (fun(b:Option Int) (v:Value)=>IsPart v b) Γ (evalPart e env) aa K:=by
 cases e with
 |none=>exact W.pure .none h
 |some e=>
  intro A s hA hR;refine W.go h hA hR fun v s1 a o hv hR1 hz=> ?_;obtain⟨k,rfl,hK⟩:=hz;cases hv;exact⟨some k,o,.int _ _,hR1,hK⟩
noncomputable def sliceL (vs:List α) (lo hi:Option Int):List α:=match lo,hi with
 |none,none=>vs
 |some a,none=>vs.drop a.toNat
 |none,some b=>vs.take b.toNat
 |some a,some b=>(vs.take b.toNat).drop a.toNat
noncomputable def ic:Option Int->Prop
 |none=>True
 |some a=>0≤a
theorem iO (items:Array Value) (lo hi:Option Int) (h1:ic lo) (h2:ic hi):(slicePick items lo hi none).toList =sliceL items.toList lo hi:=by
 cases lo with
 |none=>cases hi with
  |none=>rw[slicePick_all];rfl
  |some b=>
   obtain⟨b',rfl⟩:=Hg h2;rw[slicePick_upto'];simp[sliceL]
 |some a=>
  obtain⟨a',rfl⟩:=Hg h1;cases hi with
  |none=>rw[slicePick_from'];simp[sliceL]
  |some b=>
   obtain⟨b',rfl⟩:=Hg h2;rw[slicePick_plain];simp only[Option.elim,clipAt_nat,sliceL,Es,Int.ofNat_eq_natCast];show IW (min b' items.size-min a' items.size) (H2 (min a' items.size) items.toList)=H2 a' (IW b' items.toList);rw[List.drop_take];have hsz:items.toList.length=items.size:=E0;rcases Hh a' items.size with h|h
   ·rw[Gm h]
    rcases Hh b' items.size with h'|h'
    ·rw[Gm h']
    ·rw[HI h',Gi (by rw[Fp,hsz];omega),Gi (by rw[Fp,hsz];omega)]
   ·rw[HI h,FJ (by omega),FJ (by omega)];simp
theorem All2.sliceL {ws:List Value} (h:VRs vs ws) (lo hi:Option Int):VRs (Mine.Internal.sliceL vs lo hi) (Mine.Internal.sliceL ws lo hi):=by
 cases lo<;>cases hi<;>first|exact h|exact h.take _|exact h.drop _|exact(h.take _).drop _
noncomputable abbrev CB (K:AV->Led->Prop) (a:AV) (lo hi:Option Int) (o3:Led):Prop:=ic lo∧ic hi∧∃l vs,a= .ref l∧lL l vs∈o3∧vs.length≤sizeLine∧∀r,K (.ref r) (lL r (Mine.Internal.sliceL vs lo hi)::o3)
noncomputable abbrev CC (Γ:Cx) (env:Env) (upper:Option Expr) (K:AV->Led->Prop) (a:AV) (lo:Option Int) (o:Led):Prop:=WPart Γ env upper o (CB K a lo)
noncomputable abbrev D3 (Γ:Cx) (env:Env) (lower upper:Option Expr) (K:AV->Led->Prop) (a:AV) (o:Led):Prop:=WPart Γ env lower o (CC Γ env upper K a)
end
end
section
section
noncomputable def xf (Γ:Cx) (a i v:AV) (aa:Led) (K:Led->Prop):Prop:=∀va vi vv,VR a va->VR i vi->VR v vv->WU Γ (setItem va vi vv) aa K
noncomputable def rd (e:Expr):Bool:=e.ctorIdx==(Expr.Starred e default).ctorIdx
theorem jg {k:Int} {v:AV} {K:Led->Prop} (h0:0≤k) (hz:k<2^63) (hn:k<vs.length) (hl:vs.length≤sizeLine) (hu:Upd l (bD vs) (bD (vs.set k.toNat v)) aa ao) (h:K ao):
 xf Γ (.ref l) (.int k) v aa K:=by
 intro va vi vv hva hvi hvv A s hA hR;cases hva;cases hvi;rename_i t;obtain⟨items,n,ho,hvs⟩:=bD.get hR hu.mem;have hsz:=hvs.size
 have fin:=hR.list (t:=s.toks) hu (f:=(·.setIfInBounds k.toNat vv)) ho (by
  rw[Array.toList_setIfInBounds];exact hvs.set hvv _)
 have hn':k<items.size:=by omega
 exact ki_setAt (n:=n) ho h0 hz hn' ⟨(),ao,trivial,fin,h⟩
noncomputable abbrev CD (Γ:Cx) (K:AF->Led->Prop) (v a k:AV) (o:Led):Prop:=xf Γ a k v o (B7 K)
noncomputable abbrev CE (Γ:Cx) (env:Env) (i:Expr) (K:AF->Led->Prop) (v a:AV) (o:Led):Prop:=WE Γ env i o (CD Γ K v a)
noncomputable abbrev D4 (Γ:Cx) (env:Env) (b i:Expr) (K:AF->Led->Prop) (v:AV) (o:Led):Prop:=WE Γ env b o (CE Γ env i K v)
theorem dK {o i value:Expr} {p':Pos} {K:AF->Led->Prop} (h:WE Γ env value aa (D4 Γ env o i K)) (hs:swapsWith value (some (.Subscript o i p')) pos.line env=pure false:=by kernel_rfl):WX Γ env (.Assign [.Subscript o i p'] value pos) aa K:=by
 intro A s hA hR;refine wpAny_Assign_Subscript (W.go h hA hR fun vv s1 v o1 hv hR1 h1=> ?_) hs;refine W.go h1 hA hR1 fun va s2 a o2 ha hR2 h2=> ?_;refine W.go h2 hA hR2 fun vk s3 k o3 hk hR3 h3=> ?_;refine W.go (h3 _ _ _ ha hk hv) hA hR3 fun _ s4 _ o4 _ hR4 h4=> ?_;exact⟨_,o4,.next,hR4,h4⟩
noncomputable def WStores (Γ:Cx) (env:Env):List Expr->List AV->Led->(Led->Prop)->Prop
 |[],[],aa,K=>K aa
 |t::ts,a::as,aa,K=>WAsg Γ env t a aa fun o=>WStores Γ env ts as o K
 |_,_,_,_=>False
theorem kF (t:Expr) (ts:List Expr):∃x,assignEach (t::ts) env=x::assignEach ts env∧((∀e p,t≠ .Starred e p)->x=(false,assign t env)):=by
 cases t<;>first|exact⟨_,rfl,fun _=>rfl⟩|exact⟨_,rfl,fun h=>absurd rfl (h _ _)⟩
theorem mz {ts:List Expr} (t:Expr) (h:∀e p,t≠ .Starred e p):assignEach (t::ts) env=(false,assign t env)::assignEach ts env:=(kF t ts).elim fun _ x=>x.2 h▸x.1
theorem t6 {K:Led->Prop}:∀(ts:List Expr) (as:List AV) (vs:List Value) (aa:Led),VRs as vs->(∀t∈ts,∀e p,t≠ .Starred e p)->WStores Γ env ts as aa K->
 WU Γ (assignInOrder ((assignEach ts env).map (·.2)) vs) aa K:=fun ts=>by
 induction ts with
 |nil=>
  intro as vs aa h1 _ h;cases h1 with
  |nil=>exact W.pure (b:=()) trivial h
  |cons _ _=>exact(show False from h).elim
 |cons t ts ih=>
  intro as vs aa h1 hst h;cases h1 with
  |nil=>exact(show False from h).elim
  |cons hv hvs=>
  have e:=mz (env:=env) (ts:=ts) t (hst _ (.head _));rw[e];exact W.bind (rel:=fun(_:Unit) (_:Unit)=>True) (W.holding ((h _ hv).mono fun _ o h1 _ _=>ih _ _ o hvs (fun t ht=>hst t (.tail _ ht)) h1))
theorem re:∀ts:List Expr,(assignEach ts env).length =ts.length:=fun ts=>by
 induction ts with
 |nil=>rfl
 |cons t ts ih=>exact((kF t ts).elim fun _ x=>congrArg Fb x.1:(assignEach (t::ts) env).length =(assignEach ts env).length +1).trans (congrArg _ ih)
theorem pO:∀ts:List Expr,(∀t∈ts,∀e p,t≠ .Starred e p)->(assignEach ts env).findIdx? (·.1)=none:=fun ts=>by
 induction ts with
 |nil=>exact fun _=>rfl
 |cons t ts ih=>
  intro hst;have e:=mz (env:=env) (ts:=ts) t (hst _ (.head _));rw[e,List.findIdx?_cons,ih fun t ht=>hst t (.tail _ ht)];rfl
theorem aI {p:Pos} {t:Addr} {K:Led->Prop} (hm:(t,bV as)∈aa) (hl:elts.length=as.length) (h:WStores Γ env elts as aa K) (hst':elts.any rd=false:=by kernel_rfl):WAsg Γ env (.Tuple elts k p) (.ref t) aa K:=by
 have hst:∀t∈elts,∀e p,t≠ .Starred e p:=fun t ht e p q=>by
  have:=HE.mp hst' t ht;rw[q]at this;exact this rfl
 intro v hv;cases hv;intro A s hA hR;obtain⟨items,n,ho,hvs⟩:=bV.get hR hm;refine wpAny_assign_Tuple hA.1 ⟨_,ho,rfl,n,rfl⟩ (by rw[re,hl,hvs.size]) (pO _ hst) fun h' hx=> ?_;have hR1:=hR.grow (t:=s.toks) (h':=h') fun b o e=>hx b o (Gh (Heap.lt_size e)) e;exact t6 elts as items.toList aa hvs hst h A _ hA hR1
noncomputable abbrev D5 (Γ:Cx) (env:Env) (target:Expr) (K:AF->Led->Prop) (a:AV) (o:Led):Prop:=WAsg Γ env target a o (B7 K)
theorem bO {target value:Expr} {K:AF->Led->Prop} (h:WE Γ env value aa (D5 Γ env target K)) (hs:swapsWith value (some target) pos.line env=pure false:=by kernel_rfl) (hw:swappedStores [target] value env=pure none:=by kernel_rfl) (hst:rd target=false:=by kernel_rfl):
 WX Γ env (.Assign [target] value pos) aa K:=by
 intro A s hA hR;refine wpAny_Assign_stores (W.go h hA hR fun v s1 a o1 hv hR1 h1=> ?_) hs hw
 have e:assignAll v ((assignEach [target] env).map (·.2))=assign target env v:=by
  cases target<;>first|rfl|cases hst
 rw[e];refine W.go (h1 v hv) hA hR1 fun _ s2 _ o2 _ hR2 h2=> ?_;exact⟨_,o2,.next,hR2,h2⟩
noncomputable abbrev D6 (Γ:Cx) (env:Env) (names:List Str) (K:AF->Led->Prop) (a:AV) (o:Led):Prop:=∃t as,a= .ref t∧(t,bV as)∈o∧as.length=names.length∧WBinds Γ env (names.reverse.zip as.reverse) o (B7 K)
theorem dm {ts:List Expr} {p:Pos} {value:Expr} {names:List Str} {K:AF->Led->Prop} (h:WE Γ env value aa (D6 Γ env names K)) (hs:swapsWith value (some (.Tuple ts k p)) pos.line env=pure false:=by kernel_rfl) (hw:swappedStores [.Tuple ts k p] value env=pure (some names)):
 WX Γ env (.Assign [.Tuple ts k p] value pos) aa K:=by
 have e:exec (.Assign [.Tuple ts k p] value pos) env=(do
  PySem.standAt pos
  if ←swapsWith value (some (.Tuple ts k p)) pos.line env then do
   evalThenUse value env fun v=>assignAll v ((assignEach [.Tuple ts k p] env).map (·.2))
   pure .next
  else do
   let v ←eval value env
   assignStores env v (←swappedStores [.Tuple ts k p] value env) ((assignEach [.Tuple ts k p] env).map (·.2))):=rfl
 rw[hs,hw]at e;refine W.of_eq e (W.at ?_);simp only[pure_bind,E1,if_false];refine W.bind (W.mono h fun a o h1 v hv=> ?_);obtain⟨t,as,rfl,hm,hl,h1⟩:=h1;cases hv;intro A s hA hR;obtain⟨items,n,ho,hvs⟩:=bV.get hR hm
 show wpAny _ A (do
  rule "assign.swapped-stores"
  let items ←unpackItems (.ref t) names.length none
  assignInOrder (names.reverse.map fun n=>bindName env n) items.reverse
  pure Flow.next) _ _ s
 refine wpAny_bind (wpAny_rule (wpAny_bind ?_));have hsz:names.length=items.size:=by rw[←hl,hvs.size]
 rw[hsz];refine wpAny_unpackItems_tuple hA.1 ⟨_,ho,rfl,n,rfl⟩ fun h' hx=> ?_;have hR1:=hR.grow (t:=s.toks) (h':=h') fun b o e=>hx b o (Gh (Heap.lt_size e)) e
 have go:∀(ns:List Str) (as:List AV) (vs:List Value) (o:Led),VRs as vs->as.length=ns.length->∀K,WBinds Γ env (ns.zip as) o K->WU Γ (assignInOrder (ns.map fun n=>bindName env n) vs) o K:=by
  intro ns;induction ns with
  |nil=>intro as vs o hv hl K h;cases hv<;>first|exact W.pure (b:=()) trivial h|(simp at hl)
  |cons n ns ih=>
   intro as vs o hv hl K h;cases hv with
   |nil=>simp at hl
   |cons hv hvs=>
    refine W.bind (rel:=fun(_:Unit) (_:Unit)=>True) (W.holding (W.bindName ((h _ hv).mono fun _ o1 h1 _ _=>ih _ _ o1 hvs (by simpa using hl) _ h1)))
 refine wpAny_bind (W.go (go names.reverse as.reverse items.toList.reverse o (hvs.reverse) (by simp[hl]) _ h1) hA hR1 fun _ s2 _ o2 _ hR2 h2=> ?_);exact wpAny_pure ⟨_,o2,.next,hR2,h2⟩
noncomputable abbrev D7 (Inv:Nat->Led->Prop) (n:Nat) (fl:AF) (o2:Led):Prop:=fl= .next ∧∃m o3,m<n∧Less o3 o2∧Inv m o3
noncomputable abbrev D8 (Γ:Cx) (env:Env) (body:List Stmt) (Inv:Nat->Led->Prop) (n:Nat) (K:AF->Led->Prop) (b:Bool) (o1:Led):Prop:=if b then WS Γ env body o1 (D7 Inv n)else K .next o1
theorem gN {test:Expr} (Inv:Nat->Led->Prop) {K:AF->Led->Prop} (h0:Inv n aa) (hturn:∀n o,Inv n o->WT Γ env test o (D8 Γ env body Inv n K)):
 WX Γ env (.While test body [] pos) aa K:=by
 intro A s hA hR;refine wpAny_While (codeAny_whileLoop (fun n s=>∃o,R Γ o s∧Inv n o) ?_ n ⟨aa,hR,h0⟩);rintro n s1 ⟨o,hR1,hinv⟩;refine dJ (W.goE (hturn n o hinv) hA hR1 fun b s2 o2 hR2 h2=> ?_);cases b with
 |true=>
  simp only[if_true]at h2⊢;refine dJ (W.go h2 hA hR2 fun fl s3 fl' o3 hfl hR3 hz=> ?_);obtain⟨rfl,m,o4,hm,hs,hi⟩:=hz;cases hfl;exact⟨m,hm,o4,hR3.sub hs,hi⟩
 |false=>
  simp only[E1,if_false]at h2⊢;exact wpAny_execs_nil ⟨_,o2,.next,hR2,h2⟩
end
end
section
noncomputable def wS (p:Params) (a:Addr):Obj:=((hd.heap_1 p).lookup a).getD {cls:= .none,data:= .fields #[]}
noncomputable def gl (o:Obj):FuncData:=match o.data with
 | .func fd=>fd
 |_=>{name:="",qualname:="",params:={posonlyargs:=[],args:=[],vararg:=none,kwonlyargs:=[],kw_defaults:=[],kwarg:=none,defaults:=[]},body:= .stmts [],scope:=default,globals:=0,closure:=[],defaults:= .none,kwdefaults:= .none }
noncomputable def ak (p:Params) (a:Addr):FuncData:=gl (wS p a)
structure TopFn (p:Params) (a:Addr) (fd:FuncData):Prop where
 o:∃ob,(hd.heap_1 p).lookup a=some ob∧ob.data= .func fd
 r:∃c ob vs t,fd.code= .ref c∧(hd.heap_1 p).lookup c=some ob∧ob.data= .fields vs∧vs[1]? =some (.str fd.qualname t)
section
theorem TopFn.hf {a:Addr} (h:TopFn Γ.w.params a fd) (hT:TopG Γ) (s:Shared) (hR:R Γ aa s):(∃o,s.heap.get? a=some o∧o.data= .func fd)∧s.heap.CodeRec fd.code fd.qualname:=by
 obtain⟨ob,e,hd⟩:=h.o;obtain⟨c,oc,vs,t,e1,e2,e3,e4⟩:=h.r;exact⟨⟨ob,hR.keep _ _ (hT.X _ _ e),hd⟩,c,oc,vs,t,e1,hR.keep _ _ (hT.X _ _ e2),e3,e4⟩
theorem am {a:Addr} (h:TopFn Γ.w.params a fd) (hT:TopG Γ):bu Γ aa (.ref a):=mr fun s hR=>(h.hf hT s hR).1.elim fun o x=>⟨o,fd,x.1,x.2⟩
noncomputable abbrev Cx.to (Γ:Cx) (h:Heap) (j:Nat):Cx:={Γ with h0:=h,k:=j,pa:=fun _=>True}
theorem gJ.at_to (x:gJ (Γ.at h) A) (hj:j≤Γ.k):gJ (Γ.to h j) A:=by
 obtain⟨h1,h2,h3,_⟩:=x;refine⟨h1,?_,?_,trivial⟩
 ·show A.depth+j<700;have:A.depth+Γ.k<700:=h2;omega
 ·show A.units+16*j<5000;have:A.units+16*Γ.k<5000:=h3;omega
theorem TopG.to (hT:TopG Γ) (hs:Sub Γ h):TopG (Γ.to h j):=by
 obtain⟨p,l,T⟩:=hT.T;exact⟨⟨p,l,T.keeps hs⟩,hT.X.keeps hs,fun t ht=>(hT.C t ht).keeps hs⟩
theorem Sub.refl:Sub Γ Γ.h0:=fun _ _ e=>e
theorem Sub.trans (a:Sub Γ h) (b:Sub (Γ.to h j) h'):Sub Γ h':=fun x o e=>b x o (a x o e)
noncomputable def NC (P:OP):Prop:=∀o,P o->∀vs,o.data= .fields vs->∀q t,vs[1]?≠some (.str q t)
theorem CF {vs}:NC (bV vs):=by rintro o ⟨_,_,rfl,_⟩ v e;cases e
theorem AR {v}:NC (h_ v):=by
 intro o h vs e;cases v with
 |none=>obtain⟨x,hx⟩:=h;rw[e]at hx;cases hx
 |some a=>obtain⟨x,hx,_⟩:=h;rw[e]at hx;cases hx
theorem ee {loc}:NC (ab loc):=by rintro o ⟨_,_,_,hd,_⟩ v e;rw[e]at hd;cases hd
theorem W.frame {rel:β->α->Prop} {t:Sem α} {F pre:Led} {K:β->Led->Prop} (hF:∀q∈F,NC q.2) (hs:Less (F++pre) aa) (w:∀h',Sub Γ h'->W rel (Γ.at h') t pre fun b o=>K b (F++o)):W rel Γ t aa K:=by
 intro A s hA hR0;have hR:=hR0.sub hs;have hRp:R Γ pre s:=hR.sub ⟨fun p hp=>EC _ hp,fun h=>(by rw[Ez]at h;exact(Gq.mp h).2.1)⟩;refine W.go (w (rest Γ pre s) hRp.sub_rest) hA hRp.rest fun v s' b o hv hR' hK=> ?_;refine⟨b,F++o,hv,?_,hK⟩;have hnd:=hR.nd;rw[Ez,Gq]at hnd;obtain⟨n1,_,n3⟩:=hnd
 have inrest:∀q∈F,∀ob,s.heap.get? q.1=some ob->(rest Γ pre s).get? q.1=some ob:=fun q hq ob e=>by
  refine fq e (fun hm=> ?_) fun hm=> ?_
  ·exact n3 q.1 (EE (f:=(·.1)) hq) q.1 hm rfl
  ·obtain⟨t',ht',e'⟩:=EP.mp hm
   exact(hR.tb t' ht').2.1 (e'▸EE (f:=(·.1)) (EY _ hq))
 have apart:∀q∈F,q.1∉keys o:=fun q hq hm=>by
  obtain⟨ob,e,_⟩:=hR.ow q (EY _ hq);obtain⟨p,hp,ep⟩:=EP.mp hm;have z:=hR'.ap p hp;rw[ep,show(Γ.at (rest Γ pre s)).h0.get? q.1=some ob from inrest q hq ob e]at z;cases z
 have codeOut:∀c qn,s'.heap.CodeRec (.ref c) qn->c∉keys o->c∉keys (F++o):=fun c qn hc ho hm=>by
  obtain⟨p,hp,ep⟩:=EP.mp hm;rcases E3.mp hp with hp|hp
  ·obtain⟨ob,e,hP⟩:=hR.ow p (EY _ hp)
   have e2:=hR'.keep _ _ (inrest p hp ob e);obtain⟨c',oc,vs,tq,e3,e4,e5,e6⟩:=hc;cases e3;rw[←ep,e2]at e4;cases e4;exact hF p hp ob hP vs e5 _ _ e6
  ·exact ho (ep▸EE (f:=(·.1)) hp)
 have back:=hR'.back hRp.sub_rest;refine⟨back.keep,?_,?_,?_,back.gens,back.os,fun t' ht'=>⟨(back.tb t' ht').1,?_⟩,?_⟩
 ·intro p hp
  rcases E3.mp hp with hp|hp
  ·obtain⟨ob,e,hP⟩:=hR.ow p (EY _ hp)
   exact⟨ob,hR'.keep _ _ (inrest p hp ob e),hP⟩
  ·exact back.ow p hp
 ·rw[Ez,Gq]
  refine⟨n1,back.nd,fun a ha b hb e=> ?_⟩;obtain⟨q,hq,rfl⟩:=EP.mp ha;exact apart q hq (e▸hb)
 ·intro p hp
  rcases E3.mp hp with hp|hp
  ·exact hR.ap p (EY _ hp)
  ·exact back.ap p hp
 ·obtain⟨q1,ps,q2,q3,q4⟩:=(back.tb t' ht').2
  refine⟨fun hm=> ?_,ps,q2,q3,fun pos cv e=> ?_⟩
  ·obtain⟨p,hp,ep⟩:=EP.mp hm
   rcases E3.mp hp with hp|hp
   ·exact(hR.tb t' ht').2.1 (ep▸EE (f:=(·.1)) (EY _ hp))
   ·exact q1 (ep▸EE (f:=(·.1)) hp)
  ·obtain⟨c,r1,r2,r3,r4⟩:=q4 pos cv e
   exact⟨c,r1,codeOut c _ (r1▸r3) r2,r3,r4⟩
 ·intro p hp ob e fd hd
  rcases E3.mp hp with hp'|hp'
  ·obtain⟨ob',e',hP⟩:=hR.ow p (EY _ hp')
   have e2:=hR'.keep _ _ (inrest p hp' ob' e');rw[e]at e2;cases e2;obtain⟨c,r1,r2,r3⟩:=hR.fn p (EY _ hp') _ e' fd hd;obtain⟨c',oc,vs,tq,e3,e4,e5,e6⟩:=id r3;rw[r1]at e3;cases e3
   have hc':c∉dD Γ:=fun hm=>by
    obtain⟨t',ht',et⟩:=EP.mp hm;obtain⟨_,ps,q2,q3,_⟩:=(hR.tb t' ht').2;rw[et,e4]at q2;cases q2;cases e5;exact qY q3 e6
   have hc2:c∉keys pre:=fun hm=>r2 (by unfold keys;rw[Ez];exact EC _ hm);have e7:(rest Γ pre s).get? c=some oc:=fq e4 hc2 hc';have rec':s'.heap.CodeRec fd.code fd.qualname:=⟨c,oc,vs,tq,r1,hR'.keep _ _ e7,e5,e6⟩;refine⟨c,r1,codeOut c _ (r1▸rec') (fun hm=> ?_),rec'⟩;obtain⟨p2,hp2,ep⟩:=EP.mp hm;have z:=hR'.ap p2 hp2;rw[ep,show(Γ.at (rest Γ pre s)).h0.get? c=some oc from e7]at z;cases z
  ·obtain⟨c,r1,r2,r3⟩:=back.fn p hp' ob e fd hd
   exact⟨c,r1,codeOut c _ (r1▸r3) r2,r3⟩
end
noncomputable def tV (p:Params) (a:Addr) (i:Nat):Value:=match (wS p a).data with
 | .seq items _=>items[i]?.getD .none
 |_=> .none
theorem au {n:Str} {ns:List Str} (h:cs.map (·.1)=n::ns):∃c cs',cs=(n,c)::cs'∧cs'.map (·.1)=ns:=by
 cases cs with
 |nil=>cases h
 |cons p cs=>
  obtain⟨m,c⟩:=p;rw[EQ,List.cons.injEq]at h;obtain⟨rfl,h⟩:=h;exact⟨c,cs,rfl,h⟩
theorem af (h:cs.map (·.1)=[]):cs=[]:=by
 cases cs with
 |nil=>rfl
 |cons p cs=>cases h
end
section
section
theorem eI (hm:lL l vs∈aa) (hz:vs.length≤sizeLine) (h:K (.int vs.length) aa):ai Γ (.builtin "len") [.ref l] [] aa K:=by
 intro va kv hv hk;cases hk;obtain _|⟨h1,_|_⟩:=hv;cases h1;intro A s hA hR;obtain⟨items,n,ho,hvs⟩:=bD.get hR hm;have e:=hvs.size
 have hlt:(items.size:Int)<2^63:=by
  have:sizeLine<2^63:=by decide
  omega
 exact Calls.call_len_list ⟨_,ho,rfl,n,rfl⟩ hlt ⟨_,aa,.int _ _,hR.toks _,e▸h⟩
theorem bP {b:Int} (h:∀r,K (.ref r) ((r,nw 0 b 1)::aa)):ai Γ (.type "range") [.int b] [] aa K:=by
 intro va kv hv hk;cases hk;obtain _|⟨h1,_|_⟩:=hv;cases h1;exact fun A s hA hR=>call_range_1 ⟨_,_,.val _,hR.push (t:=s.toks+1+1) ⟨_,_,_,rfl⟩ q9,h _⟩
theorem gO {a b:Int} (h:∀r,K (.ref r) ((r,nw a b 1)::aa)):ai Γ (.type "range") [.int a,.int b] [] aa K:=by
 intro va kv hv hk;cases hk;obtain _|⟨h1,_|⟨h2,_|_⟩⟩:=hv;cases h1;cases h2;exact fun A s hA hR=>call_range_2 ⟨_,_,.val _,hR.push (t:=s.toks+1) ⟨_,_,_,rfl⟩ q9,h _⟩
theorem rh {a b c:Int} (hc:c≠0) (hp:Builtin.divisionGoesByPylong (b-a) c=false) (h:∀r,K (.ref r) ((r,nw a b c)::aa)):ai Γ (.type "range") [.int a,.int b,.int c] [] aa K:=by
 intro va kv hv hk;cases hk;obtain _|⟨h1,_|⟨h2,_|⟨h3,_|_⟩⟩⟩:=hv;cases h1;cases h2;cases h3;exact fun A s hA hR=>call_range_3 hc ⟨_,_,.val _,hR.push (t:=s.toks) ⟨_,_,_,rfl⟩ q9,h _⟩ (.inl hp)
noncomputable def gP (a b:Nat):List AV:=(Et (b-a)).map fun j=>AV.int ((a+j:Nat):Int)
theorem aG:(gP a b).length =b-a:=by simp[gP]
theorem dU (h:i<b-a):(gP a b)[i]? =some (.int ((a+i:Nat):Int)):=by
 unfold gP;rw[Eu,FL h];rfl
theorem t7:dr a 1 (b-a)=gP a b:=by
 unfold dr gP;refine GI fun j _=> ?_
 congr 1;omega
theorem bM {r:Addr} {K:(Led->Prop)->Led->Prop} (hm:(r,nw a b 1)∈aa) (ha:a<2^62) (hb:b<2^62) (h:K (fun _=>True) aa):eD Γ tgt (.ref r) aa ((gP a b).map .one) K:=by
 rw[←t7];refine mw hm (small_one (by omega) (by omega) (by omega) (by omega)) ?_ h;rw[rangeSize_one];split<;>omega
end
end
section
theorem gl_bisect_right:nsIn (hd.heap_1 p) mainGlobals "bisect_right"=some (some (.ref 32)):=by kernel_rfl
theorem gl_ValueError:nsIn (hd.heap_1 p) mainGlobals "ValueError"=some none:=by kernel_rfl
theorem bb_ValueError:bootBuiltins "ValueError"=some (.type "ValueError"):=by kernel_rfl
theorem gl_len:nsIn (hd.heap_1 p) mainGlobals "len"=some none:=by kernel_rfl
theorem bb_len:bootBuiltins "len"=some (.builtin "len"):=by kernel_rfl
theorem gl_bisect_left:nsIn (hd.heap_1 p) mainGlobals "bisect_left"=some (some (.ref 50)):=by kernel_rfl
theorem gl_DIV_LIMIT:∃t,nsIn (hd.heap_1 p) mainGlobals "_DIV_LIMIT"=some (some (.int 4000 t)):=⟨_,rfl⟩
theorem gl_divmod:nsIn (hd.heap_1 p) mainGlobals "divmod"=some none:=by kernel_rfl
theorem bb_divmod:bootBuiltins "divmod"=some (.builtin "divmod"):=by kernel_rfl
theorem gl_div3n2n:nsIn (hd.heap_1 p) mainGlobals "_div3n2n"=some (some (.ref 64)):=by kernel_rfl
theorem gl_div2n1n:nsIn (hd.heap_1 p) mainGlobals "_div2n1n"=some (some (.ref 57)):=by kernel_rfl
theorem gl_int2digits:nsIn (hd.heap_1 p) mainGlobals "_int2digits"=some (some (.ref 71)):=by kernel_rfl
theorem gl_reversed:nsIn (hd.heap_1 p) mainGlobals "reversed"=some none:=by kernel_rfl
theorem bb_reversed:bootBuiltins "reversed"=some (.type "reversed"):=by kernel_rfl
theorem gl_digits2int:nsIn (hd.heap_1 p) mainGlobals "_digits2int"=some (some (.ref 78)):=by kernel_rfl
theorem gl_ZeroDivisionError:nsIn (hd.heap_1 p) mainGlobals "ZeroDivisionError"=some none:=by kernel_rfl
theorem bb_ZeroDivisionError:bootBuiltins "ZeroDivisionError"=some (.type "ZeroDivisionError"):=by kernel_rfl
theorem gl_int_divmod:nsIn (hd.heap_1 p) mainGlobals "int_divmod"=some (some (.ref 92)):=by kernel_rfl
theorem gl_divmod_pos:nsIn (hd.heap_1 p) mainGlobals "_divmod_pos"=some (some (.ref 85)):=by kernel_rfl
theorem gl_law_element:nsIn (hd.heap_1 p) mainGlobals "_law_element"=some (some (.ref 115)):=by kernel_rfl
theorem gl_enumerate:nsIn (hd.heap_1 p) mainGlobals "enumerate"=some none:=by kernel_rfl
theorem bb_enumerate:bootBuiltins "enumerate"=some (.type "enumerate"):=by kernel_rfl
theorem gl_range:nsIn (hd.heap_1 p) mainGlobals "range"=some none:=by kernel_rfl
theorem bb_range:bootBuiltins "range"=some (.type "range"):=by kernel_rfl
theorem gl_insort_right:nsIn (hd.heap_1 p) mainGlobals "insort_right"=some (some (.ref 23)):=by kernel_rfl
theorem gl_insort_left:nsIn (hd.heap_1 p) mainGlobals "insort_left"=some (some (.ref 41)):=by kernel_rfl
theorem gl_SubElement:nsIn (hd.heap_1 p) mainGlobals "SubElement"=some (some (.ref 101)):=by kernel_rfl
theorem gl_isinstance:nsIn (hd.heap_1 p) mainGlobals "isinstance"=some none:=by kernel_rfl
theorem bb_isinstance:bootBuiltins "isinstance"=some (.builtin "isinstance"):=by kernel_rfl
theorem gl_str:nsIn (hd.heap_1 p) mainGlobals "str"=some none:=by kernel_rfl
theorem bb_str:bootBuiltins "str"=some (.type "str"):=by kernel_rfl
theorem gl_sum:nsIn (hd.heap_1 p) mainGlobals "sum"=some none:=by kernel_rfl
theorem bb_sum:bootBuiltins "sum"=some (.builtin "sum"):=by kernel_rfl
theorem gl_zip:nsIn (hd.heap_1 p) mainGlobals "zip"=some none:=by kernel_rfl
theorem bb_zip:bootBuiltins "zip"=some (.type "zip"):=by kernel_rfl
theorem gl_law_arcs:nsIn (hd.heap_1 p) mainGlobals "_law_arcs"=some (some (.ref 120)):=by kernel_rfl
theorem gl_law_rows:nsIn (hd.heap_1 p) mainGlobals "_law_rows"=some (some (.ref 127)):=by kernel_rfl
theorem gl_sorted:nsIn (hd.heap_1 p) mainGlobals "sorted"=some none:=by kernel_rfl
theorem bb_sorted:bootBuiltins "sorted"=some (.builtin "sorted"):=by kernel_rfl
theorem gl_list:nsIn (hd.heap_1 p) mainGlobals "list"=some none:=by kernel_rfl
theorem bb_list:bootBuiltins "list"=some (.type "list"):=by kernel_rfl
theorem gl_min:nsIn (hd.heap_1 p) mainGlobals "min"=some none:=by kernel_rfl
theorem bb_min:bootBuiltins "min"=some (.builtin "min"):=by kernel_rfl
theorem gl_law_tree:nsIn (hd.heap_1 p) mainGlobals "_law_tree"=some (some (.ref 132)):=by kernel_rfl
theorem gl_serialize_text:nsIn (hd.heap_1 p) mainGlobals "_serialize_text"=some (some (.ref 108)):=by kernel_rfl
theorem pP (p:Params):TopFn p 23 (ak p 23):=⟨⟨_,rfl,rfl⟩,⟨_,_,_,_,rfl,rfl,rfl,rfl⟩⟩
theorem ny (p:Params):TopFn p 32 (ak p 32):=⟨⟨_,rfl,rfl⟩,⟨_,_,_,_,rfl,rfl,rfl,rfl⟩⟩
theorem pQ (p:Params):TopFn p 41 (ak p 41):=⟨⟨_,rfl,rfl⟩,⟨_,_,_,_,rfl,rfl,rfl,rfl⟩⟩
theorem nz (p:Params):TopFn p 50 (ak p 50):=⟨⟨_,rfl,rfl⟩,⟨_,_,_,_,rfl,rfl,rfl,rfl⟩⟩
theorem xg (p:Params):TopFn p 57 (ak p 57):=⟨⟨_,rfl,rfl⟩,⟨_,_,_,_,rfl,rfl,rfl,rfl⟩⟩
theorem xh (p:Params):TopFn p 64 (ak p 64):=⟨⟨_,rfl,rfl⟩,⟨_,_,_,_,rfl,rfl,rfl,rfl⟩⟩
theorem xj (p:Params):TopFn p 71 (ak p 71):=⟨⟨_,rfl,rfl⟩,⟨_,_,_,_,rfl,rfl,rfl,rfl⟩⟩
theorem xk (p:Params):TopFn p 78 (ak p 78):=⟨⟨_,rfl,rfl⟩,⟨_,_,_,_,rfl,rfl,rfl,rfl⟩⟩
theorem AS (p:Params):TopFn p 85 (ak p 85):=⟨⟨_,rfl,rfl⟩,⟨_,_,_,_,rfl,rfl,rfl,rfl⟩⟩
theorem pR (p:Params):TopFn p 92 (ak p 92):=⟨⟨_,rfl,rfl⟩,⟨_,_,_,_,rfl,rfl,rfl,rfl⟩⟩
theorem oI (p:Params):TopFn p 101 (ak p 101):=⟨⟨_,rfl,rfl⟩,⟨_,_,_,_,rfl,rfl,rfl,rfl⟩⟩
theorem wT (p:Params):TopFn p 108 (ak p 108):=⟨⟨_,rfl,rfl⟩,⟨_,_,_,_,rfl,rfl,rfl,rfl⟩⟩
theorem rj (p:Params):TopFn p 115 (ak p 115):=⟨⟨_,rfl,rfl⟩,⟨_,_,_,_,rfl,rfl,rfl,rfl⟩⟩
theorem wU (p:Params):TopFn p 120 (ak p 120):=⟨⟨_,rfl,rfl⟩,⟨_,_,_,_,rfl,rfl,rfl,rfl⟩⟩
theorem wV (p:Params):TopFn p 127 (ak p 127):=⟨⟨_,rfl,rfl⟩,⟨_,_,_,_,rfl,rfl,rfl,rfl⟩⟩
theorem wW (p:Params):TopFn p 132 (ak p 132):=⟨⟨_,rfl,rfl⟩,⟨_,_,_,_,rfl,rfl,rfl,rfl⟩⟩
theorem oJ (p:Params):TopFn p 139 (ak p 139):=⟨⟨_,rfl,rfl⟩,⟨_,_,_,_,rfl,rfl,rfl,rfl⟩⟩
theorem AT (p:Params):TopFn p 144 (ak p 144):=⟨⟨_,rfl,rfl⟩,⟨_,_,_,_,rfl,rfl,rfl,rfl⟩⟩
end
section
theorem if_t {p q:Prop} (h:p):if true=true then p else q:=by simpa using h
theorem if_f {p q:Prop} (h:q):if false=true then p else q:=by simpa using h
noncomputable def ay (p:Params) (a:Addr):List Stmt:=match (ak p a).body with
 | .stmts b=>b
 |_=>[]
theorem bv {st:Stmt} {rest:List Stmt} {K:AF->Led->Prop} (J:Led->Prop) (h:WX Γ env st aa fun f o=>f= .next ∧J o) (h2:∀o,J o->WS Γ env rest o K):WS Γ env (st::rest) aa K:=
 s_cons (W.mono h fun f o h=>by obtain⟨rfl,h⟩:=h;exact h2 o h)
theorem ai.frame {f:Value} {F pre:Led} (hF:∀q∈F,NC q.2) (hs:Less (F++pre) aa) (w:∀h',Sub Γ h'->ai (Γ.at h') f as ks pre fun b o=>K b (F++o)):ai Γ f as ks aa K:=
 fun vs kv h1 h2=>W.frame hF hs fun h' hs'=>w h' hs' vs kv h1 h2
theorem ai.mono {f:Value} {K':AV->Led->Prop} (w:ai Γ f as ks aa K) (h:∀b o,K b o->K' b o):ai Γ f as ks aa K':=
 fun vs kv h1 h2=>(w vs kv h1 h2).mono h
theorem ai.less {f:Value} (w:ai (Γ.to h j) f as ks aa K) (hj:j≤Γ.k):ai (Γ.at h) f as ks aa K:=by
 intro vs kv h1 h2 A s hA hR;refine wpAny_mono (w vs kv h1 h2 A s (gJ.at_to hA hj) ⟨hR.keep,hR.ow,hR.nd,hR.ap,hR.gens,hR.os,hR.tb,hR.fn⟩) ?_ fun _ _ x=>x;rintro v s' ⟨b,o,hv,hR',hK⟩;exact⟨b,o,hv,⟨hR'.keep,hR'.ow,hR'.nd,hR'.ap,hR'.gens,hR'.os,hR'.tb,hR'.fn⟩,hK⟩
theorem ai.sub {f:Value} (hs:Less ao aa) (w:ai Γ f as ks ao K):ai Γ f as ks aa K:=
 fun vs kv h1 h2=>W.sub hs (w vs kv h1 h2)
theorem bu.less {f:Value} (h:bu Γ ao f) (hs:Less ao aa):bu Γ aa f:=fun s hR=>h s (hR.sub hs)
theorem bu.to_k {f:Value} (x:bu (Γ.to h j) aa f):bu (Γ.at h) aa f:=fun s hR=>x s ⟨hR.keep,hR.ow,hR.nd,hR.ap,hR.gens,hR.os,hR.tb,hR.fn⟩
noncomputable def bn (m:Nat) (Γ:Cx) (f:Value) (D:AV->Prop) (kv:AV->Int) (I:Nat->Led->Prop):Prop:=
 ∀h',Sub Γ h'->∀c o,I c o->bu (Γ.to h' m) o f∧(c<1000->∀a,D a->ai (Γ.to h' m) f [a] [] o fun r o'=>r= .int (kv a)∧I (c+1) o')
theorem bn.to {m:Nat} {f:Value} {kv:AV->Int} (h:bn m Γ f D kv I) (hs:Sub Γ h'):bn m (Γ.to h' j) f D kv I:=
 fun h2 hs2=>h h2 (Sub.trans (j:=j) hs hs2)
noncomputable def kq (p:Nat->Bool):Nat->Nat->Nat->Nat×Nat
 |0,lo,_=>(lo,0)
 |f+1,lo,hi=>if lo<hi then
   if p ((lo+hi)/2)then((kq p f lo ((lo+hi)/2)).1,(kq p f lo ((lo+hi)/2)).2+1)
   else((kq p f ((lo+hi)/2+1) hi).1,(kq p f ((lo+hi)/2+1) hi).2+1)
  else(lo,0)
noncomputable def bh (p:Nat->Bool) (lo hi:Nat):Nat×Nat:=kq p (hi-lo) lo hi
theorem lA (h:lo<hi):lo≤(lo+hi)/2:=(GQ (by decide)).mpr (by rw[HO];exact EZ (ES h) _)
theorem rm (h:lo<hi):(lo+hi)/2<hi:=(Fo (by decide)).mpr (by rw[HO];exact Gv h _)
theorem oK {f:Nat} (h:lo<hi) (e:hi-lo≤f+1):(lo+hi)/2-lo≤f:=E_ (Ev (GU (lA h) (rm h)) e)
theorem oM {f:Nat} (h:lo<hi) (e:hi-lo≤f+1):hi-((lo+hi)/2+1)≤f:=E_ (Ev (GZ h (IJ (lA h))) e)
theorem lB (h:hi-lo≤0):¬lo<hi:=F3.mpr (Hm (Nat.le_zero.mp h))
theorem lC {p:Nat->Bool}:∀{f g lo hi:Nat},hi-lo≤f->hi-lo≤g->kq p f lo hi=kq p g lo hi:=by
 have z:∀{g lo hi:Nat},¬lo<hi->kq p g lo hi=(lo,0):=fun {g lo hi} h=>by
  cases g with
  |zero=>rfl
  |succ g=>exact if_neg h
 intro f;induction f with
 |zero=>intro g lo hi h _;exact(z (g:=g) (lB h)).symm
 |succ f ih=>
  intro g lo hi h1 h2;by_cases h:lo<hi
  ·cases g with
   |zero=>exact(lB h2 h).elim
   |succ g=>
    have a:=ih (oK h h1) (oK h h2);have b:=ih (oM h h1) (oM h h2);show ite _ _ _=ite _ _ _;rw[a,b]
  ·rw[z h,z h]
theorem cb {p:Nat->Bool}:bh p lo hi=if lo<hi then
 if p ((lo+hi)/2)then((bh p lo ((lo+hi)/2)).1,(bh p lo ((lo+hi)/2)).2+1)
 else((bh p ((lo+hi)/2+1) hi).1,(bh p ((lo+hi)/2+1) hi).2+1)
 else(lo,0):=
 (lC (g:=hi-lo+1) (EL _) (F5 _)).trans (ite_congr rfl (fun h=>by
   unfold bh;rw[lC (p:=p) (oK h (F5 _)) (EL _),lC (p:=p) (oM h (F5 _)) (EL _)]) fun _=>rfl)
theorem i4 {p:Nat->Bool} {C:Nat->Nat->Nat×Nat->Prop} (h0:∀lo hi,¬lo<hi->C lo hi (lo,0)) (h1:∀lo hi r,lo<hi->p ((lo+hi)/2)=true->C lo ((lo+hi)/2) r->C lo hi (r.1,r.2+1)) (h2:∀lo hi r,lo<hi->p ((lo+hi)/2)=false->C ((lo+hi)/2+1) hi r->C lo hi (r.1,r.2+1)) (lo hi:Nat):C lo hi (bh p lo hi):=by
 unfold bh;generalize e:hi-lo=f;replace e:hi-lo≤f:=Fh e;induction f generalizing lo hi with
 |zero=>exact h0 _ _ (lB e)
 |succ f ih=>
  by_cases h:lo<hi
  ·rw[kq,if_pos h]
   cases hp:p ((lo+hi)/2)with
   |true=>exact h1 _ _ _ h hp (ih _ _ (oK h e))
   |false=>exact h2 _ _ _ h hp (ih _ _ (oM h e))
  ·rw[kq,if_neg h]
   exact h0 _ _ h
theorem oN {p:Nat->Bool} (h:lo<hi):1≤(bh p lo hi).2:=by
 rw[cb,if_pos h];split<;>exact Gn ..
theorem fU (lo hi:Nat):((lo:Int)+(hi:Int)).fdiv 2=(((lo+hi)/2:Nat):Int):=by
 rw[FF _ (by decide)];omega
theorem bX {x y:Int} (h:y.natAbs<1073741824):Builtin.divisionGoesByPylong x y=false:=PyProof.noPylong_small h
theorem ie (h:n≤sizeLine):(n:Int)<2^63:=by
 have:sizeLine<2^63:=by decide
 omega
theorem lD (h:i<vs.length):vs[i]? =some (vs.getD i .none):=by
 rw[Ey,Ex h];rfl
theorem ek32:EnvOk (ah (ak p 32) f L cs):=⟨by kernel_rfl,by kernel_rfl⟩
theorem ka32:KdA (ah (ak p 32) f L cs) [("a",.local),("x",.local),("lo",.local),("hi",.local),("key",.local),("mid",.local),("ValueError",.globalImplicit),("len",.globalImplicit)]:=⟨by kernel_rfl,by kernel_rfl⟩
theorem jh (hT:TopG Γ) {x:Int} {hv:AV} {K:AF->Led->Prop} (hz:vs.length≤sizeLine) (hh:(hv= .none ∧hi=vs.length)∨(hv= .int hi∧hi≤vs.length)) (hx:∀i,i<vs.length->vs.getD i .none = .int (xs i)) (hm:lL l vs∈aa) (hK:∀loc o,o=aa->K (.ret (.int (bh (fun i=>decide (x<xs i)) lo hi).1)) ((L,ab loc)::o)):
 WS Γ (ah (ak Γ.w.params 32) 32 L []) (ay Γ.w.params 32) ((L,ab [nR "a" l,nI "x" x,nI "lo" lo,("hi",some hv),("key",some .none),("mid",none)])::aa) K:=by
 have hm0:=hm;refine s_cons ?_;show"w32";rw[show decide ((lo:Int)<0)=false from by simp];show"o32";show"o32";refine bv (fun o=>o=(L,ab [nR "a" l,nI "x" x,nI "lo" lo,nI "hi" hi,("key",some .none),("mid",none)])::aa) ?_ ?_
 ·show"w32"
  rcases hh with⟨rfl,rfl⟩|⟨rfl,hle⟩
  ·refine aX (b:=true) (by intro v h;cases h;rfl) ?_
   show"w32";refine eI (by show"mem") hz ?_;show"w32";exact⟨rfl,rfl⟩
  ·refine aX (b:=false) (by intro v h;cases h;rfl) ?_
   show"w32";exact⟨rfl,rfl⟩
 have hle:hi≤vs.length:=by rcases hh with h|h<;>omega
 clear hh;rintro _ rfl;show"w32";refine aX (b:=true) (by intro v h;cases h;rfl) ?_;show"w32"
 refine gN (n:=hi-lo) (fun n o=>∃lo' hi' m o',n=hi'-lo'∧hi'≤vs.length∧(bh (fun i=>decide (x<xs i)) lo' hi').1=(bh (fun i=>decide (x<xs i)) lo hi).1∧o'=aa∧
  o=(L,ab [nR "a" l,nI "x" x,nI "lo" lo',nI "hi" hi',("key",some .none),("mid",m)])::o') ⟨lo,hi,none,aa,rfl,hle,rfl,rfl,rfl⟩ ?_
 rintro n o ⟨lo',hi',m,o',rfl,hle',hb,hi0,rfl⟩;have hm:=hi0▸hm0;show"w32";by_cases hlt:lo'<hi'
 ·rw[show decide ((lo':Int)<(hi':Int))=true from by simpa using hlt]
  have hin:(lo'+hi')/2<vs.length:=by omega
  show"w32";refine dT (by decide) (bX (by decide)) ?_;rw[fU];show"w32";refine ar (by show"mem") (Er _) (ie (by omega)) (by rw[Es];exact lD hin) ?_;show"w32";rw[hx _ hin];show"w32";rw[cb,if_pos hlt]at hb;by_cases hp:(x<xs ((lo'+hi')/2))
  ·have hpb:(decide (x<xs ((lo'+hi')/2)))=true:=by first|exact decide_eq_true hp|(rw[decide_eq_true hp];rfl)
   simp only[hpb,if_true,if_false,E1]at hb;rw[show decide (x<xs ((lo'+hi')/2))=true from decide_eq_true hp];show"w32";exact⟨rfl,_,_,by show(lo'+hi')/2-lo'<hi'-lo';omega,Less.refl,⟨lo',(lo'+hi')/2,_,o',rfl,by omega,by simpa using hb,hi0,rfl⟩⟩
  ·have hpb:(decide (x<xs ((lo'+hi')/2)))=false:=by first|exact decide_eq_false hp|(rw[decide_eq_false hp];rfl)
   simp only[hpb,if_true,if_false,E1]at hb;rw[show decide (x<xs ((lo'+hi')/2))=false from decide_eq_false hp];show"w32";exact⟨rfl,_,_,by show hi'-((lo'+hi')/2+1)<hi'-lo';omega,Less.refl,⟨(lo'+hi')/2+1,hi',_,o',rfl,hle',by simpa using hb,hi0,rfl⟩⟩
 ·rw[show decide ((lo':Int)<(hi':Int))=false from by simpa using hlt]
  rw[cb,if_neg hlt]at hb;show"w32";replace hb:lo'=_:=hb;show K (.ret (.int (lo':Int))) _;rw[hb];exact hK _ _ hi0
theorem ek50:EnvOk (ah (ak p 50) f L cs):=⟨by kernel_rfl,by kernel_rfl⟩
theorem ka50:KdA (ah (ak p 50) f L cs) [("a",.local),("x",.local),("lo",.local),("hi",.local),("key",.local),("mid",.local),("ValueError",.globalImplicit),("len",.globalImplicit)]:=⟨by kernel_rfl,by kernel_rfl⟩
theorem ji (hT:TopG Γ) {x:Int} {hv:AV} {K:AF->Led->Prop} (hz:vs.length≤sizeLine) (hh:(hv= .none ∧hi=vs.length)∨(hv= .int hi∧hi≤vs.length)) (hx:∀i,i<vs.length->vs.getD i .none = .int (xs i)) (hm:lL l vs∈aa) (hK:∀loc o,o=aa->K (.ret (.int (bh (fun i=> !decide (xs i<x)) lo hi).1)) ((L,ab loc)::o)):
 WS Γ (ah (ak Γ.w.params 50) 50 L []) (ay Γ.w.params 50) ((L,ab [nR "a" l,nI "x" x,nI "lo" lo,("hi",some hv),("key",some .none),("mid",none)])::aa) K:=by
 have hm0:=hm;refine s_cons ?_;show"w50";rw[show decide ((lo:Int)<0)=false from by simp];show"o50";show"o50";refine bv (fun o=>o=(L,ab [nR "a" l,nI "x" x,nI "lo" lo,nI "hi" hi,("key",some .none),("mid",none)])::aa) ?_ ?_
 ·show"w50"
  rcases hh with⟨rfl,rfl⟩|⟨rfl,hle⟩
  ·refine aX (b:=true) (by intro v h;cases h;rfl) ?_
   show"w50";refine eI (by show"mem") hz ?_;show"w50";exact⟨rfl,rfl⟩
  ·refine aX (b:=false) (by intro v h;cases h;rfl) ?_
   show"w50";exact⟨rfl,rfl⟩
 have hle:hi≤vs.length:=by rcases hh with h|h<;>omega
 clear hh;rintro _ rfl;show"w50";refine aX (b:=true) (by intro v h;cases h;rfl) ?_;show"w50"
 refine gN (n:=hi-lo) (fun n o=>∃lo' hi' m o',n=hi'-lo'∧hi'≤vs.length∧(bh (fun i=> !decide (xs i<x)) lo' hi').1=(bh (fun i=> !decide (xs i<x)) lo hi).1∧o'=aa∧
  o=(L,ab [nR "a" l,nI "x" x,nI "lo" lo',nI "hi" hi',("key",some .none),("mid",m)])::o') ⟨lo,hi,none,aa,rfl,hle,rfl,rfl,rfl⟩ ?_
 rintro n o ⟨lo',hi',m,o',rfl,hle',hb,hi0,rfl⟩;have hm:=hi0▸hm0;show"w50";by_cases hlt:lo'<hi'
 ·rw[show decide ((lo':Int)<(hi':Int))=true from by simpa using hlt]
  have hin:(lo'+hi')/2<vs.length:=by omega
  show"w50";refine dT (by decide) (bX (by decide)) ?_;rw[fU];show"w50";refine ar (by show"mem") (Er _) (ie (by omega)) (by rw[Es];exact lD hin) ?_;show"w50";rw[hx _ hin];show"w50";rw[cb,if_pos hlt]at hb;by_cases hp:(xs ((lo'+hi')/2)<x)
  ·have hpb:(!decide (xs ((lo'+hi')/2)<x))=false:=by first|exact decide_eq_true hp|(rw[decide_eq_true hp];rfl)
   simp only[hpb,if_true,if_false,E1]at hb;rw[show decide (xs ((lo'+hi')/2)<x)=true from decide_eq_true hp];show"w50";exact⟨rfl,_,_,by show hi'-((lo'+hi')/2+1)<hi'-lo';omega,Less.refl,⟨(lo'+hi')/2+1,hi',_,o',rfl,hle',by simpa using hb,hi0,rfl⟩⟩
  ·have hpb:(!decide (xs ((lo'+hi')/2)<x))=true:=by first|exact decide_eq_false hp|(rw[decide_eq_false hp];rfl)
   simp only[hpb,if_true,if_false,E1]at hb;rw[show decide (xs ((lo'+hi')/2)<x)=false from decide_eq_false hp];show"w50";exact⟨rfl,_,_,by show(lo'+hi')/2-lo'<hi'-lo';omega,Less.refl,⟨lo',(lo'+hi')/2,_,o',rfl,by omega,by simpa using hb,hi0,rfl⟩⟩
 ·rw[show decide ((lo':Int)<(hi':Int))=false from by simpa using hlt]
  rw[cb,if_neg hlt]at hb;show"w50";replace hb:lo'=_:=hb;show K (.ret (.int (lo':Int))) _;rw[hb];exact hK _ _ hi0
theorem mD (hT:TopG Γ) {x:Int} {f:Value} {m:Nat} {kv:AV->Int} {hv:AV} {K:AF->Led->Prop} (hz:vs.length≤sizeLine) (hh:(hv= .none ∧hi=vs.length)∨(hv= .int hi∧hi≤vs.length)) (hD:∀i,i<vs.length->D (vs.getD i .none)) (hI:∀c o,I c o->lL l vs∈o) (hkey:bn m Γ f D kv I) (hmk:m≤Γ.k) (hf:(f==Value.none)=false) (h0:I c aa) (hcb:c+(bh (fun i=>decide (x<kv (vs.getD i .none))) lo hi).2≤1000) (hK:∀loc o,I (c+(bh (fun i=>decide (x<kv (vs.getD i .none))) lo hi).2) o->K (.ret (.int (bh (fun i=>decide (x<kv (vs.getD i .none))) lo hi).1)) ((L,ab loc)::o)):
 WS Γ (ah (ak Γ.w.params 32) 32 L []) (ay Γ.w.params 32) ((L,ab [nR "a" l,nI "x" x,nI "lo" lo,("hi",some hv),("key",some (.val f)),("mid",none)])::aa) K:=by
 have hm0:=hI _ _ h0;refine s_cons ?_;show"w32";rw[show decide ((lo:Int)<0)=false from by simp];show"o32";show"o32";refine bv (fun o=>o=(L,ab [nR "a" l,nI "x" x,nI "lo" lo,nI "hi" hi,("key",some (.val f)),("mid",none)])::aa) ?_ ?_
 ·show"w32"
  rcases hh with⟨rfl,rfl⟩|⟨rfl,hle⟩
  ·refine aX (b:=true) (by intro v h;cases h;rfl) ?_
   show"w32";refine eI (by show"mem") hz ?_;show"w32";exact⟨rfl,rfl⟩
  ·refine aX (b:=false) (by intro v h;cases h;rfl) ?_
   show"w32";exact⟨rfl,rfl⟩
 have hle:hi≤vs.length:=by rcases hh with h|h<;>omega
 clear hh;rintro _ rfl;show"w32";refine aX (b:=false) (by intro v h;cases h;exact hf) ?_;show"w32"
 refine gN (n:=hi-lo) (fun n o=>∃lo' hi' m o',n=hi'-lo'∧hi'≤vs.length∧(bh (fun i=>decide (x<kv (vs.getD i .none))) lo' hi').1=(bh (fun i=>decide (x<kv (vs.getD i .none))) lo hi).1∧(∃c',c'+(bh (fun i=>decide (x<kv (vs.getD i .none))) lo' hi').2=c+(bh (fun i=>decide (x<kv (vs.getD i .none))) lo hi).2∧I c' o')∧
  o=(L,ab [nR "a" l,nI "x" x,nI "lo" lo',nI "hi" hi',("key",some (.val f)),("mid",m)])::o') ⟨lo,hi,none,aa,rfl,hle,rfl,⟨c,rfl,h0⟩,rfl⟩ ?_
 rintro n o ⟨lo',hi',m,o',rfl,hle',hb,hi0,rfl⟩;have hm:=hi0.elim fun _ h=>hI _ _ h.2;show"w32";by_cases hlt:lo'<hi'
 ·rw[show decide ((lo':Int)<(hi':Int))=true from by simpa using hlt]
  have hin:(lo'+hi')/2<vs.length:=by omega
  show"w32";refine dT (by decide) (bX (by decide)) ?_;rw[fU];show"w32";refine ar (by show"mem") (Er _) (ie (by omega)) (by rw[Es];exact lD hin) ?_;show"w32";obtain⟨c',hc',hi1⟩:=hi0
  have hcc:c'<1000:=by
   have:=oN (p:=fun i=>decide (x<kv (vs.getD i .none))) hlt;omega
  obtain⟨hk1,hk2⟩:=hkey Γ.h0 Sub.refl c' o' hi1;refine⟨bu.less (bu.to_k hk1) (Less.skip Less.refl),?_⟩;refine ai.frame (F:=[_]) (pre:=o') (by intro q hq;cases ED.mp hq;exact ee) Less.refl fun h' hs'=> ?_;refine ai.mono (ai.less ((hkey h' hs' c' o' hi1).2 hcc _ (hD _ hin)) hmk) ?_;rintro _ o1 ⟨rfl,hI2⟩;simp only[EX,Ff];show"w32";rw[cb,if_pos hlt]at hb;rw[cb,if_pos hlt]at hc';by_cases hp:(x<kv (vs.getD ((lo'+hi')/2) .none))
  ·have hpb:(decide (x<kv (vs.getD ((lo'+hi')/2) .none)))=true:=by first|exact decide_eq_true hp|(rw[decide_eq_true hp];rfl)
   simp only[hpb,if_true,if_false,E1]at hb hc';rw[show decide (x<kv (vs.getD ((lo'+hi')/2) .none))=true from decide_eq_true hp];show"w32";exact⟨rfl,_,_,by show(lo'+hi')/2-lo'<hi'-lo';omega,Less.refl,⟨lo',(lo'+hi')/2,_,_,rfl,by omega,hb,⟨c'+1,by omega,hI2⟩,rfl⟩⟩
  ·have hpb:(decide (x<kv (vs.getD ((lo'+hi')/2) .none)))=false:=by first|exact decide_eq_false hp|(rw[decide_eq_false hp];rfl)
   simp only[hpb,if_true,if_false,E1]at hb hc';rw[show decide (x<kv (vs.getD ((lo'+hi')/2) .none))=false from decide_eq_false hp];show"w32";exact⟨rfl,_,_,by show hi'-((lo'+hi')/2+1)<hi'-lo';omega,Less.refl,⟨(lo'+hi')/2+1,hi',_,_,rfl,hle',hb,⟨c'+1,by omega,hI2⟩,rfl⟩⟩
 ·rw[show decide ((lo':Int)<(hi':Int))=false from by simpa using hlt]
  rw[cb,if_neg hlt]at hb;show"w32";obtain⟨c',hc,hi1⟩:=hi0;rw[cb,if_neg hlt]at hc;replace hb:lo'=_:=hb;show K (.ret (.int (lo':Int))) _;rw[hb];exact hK _ _ (hc▸hi1)
theorem mE (hT:TopG Γ) {x:Int} {f:Value} {m:Nat} {kv:AV->Int} {hv:AV} {K:AF->Led->Prop} (hz:vs.length≤sizeLine) (hh:(hv= .none ∧hi=vs.length)∨(hv= .int hi∧hi≤vs.length)) (hD:∀i,i<vs.length->D (vs.getD i .none)) (hI:∀c o,I c o->lL l vs∈o) (hkey:bn m Γ f D kv I) (hmk:m≤Γ.k) (hf:(f==Value.none)=false) (h0:I c aa) (hcb:c+(bh (fun i=> !decide (kv (vs.getD i .none)<x)) lo hi).2≤1000) (hK:∀loc o,I (c+(bh (fun i=> !decide (kv (vs.getD i .none)<x)) lo hi).2) o->K (.ret (.int (bh (fun i=> !decide (kv (vs.getD i .none)<x)) lo hi).1)) ((L,ab loc)::o)):
 WS Γ (ah (ak Γ.w.params 50) 50 L []) (ay Γ.w.params 50) ((L,ab [nR "a" l,nI "x" x,nI "lo" lo,("hi",some hv),("key",some (.val f)),("mid",none)])::aa) K:=by
 have hm0:=hI _ _ h0;refine s_cons ?_;show"w50";rw[show decide ((lo:Int)<0)=false from by simp];show"o50";show"o50";refine bv (fun o=>o=(L,ab [nR "a" l,nI "x" x,nI "lo" lo,nI "hi" hi,("key",some (.val f)),("mid",none)])::aa) ?_ ?_
 ·show"w50"
  rcases hh with⟨rfl,rfl⟩|⟨rfl,hle⟩
  ·refine aX (b:=true) (by intro v h;cases h;rfl) ?_
   show"w50";refine eI (by show"mem") hz ?_;show"w50";exact⟨rfl,rfl⟩
  ·refine aX (b:=false) (by intro v h;cases h;rfl) ?_
   show"w50";exact⟨rfl,rfl⟩
 have hle:hi≤vs.length:=by rcases hh with h|h<;>omega
 clear hh;rintro _ rfl;show"w50";refine aX (b:=false) (by intro v h;cases h;exact hf) ?_;show"w50"
 refine gN (n:=hi-lo) (fun n o=>∃lo' hi' m o',n=hi'-lo'∧hi'≤vs.length∧(bh (fun i=> !decide (kv (vs.getD i .none)<x)) lo' hi').1=(bh (fun i=> !decide (kv (vs.getD i .none)<x)) lo hi).1∧(∃c',c'+(bh (fun i=> !decide (kv (vs.getD i .none)<x)) lo' hi').2=c+(bh (fun i=> !decide (kv (vs.getD i .none)<x)) lo hi).2∧I c' o')∧
  o=(L,ab [nR "a" l,nI "x" x,nI "lo" lo',nI "hi" hi',("key",some (.val f)),("mid",m)])::o') ⟨lo,hi,none,aa,rfl,hle,rfl,⟨c,rfl,h0⟩,rfl⟩ ?_
 rintro n o ⟨lo',hi',m,o',rfl,hle',hb,hi0,rfl⟩;have hm:=hi0.elim fun _ h=>hI _ _ h.2;show"w50";by_cases hlt:lo'<hi'
 ·rw[show decide ((lo':Int)<(hi':Int))=true from by simpa using hlt]
  have hin:(lo'+hi')/2<vs.length:=by omega
  show"w50";refine dT (by decide) (bX (by decide)) ?_;rw[fU];show"w50";refine ar (by show"mem") (Er _) (ie (by omega)) (by rw[Es];exact lD hin) ?_;show"w50";obtain⟨c',hc',hi1⟩:=hi0
  have hcc:c'<1000:=by
   have:=oN (p:=fun i=> !decide (kv (vs.getD i .none)<x)) hlt;omega
  obtain⟨hk1,hk2⟩:=hkey Γ.h0 Sub.refl c' o' hi1;refine⟨bu.less (bu.to_k hk1) (Less.skip Less.refl),?_⟩;refine ai.frame (F:=[_]) (pre:=o') (by intro q hq;cases ED.mp hq;exact ee) Less.refl fun h' hs'=> ?_;refine ai.mono (ai.less ((hkey h' hs' c' o' hi1).2 hcc _ (hD _ hin)) hmk) ?_;rintro _ o1 ⟨rfl,hI2⟩;simp only[EX,Ff];show"w50";rw[cb,if_pos hlt]at hb;rw[cb,if_pos hlt]at hc';by_cases hp:(kv (vs.getD ((lo'+hi')/2) .none)<x)
  ·have hpb:(!decide (kv (vs.getD ((lo'+hi')/2) .none)<x))=false:=by first|exact decide_eq_true hp|(rw[decide_eq_true hp];rfl)
   simp only[hpb,if_true,if_false,E1]at hb hc';rw[show decide (kv (vs.getD ((lo'+hi')/2) .none)<x)=true from decide_eq_true hp];show"w50";exact⟨rfl,_,_,by show hi'-((lo'+hi')/2+1)<hi'-lo';omega,Less.refl,⟨(lo'+hi')/2+1,hi',_,_,rfl,hle',hb,⟨c'+1,by omega,hI2⟩,rfl⟩⟩
  ·have hpb:(!decide (kv (vs.getD ((lo'+hi')/2) .none)<x))=true:=by first|exact decide_eq_false hp|(rw[decide_eq_false hp];rfl)
   simp only[hpb,if_true,if_false,E1]at hb hc';rw[show decide (kv (vs.getD ((lo'+hi')/2) .none)<x)=false from decide_eq_false hp];show"w50";exact⟨rfl,_,_,by show(lo'+hi')/2-lo'<hi'-lo';omega,Less.refl,⟨lo',(lo'+hi')/2,_,_,rfl,by omega,hb,⟨c'+1,by omega,hI2⟩,rfl⟩⟩
 ·rw[show decide ((lo':Int)<(hi':Int))=false from by simpa using hlt]
  rw[cb,if_neg hlt]at hb;show"w50";obtain⟨c',hc,hi1⟩:=hi0;rw[cb,if_neg hlt]at hc;replace hb:lo'=_:=hb;show K (.ret (.int (lo':Int))) _;rw[hb];exact hK _ _ (hc▸hi1)
end
end
section
variable {doc:Value}
section
section
noncomputable def bW (l:List α) (k:Nat) (v:α):List α:=l.take k++v::l.drop k
theorem gQ {v:AV} (hk:k≤vs.length) (hz:vs.length≤sizeLine) (hu:Upd l (bD vs) (bD (bW vs k v)) aa ao) (h:K .none ao):ai Γ (.builtin "list.insert") [.ref l,.int k,v] [] aa K:=by
 intro va kv hv hkw;cases hkw;obtain _|⟨h1,_|⟨h2,_|⟨h3,_|_⟩⟩⟩:=hv;cases h1;cases h2;rename_i y t;intro A s hA hR;obtain⟨items,n,ho,hvs⟩:=bD.get hR hu.mem;have e:=hvs.size;have hfit:=fitsIndex_of (k:=(k:Int)) (by omega) (ie (Ep hk hz));have hc0:¬(!Builtin.List.listFitsIndex (k:Int))=true:=by rw[hfit];decide
 have hs1:items.size≤sizeLine:=by omega
 clear hfit;generalize hx:(k:Int)=x at hc0⊢;have g:=PySem.AutoSeq1.list_insert_list_int_val_1 l items n x t y hc0 hs1;refine call_meets PySem.F.slot_list_insert ⟨_,ho,rfl⟩ PySem.F.entry_list_insert (PySem.F.args_list_insert_3 _ _ _) g ⟨ho,?_⟩;refine⟨.none,ao,.val _,hR.list (t:=s.toks) hu ho ?_,h⟩;subst hx;have hk':min k items.size=k:=by omega
 have hneg:¬((k:Int)<0):=by omega
 simp only[hneg,if_false,Es,hk',G1,IP,Array.toList_extract,bW,List.extract_eq_take_drop,EO,List.singleton_append,Fw,List.drop_zero];refine(hvs.take k).append (.cons h3 ?_);have:IW (items.size-k) (H2 k items.toList)=H2 k items.toList:=Gi (by simp);rw[this];exact hvs.drop k
theorem pS (hz:vs.length≤sizeLine) (hu:Upd l (bD vs) (bD vs.reverse) aa ao) (h:K .none ao):ai Γ (.builtin "list.reverse") [.ref l] [] aa K:=by
 intro va kv hv hkw;cases hkw;obtain _|⟨h1,_|_⟩:=hv;cases h1;intro A s hA hR;obtain⟨items,n,ho,hvs⟩:=bD.get hR hu.mem;have e:=hvs.size;refine call_meets PySem.F.slot_list_reverse ⟨_,ho,rfl⟩ PySem.F.entry_list_reverse (PySem.F.args_list_reverse_1 _) (PySem.AutoSeq1.list_reverse_list_0 l items n (by omega)) ⟨ho,?_⟩;refine⟨.none,ao,.val _,hR.list (t:=s.toks) hu ho ?_,h⟩;rw[Array.toList_reverse];exact hvs.reverse
theorem mF {b:Addr} {ws:List AV} (hz:vs.length+ws.length≤sizeLine) (hu:Upd l (bD vs) (bD (vs++ws)) aa ao) (hb:lL b ws∈aa) (h:K .none ao):ai Γ (.builtin "list.extend") [.ref l,.ref b] [] aa K:=by
 intro va kv hv hkw;cases hkw;obtain _|⟨h1,_|⟨h2,_|_⟩⟩:=hv;cases h1;cases h2;intro A s hA hR;obtain⟨items,n,ho,hvs⟩:=bD.get hR hu.mem;obtain⟨items2,n2,ho2,hvs2⟩:=bD.get hR hb;have e:=hvs.size;have e2:=hvs2.size;refine call_meets PySem.F.slot_list_extend ⟨_,ho,rfl⟩ PySem.F.entry_list_extend (PySem.F.args_list_extend_2 _ _) (PySem.AutoSeq1.list_extend_list_list_0 l items n b items2 n2 ?_ (by omega) (by omega)) ⟨ho,ho2,?_⟩
 ·rw[GS,not_and]
  intro _ q
  have:Builtin.List.listTooLong (items.size+items2.size)=false:=by
   unfold Builtin.List.listTooLong;have:sizeLine<2^59:=by decide
   simp;omega
  rw[this]at q;cases q
 ·refine⟨.none,ao,.val _,hR.list (t:=s.toks) hu ho ?_,h⟩
  rw[G1];exact hvs.append hvs2
theorem rn {ns:List Int} {ws:List Value} (h:VRs (ns.map .int) ws):IntsAre ws ns:=by
 induction ns generalizing ws with
 |nil=>cases h;exact .nil
 |cons n ns ih=>
  obtain _|⟨h1,h2⟩:=h;cases h1;exact .cons _ _ (ih h2)
theorem c_count {ns:List Int} {k:Int} (hm:lL l (ns.map .int)∈aa) (h:K (.int (ns.count k)) aa):ai Γ (.builtin "list.count") [.ref l,.int k] [] aa K:=by
 intro va kv hv hkw;cases hkw;obtain _|⟨h1,_|⟨h2,_|_⟩⟩:=hv;cases h1;cases h2;intro A s hA hR;obtain⟨items,n,ho,hvs⟩:=bD.get hR hm;exact count_list_ints (vs:=items.toList) ⟨_,ho,rfl,n,rfl⟩ (rn hvs) ⟨_,aa,.int _ _,hR.toks _,h⟩
end
theorem B9:(([("a",none),("x",none),("lo",none),("hi",none),("key",none),("mid",none)]:Loc).map (·.1)).Nodup :=by decide
theorem B_:∀p∈([("a",none),("x",none),("lo",none),("hi",none),("key",none),("mid",none)]:Loc),p.2=none:=bF rfl
theorem rp (p:Params):(ak p 32).body = .stmts (ay p 32):=rfl
theorem rq {l x lo hi:AV} {K:List (Str×AV)->Led->Prop} (hT:TopG Γ) (h:K [("a",l),("x",x),("lo",lo),("hi",hi),("key",.none)] aa):WB Γ (ak Γ.w.params 32) [l,x,lo,hi] [] aa K:=by
 exact WB.p4 hT (exv:=[("key",.none)]) (fun _ _ _ _=>by kernel_rfl) (.cons (dj (.val _)) .nil) h
theorem ru {l x lo hi f:AV} {K:List (Str×AV)->Led->Prop} (hT:TopG Γ) (h:K [("a",l),("x",x),("lo",lo),("hi",hi),("key",f)] aa):WB Γ (ak Γ.w.params 32) [l,x,lo,hi] [("key",f)] aa K:=by
 exact WB.k4 hT (exv:=fun w=>[("key",w)]) (fun _ _ _ _ _=>by kernel_rfl) (fun w hw=> .cons (dj hw) .nil) h
theorem rv {l x lo f:AV} {K:List (Str×AV)->Led->Prop} (hT:TopG Γ) (h:K [("a",l),("x",x),("lo",lo),("hi",.none),("key",f)] aa):WB Γ (ak Γ.w.params 32) [l,x,lo] [("key",f)] aa K:=by
 exact WB.k3 hT (exv:=fun w=>[("hi",tV Γ.w.params 24 1),("key",w)]) (fun _ _ _ _=>by kernel_rfl) (fun w hw=> .cons (dj (.val _)) (.cons (dj hw) .nil)) h
theorem jj {x:Int} {hv key:AV} (hT:TopG Γ) (hk:0<Γ.k) (hb:∀{K'},K' [("a",.ref l),("x",.int x),("lo",.int lo),("hi",hv),("key",key)] aa->WB Γ.dn (ak Γ.w.params 32) as ks aa K') (h:∀L,WS Γ.dn (ah (ak Γ.w.params 32) 32 L []) (ay Γ.w.params 32) ((L,ab [nR "a" l,nI "x" x,nI "lo" lo,("hi",some hv),("key",some key),("mid",none)])::aa) fun fl o2=>∃o3,Less o3 o2∧K fl.val o3):
 ai Γ (.ref 32) as ks aa K:=by
 refine bA hk hT (fun s hR=>(ny _).hf hT s hR) (rp _) B9 B_ (hb fun L cs hcs=> ?_) (by kernel_rfl) (by kernel_rfl);rw[af (cs:=cs) hcs];show WBinds _ (ah (ak Γ.w.params 32) 32 L []) _ ((L,ab _)::aa) _;refine st_local (ka32.at 0 (by kernel_rfl)) lf (by show"upd") (by show"put") ?_;refine st_local (ka32.at 1 (by kernel_rfl)) lf (by show"upd") (by show"put") ?_;refine st_local (ka32.at 2 (by kernel_rfl)) lf (by show"upd") (by show"put") ?_;refine st_local (ka32.at 3 (by kernel_rfl)) lf (by show"upd") (by show"put") ?_;refine st_local (ka32.at 4 (by kernel_rfl)) lf (by show"upd") (by show"put") ?_;exact h L
theorem xl {x:Int} {hv:AV} {hi:Nat} (hT:TopG Γ) (hk:0<Γ.k) (hz:vs.length≤sizeLine) (hh:(hv= .none ∧hi=vs.length)∨(hv= .int hi∧hi≤vs.length)) (hx:∀i,i<vs.length->vs.getD i .none = .int (xs i)) (hm:lL l vs∈aa) (hK:K (.int (bh (fun i=>decide (x<xs i)) lo hi).1) aa):ai Γ (.ref 32) [.ref l,.int x,.int lo,hv] [] aa K:=
 jj hT hk (fun h=>rq hT.dn h) fun L=>jh hT.dn hz hh hx hm fun loc o e=>⟨_,Less.skip Less.refl,e▸hK⟩
theorem xm {x:Int} {hv:AV} {hi:Nat} (hT:TopG Γ) (hk:0<Γ.k) (hz:vs.length≤sizeLine) (hh:(hv= .none ∧hi=vs.length)∨(hv= .int hi∧hi≤vs.length)) (hx:∀i,i<vs.length->vs.getD i .none = .int (xs i)) (hm:lL l vs∈aa) (hK:K (.int (bh (fun i=>decide (x<xs i)) lo hi).1) aa):ai Γ (.ref 32) [.ref l,.int x,.int lo,hv] [("key",.none)] aa K:=
 jj hT hk (fun h=>ru hT.dn h) fun L=>jh hT.dn hz hh hx hm fun loc o e=>⟨_,Less.skip Less.refl,e▸hK⟩
theorem rz {x:Int} {f:Value} {m:Nat} {kv:AV->Int} {hv:AV} {hi:Nat} (hT:TopG Γ) (hk:m<Γ.k) (hz:vs.length≤sizeLine) (hh:(hv= .none ∧hi=vs.length)∨(hv= .int hi∧hi≤vs.length)) (hD:∀i,i<vs.length->D (vs.getD i .none)) (hI:∀c o,I c o->lL l vs∈o) (hkey:bn m Γ f D kv I) (hf:(f==Value.none)=false) (h0:I c aa) (hcb:c+(bh (fun i=>decide (x<kv (vs.getD i .none))) lo hi).2≤1000) (hK:∀o,I (c+(bh (fun i=>decide (x<kv (vs.getD i .none))) lo hi).2) o->K (.int (bh (fun i=>decide (x<kv (vs.getD i .none))) lo hi).1) o):ai Γ (.ref 32) [.ref l,.int x,.int lo,hv] [("key",.val f)] aa K:=
 jj hT (by omega) (fun h=>ru hT.dn h) fun L=>mD (m:=m) hT.dn hz hh hD hI (hkey.to (j:=Γ.k-1) Sub.refl) (show m≤Γ.k-1 by omega) hf h0 hcb fun loc o e=>⟨_,Less.skip Less.refl,hK o e⟩
theorem xn {x:Int} (hT:TopG Γ) (hk:0<Γ.k) (hz:vs.length≤sizeLine) (hx:∀i,i<vs.length->vs.getD i .none = .int (xs i)) (hm:lL l vs∈aa) (hK:K (.int (bh (fun i=>decide (x<xs i)) lo vs.length).1) aa):ai Γ (.ref 32) [.ref l,.int x,.int lo] [("key",.none)] aa K:=
 jj hT hk (fun h=>rv hT.dn h) fun L=>jh hT.dn hz (.inl ⟨rfl,rfl⟩) hx hm fun loc o e=>⟨_,Less.skip Less.refl,e▸hK⟩
theorem xo {x:Int} {f:Value} {m:Nat} {kv:AV->Int} (hT:TopG Γ) (hk:m<Γ.k) (hz:vs.length≤sizeLine) (hD:∀i,i<vs.length->D (vs.getD i .none)) (hI:∀c o,I c o->lL l vs∈o) (hkey:bn m Γ f D kv I) (hf:(f==Value.none)=false) (h0:I c aa) (hcb:c+(bh (fun i=>decide (x<kv (vs.getD i .none))) lo vs.length).2≤1000) (hK:∀o,I (c+(bh (fun i=>decide (x<kv (vs.getD i .none))) lo vs.length).2) o->K (.int (bh (fun i=>decide (x<kv (vs.getD i .none))) lo vs.length).1) o):ai Γ (.ref 32) [.ref l,.int x,.int lo] [("key",.val f)] aa K:=
 jj hT (by omega) (fun h=>rv hT.dn h) fun L=>mD (m:=m) hT.dn hz (.inl ⟨rfl,rfl⟩) hD hI (hkey.to (j:=Γ.k-1) Sub.refl) (show m≤Γ.k-1 by omega) hf h0 hcb fun loc o e=>⟨_,Less.skip Less.refl,hK o e⟩
theorem rA (p:Params):(ak p 50).body = .stmts (ay p 50):=rfl
theorem xp {l x lo hi:AV} {K:List (Str×AV)->Led->Prop} (hT:TopG Γ) (h:K [("a",l),("x",x),("lo",lo),("hi",hi),("key",.none)] aa):WB Γ (ak Γ.w.params 50) [l,x,lo,hi] [] aa K:=by
 exact WB.p4 hT (exv:=[("key",.none)]) (fun _ _ _ _=>by kernel_rfl) (.cons (dj (.val _)) .nil) h
theorem nA {l x lo hi f:AV} {K:List (Str×AV)->Led->Prop} (hT:TopG Γ) (h:K [("a",l),("x",x),("lo",lo),("hi",hi),("key",f)] aa):WB Γ (ak Γ.w.params 50) [l,x,lo,hi] [("key",f)] aa K:=by
 exact WB.k4 hT (exv:=fun w=>[("key",w)]) (fun _ _ _ _ _=>by kernel_rfl) (fun w hw=> .cons (dj hw) .nil) h
theorem rB {l x lo f:AV} {K:List (Str×AV)->Led->Prop} (hT:TopG Γ) (h:K [("a",l),("x",x),("lo",lo),("hi",.none),("key",f)] aa):WB Γ (ak Γ.w.params 50) [l,x,lo] [("key",f)] aa K:=by
 exact WB.k3 hT (exv:=fun w=>[("hi",tV Γ.w.params 42 1),("key",w)]) (fun _ _ _ _=>by kernel_rfl) (fun w hw=> .cons (dj (.val _)) (.cons (dj hw) .nil)) h
theorem jk {x:Int} {hv key:AV} (hT:TopG Γ) (hk:0<Γ.k) (hb:∀{K'},K' [("a",.ref l),("x",.int x),("lo",.int lo),("hi",hv),("key",key)] aa->WB Γ.dn (ak Γ.w.params 50) as ks aa K') (h:∀L,WS Γ.dn (ah (ak Γ.w.params 50) 50 L []) (ay Γ.w.params 50) ((L,ab [nR "a" l,nI "x" x,nI "lo" lo,("hi",some hv),("key",some key),("mid",none)])::aa) fun fl o2=>∃o3,Less o3 o2∧K fl.val o3):
 ai Γ (.ref 50) as ks aa K:=by
 refine bA hk hT (fun s hR=>(nz _).hf hT s hR) (rA _) B9 B_ (hb fun L cs hcs=> ?_) (by kernel_rfl) (by kernel_rfl);rw[af (cs:=cs) hcs];show WBinds _ (ah (ak Γ.w.params 50) 50 L []) _ ((L,ab _)::aa) _;refine st_local (ka50.at 0 (by kernel_rfl)) lf (by show"upd") (by show"put") ?_;refine st_local (ka50.at 1 (by kernel_rfl)) lf (by show"upd") (by show"put") ?_;refine st_local (ka50.at 2 (by kernel_rfl)) lf (by show"upd") (by show"put") ?_;refine st_local (ka50.at 3 (by kernel_rfl)) lf (by show"upd") (by show"put") ?_;refine st_local (ka50.at 4 (by kernel_rfl)) lf (by show"upd") (by show"put") ?_;exact h L
theorem xq {x:Int} {hv:AV} {hi:Nat} (hT:TopG Γ) (hk:0<Γ.k) (hz:vs.length≤sizeLine) (hh:(hv= .none ∧hi=vs.length)∨(hv= .int hi∧hi≤vs.length)) (hx:∀i,i<vs.length->vs.getD i .none = .int (xs i)) (hm:lL l vs∈aa) (hK:K (.int (bh (fun i=> !decide (xs i<x)) lo hi).1) aa):ai Γ (.ref 50) [.ref l,.int x,.int lo,hv] [] aa K:=
 jk hT hk (fun h=>xp hT.dn h) fun L=>ji hT.dn hz hh hx hm fun loc o e=>⟨_,Less.skip Less.refl,e▸hK⟩
theorem xt {x:Int} {hv:AV} {hi:Nat} (hT:TopG Γ) (hk:0<Γ.k) (hz:vs.length≤sizeLine) (hh:(hv= .none ∧hi=vs.length)∨(hv= .int hi∧hi≤vs.length)) (hx:∀i,i<vs.length->vs.getD i .none = .int (xs i)) (hm:lL l vs∈aa) (hK:K (.int (bh (fun i=> !decide (xs i<x)) lo hi).1) aa):ai Γ (.ref 50) [.ref l,.int x,.int lo,hv] [("key",.none)] aa K:=
 jk hT hk (fun h=>nA hT.dn h) fun L=>ji hT.dn hz hh hx hm fun loc o e=>⟨_,Less.skip Less.refl,e▸hK⟩
theorem rC {x:Int} {f:Value} {m:Nat} {kv:AV->Int} {hv:AV} {hi:Nat} (hT:TopG Γ) (hk:m<Γ.k) (hz:vs.length≤sizeLine) (hh:(hv= .none ∧hi=vs.length)∨(hv= .int hi∧hi≤vs.length)) (hD:∀i,i<vs.length->D (vs.getD i .none)) (hI:∀c o,I c o->lL l vs∈o) (hkey:bn m Γ f D kv I) (hf:(f==Value.none)=false) (h0:I c aa) (hcb:c+(bh (fun i=> !decide (kv (vs.getD i .none)<x)) lo hi).2≤1000) (hK:∀o,I (c+(bh (fun i=> !decide (kv (vs.getD i .none)<x)) lo hi).2) o->K (.int (bh (fun i=> !decide (kv (vs.getD i .none)<x)) lo hi).1) o):ai Γ (.ref 50) [.ref l,.int x,.int lo,hv] [("key",.val f)] aa K:=
 jk hT (by omega) (fun h=>nA hT.dn h) fun L=>mE (m:=m) hT.dn hz hh hD hI (hkey.to (j:=Γ.k-1) Sub.refl) (show m≤Γ.k-1 by omega) hf h0 hcb fun loc o e=>⟨_,Less.skip Less.refl,hK o e⟩
theorem xu {x:Int} (hT:TopG Γ) (hk:0<Γ.k) (hz:vs.length≤sizeLine) (hx:∀i,i<vs.length->vs.getD i .none = .int (xs i)) (hm:lL l vs∈aa) (hK:K (.int (bh (fun i=> !decide (xs i<x)) lo vs.length).1) aa):ai Γ (.ref 50) [.ref l,.int x,.int lo] [("key",.none)] aa K:=
 jk hT hk (fun h=>rB hT.dn h) fun L=>ji hT.dn hz (.inl ⟨rfl,rfl⟩) hx hm fun loc o e=>⟨_,Less.skip Less.refl,e▸hK⟩
theorem xv {x:Int} {f:Value} {m:Nat} {kv:AV->Int} (hT:TopG Γ) (hk:m<Γ.k) (hz:vs.length≤sizeLine) (hD:∀i,i<vs.length->D (vs.getD i .none)) (hI:∀c o,I c o->lL l vs∈o) (hkey:bn m Γ f D kv I) (hf:(f==Value.none)=false) (h0:I c aa) (hcb:c+(bh (fun i=> !decide (kv (vs.getD i .none)<x)) lo vs.length).2≤1000) (hK:∀o,I (c+(bh (fun i=> !decide (kv (vs.getD i .none)<x)) lo vs.length).2) o->K (.int (bh (fun i=> !decide (kv (vs.getD i .none)<x)) lo vs.length).1) o):ai Γ (.ref 50) [.ref l,.int x,.int lo] [("key",.val f)] aa K:=
 jk hT (by omega) (fun h=>rB hT.dn h) fun L=>mE (m:=m) hT.dn hz (.inl ⟨rfl,rfl⟩) hD hI (hkey.to (j:=Γ.k-1) Sub.refl) (show m≤Γ.k-1 by omega) hf h0 hcb fun loc o e=>⟨_,Less.skip Less.refl,hK o e⟩
end
section
theorem Ca:(([("a",none),("x",none),("lo",none),("hi",none),("key",none)]:Loc).map (·.1)).Nodup :=by decide
theorem Cb:∀p∈([("a",none),("x",none),("lo",none),("hi",none),("key",none)]:Loc),p.2=none:=bF rfl
theorem bE (p:Nat->Bool) (lo hi:Nat):lo≤hi->lo≤(bh p lo hi).1∧(bh p lo hi).1≤hi:=
 i4 (C:=fun lo hi r=>lo≤hi->lo≤r.1∧r.1≤hi) (fun lo hi _ h=>⟨EL _,h⟩) (fun lo hi r h _ a _=>have a:=a (by omega);⟨a.1,Ep a.2 (by omega)⟩) (fun lo hi r h _ a _=>have a:=a (by omega);⟨Ep (HB (lA h)) a.1,a.2⟩) lo hi
theorem jl {m:Nat} {f:Value} {kv:AV->Int} {q:Addr×OP} (h:bn m Γ f D kv I) (h0:I c aa):bu Γ (q::aa) f:=
 bu.less (bu.to_k (h Γ.h0 Sub.refl c aa h0).1) (Less.skip Less.refl)
theorem ek23:EnvOk (ah (ak p 23) f L cs):=⟨by kernel_rfl,by kernel_rfl⟩
theorem ka23:KdA (ah (ak p 23) f L cs) [("a",.local),("x",.local),("lo",.local),("hi",.local),("key",.local),("bisect_right",.globalImplicit)]:=⟨by kernel_rfl,by kernel_rfl⟩
theorem rD (p:Params):(ak p 23).body = .stmts (ay p 23):=rfl
theorem xw {l x:AV} {K:List (Str×AV)->Led->Prop} (hT:TopG Γ) (h:K [("a",l),("x",x),("lo",.int (0:Nat)),("hi",.none),("key",.none)] aa):WB Γ (ak Γ.w.params 23) [l,x] [] aa K:=by
 exact WB.p2 hT (exv:=[("lo",tV Γ.w.params 15 0),("hi",tV Γ.w.params 15 1),("key",.none)]) (fun _ _=>by kernel_rfl) (.cons (dj (.int _ _)) (.cons (dj (.val _)) (.cons (dj (.val _)) .nil))) h
theorem xx {l x f:AV} {K:List (Str×AV)->Led->Prop} (hT:TopG Γ) (h:K [("a",l),("x",x),("lo",.int (0:Nat)),("hi",.none),("key",f)] aa):WB Γ (ak Γ.w.params 23) [l,x] [("key",f)] aa K:=by
 exact WB.k2 hT (exv:=fun w=>[("lo",tV Γ.w.params 15 0),("hi",tV Γ.w.params 15 1),("key",w)]) (fun _ _ _=>by kernel_rfl) (fun w hw=> .cons (dj (.int _ _)) (.cons (dj (.val _)) (.cons (dj hw) .nil))) h
theorem rE {x:AV} {lo:AV} {key:AV} (hT:TopG Γ) (hk:0<Γ.k) (hb:∀{K'},K' [("a",.ref l),("x",x),("lo",lo),("hi",.none),("key",key)] aa->WB Γ.dn (ak Γ.w.params 23) as ks aa K') (h:∀L,WS Γ.dn (ah (ak Γ.w.params 23) 23 L []) (ay Γ.w.params 23) ((L,ab [nR "a" l,("x",some x),("lo",some lo),("hi",some .none),("key",some key)])::aa) fun fl o2=>∃o3,Less o3 o2∧K fl.val o3):
 ai Γ (.ref 23) as ks aa K:=by
 refine bA hk hT (fun s hR=>(pP _).hf hT s hR) (rD _) Ca Cb (hb fun L cs hcs=> ?_) (by kernel_rfl) (by kernel_rfl);rw[af (cs:=cs) hcs];show WBinds _ (ah (ak Γ.w.params 23) 23 L []) _ ((L,ab _)::aa) _;refine st_local (ka23.at 0 (by kernel_rfl)) lf (by show"upd") (by show"put") ?_;refine st_local (ka23.at 1 (by kernel_rfl)) lf (by show"upd") (by show"put") ?_;refine st_local (ka23.at 2 (by kernel_rfl)) lf (by show"upd") (by show"put") ?_;refine st_local (ka23.at 3 (by kernel_rfl)) lf (by show"upd") (by show"put") ?_;refine st_local (ka23.at 4 (by kernel_rfl)) lf (by show"upd") (by show"put") ?_;exact h L
theorem AU {x:Int} (hT0:TopG Γ) (hk:1<Γ.k) (hz:vs.length≤sizeLine) (hx:∀i,i<vs.length->vs.getD i .none = .int (xs i)) (hu:Upd l (bD vs) (bD (bW vs (bh (fun i=>decide (x<xs i)) 0 vs.length).1 (.int x))) aa ao) (hK:K .none ao):ai Γ (.ref 23) [.ref l,.int x] [] aa K:=by
 refine rE hT0 (by omega) (fun h=>xw hT0.dn h) fun L=> ?_;have hT:TopG Γ.dn:=hT0.dn;have hm:=hu.mem;clear hT0;refine s_cons ?_;show"w23";refine aX (b:=true) (by intro v h;cases h;rfl) ?_;show"w23";refine⟨am (ny _) hT,?_⟩;refine xl hT (show 0<Γ.k-1 by omega) hz (.inl ⟨rfl,rfl⟩) hx (by show"mem") ?_;show"w23";refine cy PySem.F.slot_list_insert PySem.F.type_list_insert (.tail _ hm) ?_;show"w23";refine gQ (bE _ _ _ (ET _)).2 hz (.tail hu) ?_;show"w23";exact⟨_,Less.skip Less.refl,hK⟩
theorem wX {x:AV} {f:Value} {m:Nat} {kv:AV->Int} (hT0:TopG Γ) (hk:m+1<Γ.k) (hz:vs.length≤sizeLine) (hD:∀i,i<vs.length->D (vs.getD i .none)) (hDx:D x) (hI:∀c o,I c o->lL l vs∈o) (hkey0:bn m Γ f D kv I) (hf:(f==Value.none)=false) (h0:I c aa) (hcb:c+1+(bh (fun i=>decide (kv x<kv (vs.getD i .none))) 0 vs.length).2≤1000) (hK:∀o,I (c+1+(bh (fun i=>decide (kv x<kv (vs.getD i .none))) 0 vs.length).2) o->∃o',Upd l (bD vs) (bD (bW vs (bh (fun i=>decide (kv x<kv (vs.getD i .none))) 0 vs.length).1 x)) o o'∧K .none o'):ai Γ (.ref 23) [.ref l,x] [("key",.val f)] aa K:=by
 refine rE hT0 (by omega) (fun h=>xx hT0.dn h) fun L=> ?_;have hT:TopG Γ.dn:=hT0.dn;have hkey:bn m Γ.dn f D kv I:=hkey0.to (j:=Γ.k-1) Sub.refl;have hk1:m<Γ.dn.k:=show m<Γ.k-1 by omega
 clear hT0 hkey0;refine s_cons ?_;show"w23";refine aX (b:=false) (by intro v h;cases h;exact hf) ?_;show"w23";refine⟨jl hkey h0,?_⟩;refine ai.frame (F:=[_]) (pre:=aa) (by intro q hq;cases ED.mp hq;exact ee) Less.refl fun h' hs'=> ?_;refine ai.mono (ai.less ((hkey h' hs' c aa h0).2 (by omega) _ hDx) (by omega)) ?_;rintro _ o1 ⟨rfl,hI1⟩;simp only[EX,Ff];show"w23";refine⟨am (ny _) hT,?_⟩;refine ai.frame (F:=[_]) (pre:=o1) (by intro q hq;cases ED.mp hq;exact ee) Less.refl fun h' hs'=> ?_;refine rz (m:=m) (hT.at hs') hk1 hz (.inl ⟨rfl,rfl⟩) hD hI (hkey.to (j:=Γ.dn.k) hs') hf hI1 hcb fun o2 hI2=> ?_;obtain⟨o3,hu,hKK⟩:=hK _ hI2;simp only[EX,Ff];show"w23";refine cy PySem.F.slot_list_insert PySem.F.type_list_insert (.tail _ hu.mem) ?_;show"w23";refine gQ (bE _ _ _ (ET _)).2 hz (.tail hu) ?_;show"w23";exact⟨_,Less.skip Less.refl,hKK⟩
theorem ek41:EnvOk (ah (ak p 41) f L cs):=⟨by kernel_rfl,by kernel_rfl⟩
theorem ka41:KdA (ah (ak p 41) f L cs) [("a",.local),("x",.local),("lo",.local),("hi",.local),("key",.local),("bisect_left",.globalImplicit)]:=⟨by kernel_rfl,by kernel_rfl⟩
theorem rF (p:Params):(ak p 41).body = .stmts (ay p 41):=rfl
theorem xy {l x:AV} {K:List (Str×AV)->Led->Prop} (hT:TopG Γ) (h:K [("a",l),("x",x),("lo",.int (0:Nat)),("hi",.none),("key",.none)] aa):WB Γ (ak Γ.w.params 41) [l,x] [] aa K:=by
 exact WB.p2 hT (exv:=[("lo",tV Γ.w.params 33 0),("hi",tV Γ.w.params 33 1),("key",.none)]) (fun _ _=>by kernel_rfl) (.cons (dj (.int _ _)) (.cons (dj (.val _)) (.cons (dj (.val _)) .nil))) h
theorem xz {l x f:AV} {K:List (Str×AV)->Led->Prop} (hT:TopG Γ) (h:K [("a",l),("x",x),("lo",.int (0:Nat)),("hi",.none),("key",f)] aa):WB Γ (ak Γ.w.params 41) [l,x] [("key",f)] aa K:=by
 exact WB.k2 hT (exv:=fun w=>[("lo",tV Γ.w.params 33 0),("hi",tV Γ.w.params 33 1),("key",w)]) (fun _ _ _=>by kernel_rfl) (fun w hw=> .cons (dj (.int _ _)) (.cons (dj (.val _)) (.cons (dj hw) .nil))) h
theorem rG {x:AV} {lo:AV} {key:AV} (hT:TopG Γ) (hk:0<Γ.k) (hb:∀{K'},K' [("a",.ref l),("x",x),("lo",lo),("hi",.none),("key",key)] aa->WB Γ.dn (ak Γ.w.params 41) as ks aa K') (h:∀L,WS Γ.dn (ah (ak Γ.w.params 41) 41 L []) (ay Γ.w.params 41) ((L,ab [nR "a" l,("x",some x),("lo",some lo),("hi",some .none),("key",some key)])::aa) fun fl o2=>∃o3,Less o3 o2∧K fl.val o3):
 ai Γ (.ref 41) as ks aa K:=by
 refine bA hk hT (fun s hR=>(pQ _).hf hT s hR) (rF _) Ca Cb (hb fun L cs hcs=> ?_) (by kernel_rfl) (by kernel_rfl);rw[af (cs:=cs) hcs];show WBinds _ (ah (ak Γ.w.params 41) 41 L []) _ ((L,ab _)::aa) _;refine st_local (ka41.at 0 (by kernel_rfl)) lf (by show"upd") (by show"put") ?_;refine st_local (ka41.at 1 (by kernel_rfl)) lf (by show"upd") (by show"put") ?_;refine st_local (ka41.at 2 (by kernel_rfl)) lf (by show"upd") (by show"put") ?_;refine st_local (ka41.at 3 (by kernel_rfl)) lf (by show"upd") (by show"put") ?_;refine st_local (ka41.at 4 (by kernel_rfl)) lf (by show"upd") (by show"put") ?_;exact h L
theorem AW {x:Int} (hT0:TopG Γ) (hk:1<Γ.k) (hz:vs.length≤sizeLine) (hx:∀i,i<vs.length->vs.getD i .none = .int (xs i)) (hu:Upd l (bD vs) (bD (bW vs (bh (fun i=> !decide (xs i<x)) 0 vs.length).1 (.int x))) aa ao) (hK:K .none ao):ai Γ (.ref 41) [.ref l,.int x] [] aa K:=by
 refine rG hT0 (by omega) (fun h=>xy hT0.dn h) fun L=> ?_;have hT:TopG Γ.dn:=hT0.dn;have hm:=hu.mem;clear hT0;refine s_cons ?_;show"w41";refine aX (b:=true) (by intro v h;cases h;rfl) ?_;show"w41";refine⟨am (nz _) hT,?_⟩;refine xq hT (show 0<Γ.k-1 by omega) hz (.inl ⟨rfl,rfl⟩) hx (by show"mem") ?_;show"w41";refine cy PySem.F.slot_list_insert PySem.F.type_list_insert (.tail _ hm) ?_;show"w41";refine gQ (bE _ _ _ (ET _)).2 hz (.tail hu) ?_;show"w41";exact⟨_,Less.skip Less.refl,hK⟩
theorem wY {x:AV} {f:Value} {m:Nat} {kv:AV->Int} (hT0:TopG Γ) (hk:m+1<Γ.k) (hz:vs.length≤sizeLine) (hD:∀i,i<vs.length->D (vs.getD i .none)) (hDx:D x) (hI:∀c o,I c o->lL l vs∈o) (hkey0:bn m Γ f D kv I) (hf:(f==Value.none)=false) (h0:I c aa) (hcb:c+1+(bh (fun i=> !decide (kv (vs.getD i .none)<kv x)) 0 vs.length).2≤1000) (hK:∀o,I (c+1+(bh (fun i=> !decide (kv (vs.getD i .none)<kv x)) 0 vs.length).2) o->∃o',Upd l (bD vs) (bD (bW vs (bh (fun i=> !decide (kv (vs.getD i .none)<kv x)) 0 vs.length).1 x)) o o'∧K .none o'):ai Γ (.ref 41) [.ref l,x] [("key",.val f)] aa K:=by
 refine rG hT0 (by omega) (fun h=>xz hT0.dn h) fun L=> ?_;have hT:TopG Γ.dn:=hT0.dn;have hkey:bn m Γ.dn f D kv I:=hkey0.to (j:=Γ.k-1) Sub.refl;have hk1:m<Γ.dn.k:=show m<Γ.k-1 by omega
 clear hT0 hkey0;refine s_cons ?_;show"w41";refine aX (b:=false) (by intro v h;cases h;exact hf) ?_;show"w41";refine⟨jl hkey h0,?_⟩;refine ai.frame (F:=[_]) (pre:=aa) (by intro q hq;cases ED.mp hq;exact ee) Less.refl fun h' hs'=> ?_;refine ai.mono (ai.less ((hkey h' hs' c aa h0).2 (by omega) _ hDx) (by omega)) ?_;rintro _ o1 ⟨rfl,hI1⟩;simp only[EX,Ff];show"w41";refine⟨am (nz _) hT,?_⟩;refine ai.frame (F:=[_]) (pre:=o1) (by intro q hq;cases ED.mp hq;exact ee) Less.refl fun h' hs'=> ?_;refine rC (m:=m) (hT.at hs') hk1 hz (.inl ⟨rfl,rfl⟩) hD hI (hkey.to (j:=Γ.dn.k) hs') hf hI1 hcb fun o2 hI2=> ?_;obtain⟨o3,hu,hKK⟩:=hK _ hI2;simp only[EX,Ff];show"w41";refine cy PySem.F.slot_list_insert PySem.F.type_list_insert (.tail _ hu.mem) ?_;show"w41";refine gQ (bE _ _ _ (ET _)).2 hz (.tail hu) ?_;show"w41";exact⟨_,Less.skip Less.refl,hKK⟩
end
section
section
theorem pT {x:Str} {a:AV} (hk:Kd env x .globalImplicit) (he:EnvOk env) (e:nsIn (Mine.Internal.hd.heap_1 Γ.w.params) mainGlobals x=some (some v)) (hT:TopG Γ) (hv:VR a v) (h:K a aa):WE Γ env (.Name x pos) aa K:=by
 intro A s hA hR;obtain⟨p,l,T⟩:=hT.T;refine Calls.Name_function_global hk.f hk.k (Calls.loadGlobal_global (by rw[he.g];exact T.g.keeps hR.keep) (mg_of hT.X T.g e) ⟨_,aa,hv,hR,h⟩) hk.d
theorem jm {k:Int} {K:Value×List AV->Led->Prop} (h:K (.builtin "int.bit_length",[.int k]) aa):mu Γ (.int k) "bit_length" aa K:=by
 intro va pl hv;cases hv;intro A s hA hR;exact getMethod_int_bit_length ⟨(.builtin "int.bit_length",[.int k]),aa,⟨rfl,.cons (.int _ _) .nil⟩,hR,h⟩
theorem jn {k:Int} (h:K (.int (Builtin.Int.intBits k)) aa):ai Γ (.builtin "int.bit_length") [.int k] [] aa K:=by
 intro va kv hv hkw;cases hkw;obtain _|⟨h1,_|_⟩:=hv;cases h1;exact fun A s hA hR=>call_int_bit_length ⟨_,aa,.int _ _,hR.toks _,h⟩
theorem rH {x y:Int} (hy:y≠0) (hp:Builtin.divisionGoesByPylong x y=false) (h:∀t,K (.ref t) ((t,bV [.int (x.fdiv y),.int (x.fmod y)])::aa)):ai Γ (.builtin "divmod") [.int x,.int y] [] aa K:=by
 intro va kv hv hkw;cases hkw;obtain _|⟨h1,_|⟨h2,_|_⟩⟩:=hv;cases h1;cases h2;exact fun A s hA hR=>divmod_int hy ⟨_,_,.val _,hR.push (t:=s.toks+1+1) ⟨_,_,rfl,.cons (.int _ _) (.cons (.int _ _) .nil)⟩ tZ,h _⟩ (.inl hp)
theorem wZ {name bind q:Str} {params:Arguments} {clos:List (Str×Addr)} {c P:Addr} {K:AF->Led->Prop} (hT:TopG Γ) (ht:(c,P,q)∈Γ.tabs) (hu:∀t∈Γ.tabs,t.2.1=P->t.2.2=q) (hcode:env.code= .ref c) (hge:env.globals=mainGlobals) (hcl:closureFor scope env=pure clos) (hq:qualnameIn env name bind=q) (h:∀f doc pm c' aq,WSt Γ env bind (.ref f) ((f,bg (eT name q params body scope clos doc pm c' aq))::aa) fun o=>K .next o) (he:exec (.FunctionDef name params body [] none [] scope none bind pos) env=(do
 PySem.standAt pos
 let f ←makeFunction name (qualnameIn env name bind) params (.stmts body) scope env [] [] [] pos pos.line
 PySem.standAt pos
 bindName env bind f
 pure Flow.next):=by kernel_rfl) (hok:tU pos=false:=by kernel_rfl):WX Γ env (.FunctionDef name params body [] none [] scope none bind pos) aa K:=by
 refine W.of_eq he (W.at ?_);rw[hq];refine W.bind ((pK hT ht hu hcode hge hcl (fun _=>hok) (K:=fun a o=>∃f doc pm c' aq,a= .ref f∧o=(f,bg (eT name q params body scope clos doc pm c' aq))::aa) fun f doc pm c' aq=>⟨f,doc,pm,c',aq,rfl,rfl⟩).mono ?_);rintro _ _ ⟨f,doc,pm,c',aq,rfl,rfl⟩ v hv;refine W.at (W.bind (rel:=fun(_:Unit) (_:Unit)=>True) (W.bindName ((h f doc pm c' aq v hv).mono fun _ o hK _ _=>W.pure .next hK)))
end
noncomputable abbrev D9 (Γ:Cx) (env:Env) (ts:List Expr) (as:List AV) (K:Led->Prop) (o:Led):Prop:=WStores Γ env ts as o K
theorem ws_cons {t:Expr} {ts:List Expr} {a:AV} {K:Led->Prop} (h:WAsg Γ env t a aa (D9 Γ env ts as K)):WStores Γ env (t::ts) (a::as) aa K:=h
theorem ws_nil {K:Led->Prop} (h:K aa):WStores Γ env [] [] aa K:=h
noncomputable abbrev D_ (Γ:Cx) (env:Env) (r:List (Str×AV)) (K:Led->Prop) (o:Led):Prop:=WBinds Γ env r o K
theorem wb_cons {x:Str} {a:AV} {r:List (Str×AV)} {K:Led->Prop} (h:WSt Γ env x a aa (D_ Γ env r K)):WBinds Γ env ((x,a)::r) aa K:=h
theorem wb_nil {K:Led->Prop} (h:K aa):WBinds Γ env [] aa K:=h
theorem lE (x h:Nat):Builtin.bitAnd (x:Int) ((1:Int)*2^h-1)=((x%2^h:Nat):Int):=by
 rw[HP,kbt_mask,HN,kbt_cast]
theorem fV (x h:Nat):(x:Int)*2^h=((x*2^h:Nat):Int):=by rw[Fn,kbt_cast]
theorem eU (x h:Nat):(x:Int).fdiv (2^h)=((x/2^h:Nat):Int):=by
 rw[FF _ (Int.le_of_lt (kbt_pos h)),Hf,kbt_cast]
theorem mG (a b h:Nat) (hb:b<2^h):(a*2^h)&&& b=0:=by
 have h1:=Nat.shiftLeft_add_eq_or_of_lt hb a;rw[IQ]at h1;have h2:=nat_or_add_and (a*2^h) b;omega
theorem rI (a b h:Nat) (hb:b<2^h):Builtin.bitOr ((a*2^h:Nat):Int) (b:Int)=((a*2^h+b:Nat):Int):=by
 rw[bitOr_and,bitAnd_pp (Er _) (Er _),Es,Es,mG a b h hb];omega
theorem t_ (x h:Nat):Builtin.bitXor (x:Int) ((x/2^h*2^h:Nat):Int)=((x%2^h:Nat):Int):=by
 rw[bitXor_and,bitAnd_pp (Er _) (Er _),Es,Es]
 have e:x&&& (x/2^h*2^h)=x/2^h*2^h:=by
  apply Nat.eq_of_testBit_eq;intro i;rw[Nat.testBit_and,←IQ,Nat.testBit_shiftLeft,←Nat.shiftRight_eq_div_pow];by_cases hi:h≤i
  ·simp[hi,Nat.testBit_shiftRight]
  ·simp[hi]
 rw[e];have:=FG x (2^h);rw[ER]at this;omega
theorem gR (n:Nat):Builtin.Int.intBits (n:Int)=if n=0 then 0 else n.log2+1:=by
 unfold Builtin.Int.intBits;by_cases h:n=0<;>simp[h]
theorem bG (h:n<2^k):Builtin.Int.intBits (n:Int)≤k:=by
 rw[gR];split
 ·omega
 ·rename_i h0
  have:=(Nat.log2_lt h0).mpr h;omega
theorem fW (n:Nat):n<2^Builtin.Int.intBits (n:Int):=by
 rw[gR];split
 ·rename_i h;subst h;decide
 ·exact Nat.lt_log2_self
theorem gS (h:2^k≤n):k+1≤Builtin.Int.intBits (n:Int):=by
 have h0:n≠0:=by
  have:=Fm k;omega
 rw[gR,if_neg h0];have:=(Nat.le_log2 h0).mpr h;omega
theorem ig {x:Int} (h:n<2^k) (hk:k≤9000):Builtin.divisionGoesByPylong x (n:Int)=false:=by
 refine PyProof.noPylong_of_log2 ?_;rw[Int.natAbs_natCast];by_cases h0:n=0
 ·subst h0;decide
 ·have:=(Nat.log2_lt h0).mpr h
  omega
end
section
theorem ek57:EnvOk (ah (ak p 57) f L cs):=⟨by kernel_rfl,by kernel_rfl⟩
theorem ka57:KdA (ah (ak p 57) f L cs) [("a",.local),("b",.local),("n",.local),("pad",.local),("half_n",.local),("mask",.local),("b1",.local),("b2",.local),("q1",.local),("r",.local),("q2",.local),("_DIV_LIMIT",.globalImplicit),("divmod",.globalImplicit),("_div3n2n",.globalImplicit)]:=⟨by kernel_rfl,by kernel_rfl⟩
theorem xA (p:Params):(ak p 57).body = .stmts (ay p 57):=rfl
theorem CG:(([("a",none),("b",none),("n",none),("pad",none),("half_n",none),("mask",none),("b1",none),("b2",none),("q1",none),("r",none),("q2",none)]:Loc).map (·.1)).Nodup :=by decide
theorem CH:∀p∈([("a",none),("b",none),("n",none),("pad",none),("half_n",none),("mask",none),("b1",none),("b2",none),("q1",none),("r",none),("q2",none)]:Loc),p.2=none:=bF rfl
theorem CI {a_a a_b a_n:AV} {K:List (Str×AV)->Led->Prop} (hT:TopG Γ) (h:K [("a",a_a),("b",a_b),("n",a_n)] aa):WB Γ (ak Γ.w.params 57) [a_a,a_b,a_n] [] aa K:=by
 exact WB.p3 hT (fun _ _ _=>by kernel_rfl) .nil h
theorem rJ {a_a a_b a_n:AV} (hT:TopG Γ) (hk:0<Γ.k) (h:∀L,WS Γ.dn (ah (ak Γ.w.params 57) 57 L []) (ay Γ.w.params 57) ((L,ab [("a",some a_a),("b",some a_b),("n",some a_n),("pad",none),("half_n",none),("mask",none),("b1",none),("b2",none),("q1",none),("r",none),("q2",none)])::aa) fun fl o2=>∃o3,Less o3 o2∧K fl.val o3):
 ai Γ (.ref 57) [a_a,a_b,a_n] [] aa K:=by
 refine bA hk hT (fun s hR=>(xg _).hf hT s hR) (xA _) CG CH (CI hT.dn fun L cs hcs=> ?_) (by kernel_rfl) (by kernel_rfl);rw[af (cs:=cs) hcs];show WBinds _ (ah (ak Γ.w.params 57) 57 L []) _ ((L,ab _)::aa) _;refine st_local (ka57.at 0 (by kernel_rfl)) lf (by show"upd") (by show"put") ?_;refine st_local (ka57.at 1 (by kernel_rfl)) lf (by show"upd") (by show"put") ?_;refine st_local (ka57.at 2 (by kernel_rfl)) lf (by show"upd") (by show"put") ?_;exact h L
theorem ek64:EnvOk (ah (ak p 64) f L cs):=⟨by kernel_rfl,by kernel_rfl⟩
theorem ka64:KdA (ah (ak p 64) f L cs) [("a12",.local),("a3",.local),("b",.local),("b1",.local),("b2",.local),("n",.local),("q",.local),("r",.local),("_div2n1n",.globalImplicit)]:=⟨by kernel_rfl,by kernel_rfl⟩
theorem xB (p:Params):(ak p 64).body = .stmts (ay p 64):=rfl
theorem CJ:(([("a12",none),("a3",none),("b",none),("b1",none),("b2",none),("n",none),("q",none),("r",none)]:Loc).map (·.1)).Nodup :=by decide
theorem CK:∀p∈([("a12",none),("a3",none),("b",none),("b1",none),("b2",none),("n",none),("q",none),("r",none)]:Loc),p.2=none:=bF rfl
theorem CL {a_a12 a_a3 a_b a_b1 a_b2 a_n:AV} {K:List (Str×AV)->Led->Prop} (hT:TopG Γ) (h:K [("a12",a_a12),("a3",a_a3),("b",a_b),("b1",a_b1),("b2",a_b2),("n",a_n)] aa):WB Γ (ak Γ.w.params 64) [a_a12,a_a3,a_b,a_b1,a_b2,a_n] [] aa K:=by
 exact WB.p6 hT (fun _ _ _ _ _ _=>by kernel_rfl) .nil h
theorem xC {a_a12 a_a3 a_b a_b1 a_b2 a_n:AV} (hT:TopG Γ) (hk:0<Γ.k) (h:∀L,WS Γ.dn (ah (ak Γ.w.params 64) 64 L []) (ay Γ.w.params 64) ((L,ab [("a12",some a_a12),("a3",some a_a3),("b",some a_b),("b1",some a_b1),("b2",some a_b2),("n",some a_n),("q",none),("r",none)])::aa) fun fl o2=>∃o3,Less o3 o2∧K fl.val o3):
 ai Γ (.ref 64) [a_a12,a_a3,a_b,a_b1,a_b2,a_n] [] aa K:=by
 refine bA hk hT (fun s hR=>(xh _).hf hT s hR) (xB _) CJ CK (CL hT.dn fun L cs hcs=> ?_) (by kernel_rfl) (by kernel_rfl);rw[af (cs:=cs) hcs];show WBinds _ (ah (ak Γ.w.params 64) 64 L []) _ ((L,ab _)::aa) _;refine st_local (ka64.at 0 (by kernel_rfl)) lf (by show"upd") (by show"put") ?_;refine st_local (ka64.at 1 (by kernel_rfl)) lf (by show"upd") (by show"put") ?_;refine st_local (ka64.at 2 (by kernel_rfl)) lf (by show"upd") (by show"put") ?_;refine st_local (ka64.at 3 (by kernel_rfl)) lf (by show"upd") (by show"put") ?_;refine st_local (ka64.at 4 (by kernel_rfl)) lf (by show"upd") (by show"put") ?_;refine st_local (ka64.at 5 (by kernel_rfl)) lf (by show"upd") (by show"put") ?_;exact h L
theorem rK:((n:Int)!=0)=decide (n≠0):=by
 by_cases h:n=0<;>simp[h]
theorem gl_limit (hT:TopG Γ) (h:K (.int 4000) aa):WE Γ (ah (ak Γ.w.params 57) 57 L []) (.Name "_DIV_LIMIT" pos) aa K:=by
 obtain⟨t,e⟩:=gl_DIV_LIMIT (p:=Γ.w.params);exact pT (ka57.at 11 (by kernel_rfl)) ek57 e hT (.int _ _) h
theorem kM (hT0:TopG Γ) (hk:0<Γ.k) (hb:b<2^n) (hb0:b≠0) (hn:n≤9000) (hs:Builtin.Int.intBits (a:Int)≤n+4000) (hK:∀t,K (.ref t) ((t,bV [.int (a/b:Nat),.int (a%b:Nat)])::aa)):ai Γ (.ref 57) [.int a,.int b,.int n] [] aa K:=by
 refine rJ hT0 hk fun L=> ?_;have hT:TopG Γ.dn:=hT0.dn;clear hT0;refine s_cons ?_;show"w57";refine jm ?_;show"w57";refine jn ?_;show"w57";refine gl_limit hT ?_;show"w57";rw[show decide ((Builtin.Int.intBits (a:Int):Int)-(n:Int)≤4000)=true from decide_eq_true (by omega)];show"w57";refine rH (by omega) (ig hb hn) fun t=> ?_;show"w57";refine⟨_,Less.take (.head) (Less.skip Less.refl),?_⟩;have h:=hK t;rw[Hf,HN]at h;rw[FF _ (Er _),GA _ (Er _)];exact h
theorem ef {x y:Int} (h:Builtin.Int.intBits x+Builtin.Int.intBits y≤1000000):IntMulOk x y:=by
 unfold IntMulOk;rw[GS,not_and];intro _ q
 have:Builtin.Int.intTooBig ((Builtin.Int.intBits x:Int)+(Builtin.Int.intBits y:Int))=false:=by
  unfold Builtin.Int.intTooBig;have:(1000000:Int)<bitsLine:=by decide
  exact decide_eq_false (by omega)
 rw[this]at q;cases q
theorem ac (h:n≤1000):n≤sizeLine:=Ep h (by decide)
theorem fv (h:x<2^k) (hk:k+n≤1000000):(Builtin.Int.intBits (x:Int):Int)+(n:Int)≤2^27:=by
 have:=bG h;omega
theorem oO (hk:n≤1000000):(Builtin.Int.intBits 1:Int)+(n:Int)≤2^27:=by
 have:Builtin.Int.intBits 1=1:=by decide
 omega
theorem nB {q r X b:Int} (e:q*b+r=X) (h0:0≤r) (h1:r<b):q=X/b∧r=X%b:=by
 have:=kbt_unique (a:=X) (b:=b) (q:=q) (r:=r) (by omega) (by rw[Int.mul_comm b q];omega) h0 h1;exact⟨this.1.symm,this.2.symm⟩
theorem kO {a12 a3 b1 b2:Nat} (hT0:TopG Γ) (hk:1<Γ.k) (hn:n≤4000) (h3:a3<2^n) (hb:b=b1*2^n+b2) (h2:b2<2^n) (h1:b1<2^n) (h10:b1≠0) (hx:a12*2^n+a3<2^n*b) (hK:∀t,K (.ref t) ((t,bV [.int ((a12*2^n+a3)/b:Nat),.int ((a12*2^n+a3)%b:Nat)])::aa)):ai Γ (.ref 64) [.int a12,.int a3,.int b,.int b1,.int b2,.int n] [] aa K:=by
 refine xC hT0 (by omega) fun L=> ?_;have hT:TopG Γ.dn:=hT0.dn;clear hT0;have hp:=Fm n;have hp1:2^(n+1)=2*2^n:=by rw[Hy];omega
 have hab:a12<b:=by
  rw[ER (2^n) b]at hx;exact Nat.lt_of_mul_lt_mul_right (EI (Fi _ _) hx)
 have hbb:b<2^(2*n):=by
  have e:2^(2*n)=2^n*2^n:=by rw[Gs,FT]
  have:(b1+1)*2^n≤2^n*2^n:=Fq _ h1;rw[Ft]at this;omega
 refine bv (fun o=>∃q r:Nat,q*b1+r=a12∧r*2^n+a3<b+q*b2∧q<2^n∧r<2^(n+1)∧Less ((L,ab [nI "a12" a12,nI "a3" a3,nI "b" b,nI "b1" b1,nI "b2" b2,nI "n" n,nI "q" q,nI "r" r])::aa) o) ?_ ?_
 ·show"w64"
  refine iM (Er _) ?_;rw[Es,eU];show"w64";by_cases he:a12/2^n=b1
  ·rw[show(((a12/2^n:Nat):Int)==(b1:Int))=true from by rw[he];exact beq_self_eq_true _]
   have hge:b1*2^n≤a12:=by rw[←he];exact Il _ _
   show"w64";refine dm (names:=["q","r"]) ?_ (by kernel_rfl) (by kernel_rfl);show"w64";refine iL (Er _) (oO (by omega)) ?_;rw[Es,show((1:Int)*2^n)=((2^n:Nat):Int)from by rw[HP,kbt_cast]];show"w64";rw[show(((2^n:Nat):Int)-1)=((2^n-1:Nat):Int)from by omega];refine iL (Er _) (fv h1 (by omega)) ?_;rw[Es,fV];show"w64";rw[show((a12:Int)-((b1*2^n:Nat):Int)+(b1:Int))=((a12-b1*2^n+b1:Nat):Int)from by omega];refine⟨ac (Eo rfl),fun t=>⟨t,_,rfl,.head _,rfl,?_⟩⟩;show WBinds _ _ [("r",_),("q",_)] _ _;show"w64";refine⟨rfl,_,_,?_,?_,?_,?_,Less.skip Less.refl⟩
   ·have:(2^n-1)*b1+b1=2^n*b1:=by rw[←H4];congr 1;omega
    rw[ER b1]at hge⊢;omega
   ·have e1:(2^n-1)*b2+b2=2^n*b2:=by rw[←H4];congr 1;omega
    have hc:(a12-b1*2^n+1)*2^n≤b2*2^n:=Fq _ (by omega);rw[Ft]at hc⊢;rw[ER b2]at hc;omega
   ·omega
   ·have:=Gd a12 hp
    have hd:=FG a12 (2^n);rw[he,ER]at hd;omega
  ·rw[show(((a12/2^n:Nat):Int)==(b1:Int))=false from by rw[beq_eq_false_iff_ne];omega]
   have hlt:a12/2^n<b1:=by
    have:a12/2^n<b1+1:=by
     rw[Fo hp,Ft];omega
    omega
   rw[Fo hp]at hlt
   have hlt2:a12<2^(n+n):=by
    rw[FT];exact Ev hlt (Fq _ (ES h1))
   show"w64";refine bO ?_;show"w64";refine⟨am (xg _) hT,?_⟩;refine kM hT (show 0<Γ.k-1 by omega) h1 h10 (by omega) (by have:=bG hlt2;omega) fun t=> ?_;refine aI (.head _) rfl ?_;show"w64";have hdm:=FG a12 b1;have hml:=Gd a12 (Gg h10);refine⟨rfl,_,_,?_,?_,?_,?_,Less.skip Less.refl⟩
   ·rw[ER];exact hdm
   ·have:(a12%b1+1)*2^n≤b1*2^n:=Fq _ hml
    rw[Ft]at this;omega
   ·rw[Fo (Gg h10),ER]
    exact hlt
   ·omega
 ·rintro o ⟨q,r,e1,e2,hq,hr,hless⟩
  refine W.sub hless ?_;show"w64";refine iL (Er _) (fv hr (by omega)) ?_;rw[Es,fV];show"w64";refine AM ?_;rw[rI _ _ _ h3];show"w64";refine d8 (ef (by have:=bG hq;have:=bG h2;omega)) ?_;show"w64"
  refine gN (n:=(-(((r*2^n+a3:Nat):Int)-(q:Int)*(b2:Int))).toNat) (fun m o=>∃q' r':Int,m=(-r').toNat ∧q'*b+r'=((a12*2^n+a3:Nat):Int)∧r'<b∧
   o=(L,ab [nI "a12" a12,nI "a3" a3,nI "b" b,nI "b1" b1,nI "b2" b2,nI "n" n,nI "q" q',nI "r" r'])::aa) ⟨q,_,rfl,?_,?_,rfl⟩ ?_
  ·have t1:q*b=q*b1*2^n+q*b2:=by rw[hb,Fe,Gp]
   have t2:a12*2^n=q*b1*2^n+r*2^n:=by rw[←e1,Ft]
   rw[←Fn,←Fn];omega
  ·rw[←Fn];omega
  ·rintro m o ⟨q',r',rfl,hq',hr',rfl⟩
   show"w64";by_cases hneg:r'<0
   ·rw[show decide (r'<0)=true from decide_eq_true hneg]
    show"w64";refine⟨rfl,_,_,?_,Less.refl,⟨_,_,rfl,?_,?_,rfl⟩⟩
    ·omega
    ·rw[Int.sub_mul];omega
    ·omega
   ·rw[show decide (r'<0)=false from decide_eq_false hneg]
    show"w64";refine⟨ac (Eo rfl),fun t=> ?_⟩;obtain⟨eq,er⟩:=nB hq' (by omega) hr';have h:=hK t;rw[Hf,HN,←eq,←er]at h;exact⟨_,Less.take .head (Less.skip Less.refl),h⟩
theorem Ea (hT0:TopG Γ) (hk:2<Γ.k) (hb:b<2^n) (hb2:2^n≤2*b) (hn1:1≤n) (hn:n≤7000) (ha:a<2^n*b) (hK:∀t,K (.ref t) ((t,bV [.int (a/b:Nat),.int (a%b:Nat)])::aa)):ai Γ (.ref 57) [.int a,.int b,.int n] [] aa K:=by
 have hpn:=Fm n;by_cases hs:Builtin.Int.intBits (a:Int)≤n+4000
 ·exact kM hT0 (by omega) hb (by omega) (by omega) hs hK
 refine rJ hT0 (by omega) fun L=> ?_;have hT:TopG Γ.dn:=hT0.dn;have hk1:1<Γ.dn.k:=show 1<Γ.k-1 by omega
 clear hT0;refine s_cons ?_;show"w57";refine jm ?_;show"w57";refine jn ?_;show"w57";refine gl_limit hT ?_;show"w57";rw[show decide ((Builtin.Int.intBits (a:Int):Int)-(n:Int)≤4000)=false from decide_eq_false (by omega)];clear hs;show"w57";refine oG ?_;rw[bitAnd_m1,show((n:Int)%2)=((n%2:Nat):Int)from by omega];show"j57"
 refine bv (fun o=>∃A B N h p:Nat,p≤1∧A=a*(p+1)∧B=b*(p+1)∧N=n+p∧N=2*h∧
  o=(L,ab [nI "a" A,nI "b" B,nI "n" N,nI "pad" p,("half_n",none),("mask",none),("b1",none),("b2",none),("q1",none),("r",none),("q2",none)])::aa) ?_ ?_
 ·show"w57"
  rw[rK];by_cases hp:n%2=0
  ·rw[show decide (n%2≠0)=false from decide_eq_false (by omega)]
   show"w57";exact⟨rfl,a,b,n,n/2,n%2,by omega,by rw[hp];omega,by rw[hp];omega,by omega,by omega,rfl⟩
  ·rw[show decide (n%2≠0)=true from decide_eq_true hp]
   show"w57"
   have ha':a<2^(n+n):=by
    rw[FT];exact Ev ha (Fl _ (ES hb))
   refine wP (by decide) (fv (n:=1) ha' (by omega)) ?_;rw[show((a:Int)*2^(1:Int).toNat)=((a*2:Nat):Int)from by rw[Fn];rfl];show"w57";refine wP (by decide) (fv (n:=1) hb (by omega)) ?_;rw[show((b:Int)*2^(1:Int).toNat)=((b*2:Nat):Int)from by rw[Fn];rfl];show"w57";have hp1:n%2=1:=by omega
   exact⟨rfl,a*2,b*2,n+1,(n+1)/2,n%2,by omega,by rw[hp1],by rw[hp1],by omega,by omega,rfl⟩
 rintro _ ⟨A,B,N,h,p,hp,eA,eB,eN,eN2,rfl⟩;have hph:=Fm h;have eNN:2^N=2^h*2^h:=by rw[eN2,Gs,FT]
 have hBN:B<2^N∧2^N≤2*B∧A<2^N*B:=by
  rcases FI p 1 with hp0|hp1
  ·have:p=0:=by omega
   subst this;rw[E7,F0]at eA eB;rw[G3]at eN;rw[eA,eB,eN];exact⟨hb,hb2,ha⟩
  ·have:p=1:=by omega
   subst this;have e2:2^N=2*2^n:=by rw[eN,Hy];omega
   rw[e2,eA,eB];refine⟨by omega,by omega,?_⟩
   have e3:2*2^n*(b*(1+1))=4*(2^n*b):=by
    rw[ER b,←Gp,Ix 2 (2^n),Gp]
   rw[e3];omega
 obtain⟨hBN,hBN2,hAN⟩:=hBN;have hB0:0<B:=by omega
 have hb1:B/2^h<2^h:=by rw[Fo hph,←eNN];exact hBN
 have hb10:B/2^h≠0:=by
  have h1:2*2^h≤2^N:=by
   rw[eNN];refine Fq _ ?_;exact Ep (show 2≤2^1 from EL _) (Gc (by decide) (by omega))
  have:1≤B/2^h:=by rw[GQ hph];omega
  omega
 have hbm:=Gd B hph;have hBe:B=B/2^h*2^h+B%2^h:=by have:=FG B (2^h);rw[ER]at this;exact this.symm
 have hAe:A=A/2^h*2^h+A%2^h:=by have:=FG A (2^h);rw[ER]at this;exact this.symm
 have hA2:A/2^N*2^h+A/2^h%2^h=A/2^h:=by
  have:=FG (A/2^h) (2^h);rw[H9,←eNN,ER]at this;exact this
 have hA3:A/2^h<2^h*B:=by
  rw[Fo hph,Ix,←eNN];exact hAN
 have hAm:=Gd A hph;have hR1:=Gd (A/2^h) hB0
 have hX2:A/2^h%B*2^h+A%2^h<2^h*B:=by
  have:(A/2^h%B+1)*2^h≤B*2^h:=Fq _ hR1;rw[Ft,ER B]at this;omega
 show"w57";refine iM (by decide) ?_;rw[show((N:Int).fdiv (2^(1:Int).toNat))=(h:Int)from by rw[show(1:Int).toNat =1 from rfl,eU,eN2];omega];show"w57";refine iL (Er _) (oO (by omega)) ?_;rw[Es];show"w57";refine dm (names:=["b1","b2"]) ?_ (by kernel_rfl) (by kernel_rfl);show"w57";refine iM (Er _) ?_;rw[Es,eU];show"w57";refine oG ?_;rw[lE];show"w57";refine⟨ac (Eo rfl),fun t1=>⟨t1,_,rfl,.head _,rfl,?_⟩⟩;show WBinds _ _ [("b2",_),("b1",_)] _ _;show"w57";refine bO ?_;show"w57";refine iM (Er _) ?_;rw[Es,eU];show"w57";refine iM (Er _) ?_;rw[Es,eU];show"w57";refine oG ?_;rw[lE];show"w57";refine⟨am (xh _) hT,?_⟩;refine kO hT hk1 (by omega) (Gd _ hph) hBe hbm hb1 hb10 (by rw[hA2];exact hA3) fun t2=> ?_;rw[hA2];refine aI (.head _) rfl ?_;show"w57";refine bO ?_;show"w57";refine oG ?_;rw[lE];show"w57";refine⟨am (xh _) hT,?_⟩;refine kO hT hk1 (by omega) (Gd _ hph) hBe hbm hb1 hb10 hX2 fun t3=> ?_;refine aI (.head _) rfl ?_;show"j57"
 have eX:(A/2^h/B*2^h+(A/2^h%B*2^h+A%2^h)/B)*B+(A/2^h%B*2^h+A%2^h)%B=A:=by
  have d1:=FG (A/2^h) B;have d2:=FG (A/2^h%B*2^h+A%2^h) B;have d3:A/2^h*2^h=(B*(A/2^h/B))*2^h+A/2^h%B*2^h:=by rw[←Ft,d1]
  have d4:A/2^h/B*2^h*B=B*(A/2^h/B)*2^h:=by rw[ER _ B,Gp]
  rw[Ft,ER ((A/2^h%B*2^h+A%2^h)/B) B];omega
 have hR2:=Gd (A/2^h%B*2^h+A%2^h) hB0;have hQ2:(A/2^h%B*2^h+A%2^h)/B<2^h:=by rw[Fo hB0];exact hX2
 have hQ1:A/2^h/B<2^h:=by rw[Fo hB0];exact hA3
 generalize (A/2^h%B*2^h+A%2^h)/B=Q2 at*;generalize (A/2^h%B*2^h+A%2^h)%B=R2 at*;generalize A/2^h/B=Q1 at*
 have hq:Q1*2^h+Q2=a/b∧R2=a%b*(p+1):=by
  have h1:A/B=Q1*2^h+Q2:=Im (by omega) (by rw[Ft,FM];omega);have h2:=FG A B;rw[h1,ER]at h2;have h3:A%B=R2:=by omega
  have hp1:0<p+1:=by omega
  rw[eA,eB,Nat.mul_div_mul_right _ _ hp1]at h1;rw[eA,eB,Nat.mul_mod_mul_right]at h3;exact⟨h1.symm,h3.symm⟩
 refine bv (fun o=>Less ((L,ab [nI "a" A,nI "b" B,nI "n" N,nI "pad" p,nI "half_n" h,nI "mask" (1*2^h-1),nI "b1" (B/2^h:Nat),nI "b2" (B%2^h:Nat),nI "q1" Q1,nI "r" (a%b:Nat),nI "q2" Q2])::aa) o) ?_ ?_
 ·show"w57"
  rw[rK];rcases FI p 1 with hp0|hp1
  ·have:p=0:=by omega
   subst this;rw[E7,F0]at hq;rw[hq.2,show decide ((0:Nat)≠0)=false from rfl];show"w57";exact⟨rfl,by show"less"⟩
  ·have:p=1:=by omega
   subst this;rw[show decide ((1:Nat)≠0)=true from rfl];show"w57";refine AO (by decide) ?_;rw[show((R2:Int).fdiv (2^(1:Int).toNat))=((a%b:Nat):Int)from by rw[show(1:Int).toNat =1 from rfl,eU,hq.2];omega];show"w57";exact⟨rfl,by show"less"⟩
 intro o hless;refine W.sub hless ?_;show"w57";refine iL (Er _) (fv hQ1 (by omega)) ?_;rw[Es,fV];show"w57";refine AM ?_;rw[rI _ _ _ hQ2,hq.1];show"w57";refine⟨ac (Eo rfl),fun t=>⟨_,Less.take .head (Less.skip Less.refl),hK t⟩⟩
end
section
section
variable {b:Addr} {ws:List AV}
theorem pU (items:Array Value):∀(k:Nat) (acc:Array Value),(List.foldl (fun x1 x2=>x1++x2) acc (EH k items)).toList =acc.toList++(EH k items.toList).flatten :=fun z_=>by
 induction z_ with
 |zero=>intro acc;simp
 |succ k ih=>
  intro acc;rw[FK,List.foldl_cons,ih,G1,FK,Gr,EO]
theorem All2.rep (h:VRs vs ws'):∀k:Nat,VRs (EH k vs).flatten (EH k ws').flatten
 |0=> .nil
 |k+1=>by
  rw[FK,FK,Gr,Gr];exact h.append (All2.rep h k)
theorem ii (hm:lL l vs∈aa) (hz:vs.length*k≤2^24) (hk:k≤2^24) (h:∀r,K (.ref r) ((r,bD (EH k vs).flatten)::aa)):WBin Γ .Mult (.ref l) (.int k) aa K:=by
 intro va vb ha hb;cases ha;cases hb;rename_i u;intro A s hA hR;obtain⟨items,n,hl,hvs⟩:=bD.get hR hm;have e:=hvs.size;have h1:Builtin.List.listFitsIndex (k:Int)=true:=fitsIndex_of (by omega) (by omega);have h1':¬(!Builtin.List.listFitsIndex (k:Int))=true:=by rw[h1];decide
 have h2:¬items.size*(k:Int).toNat >(2^63-1)/8:=by rw[Es,←e];omega
 have h3:¬Builtin.List.listTooLong (items.size*(k:Int).toNat)=true:=by
  rw[Es,←e];simp[Builtin.List.listTooLong,sizeLine];omega
 have hfin:VRs (EH k vs).flatten (List.foldl (fun x1 x2=>x1++x2) #[] (EH (if items.isEmpty=true then 0 else(k:Int).toNat) items)).toList :=by
  rw[pU,Es];split
  ·rename_i hemp
   have hi:items= #[]:=by simpa using hemp
   subst hi;have hv:vs=[]:=by cases hvs;rfl
   subst hv;simp;exact .nil
  ·simpa using All2.rep hvs k
 clear h1;generalize hx:(k:Int)=x at*
 exact wpAny_binaryOp_repeat_ref (T:="list") (U:="int") (by decide) ⟨_,hl,rfl⟩ (fun s'=>typeIs_int s' x u) noFill_list_mul PySem.F.fills_int_mul PySem.F.slot_int_rmul repeat_list PySem.F.slot_int_index.lookup
  (call_meets PySem.F.slot_int_rmul (typeIs_int s x u) PySem.F.entry_int_rmul (PySem.F.args_int_rmul_2 _ _) (int___rmul___int_list x u l items n)
    ⟨hl,rfl,⟨_,hl,rfl⟩,call_meets PySem.F.slot_list_mul ⟨_,hl,rfl⟩ PySem.F.entry_list_mul (PySem.F.args_list_mul_2 _ _)
      (AutoListH.list___mul___list_int_3 l items n x u h1' h2 h3) ⟨hl,⟨_,_,.val _,hR.push (t:=s.toks) (P:=bD (EH k vs).flatten) ⟨_,_,rfl,hfin⟩ km,h _⟩⟩⟩)
theorem bt (hm:lL l vs∈aa) (hm2:lL b ws∈aa) (hz:vs.length+ws.length≤sizeLine) (h:∀r,K (.ref r) (lL r (vs++ws)::aa)):WBin Γ .Add (.ref l) (.ref b) aa K:=by
 intro va vb ha hb;cases ha;cases hb;intro A s hA hR;obtain⟨items,n,hl,hvs⟩:=bD.get hR hm;obtain⟨items2,n2,hl2,hws⟩:=bD.get hR hm2;have e:=hvs.size;have e2:=hws.size;refine concat_meets ⟨_,hl,rfl⟩ ⟨_,hl2,rfl⟩ noFill_list_add seq_list_add PySem.F.slot_list_add PySem.F.entry_list_add (PySem.F.args_list_add_2 _ _) (list_addW l b items items2 n n2 none none #[] #[] (by omega)) ⟨hl,hl2,?_⟩
 refine⟨_,_,.val _,hR.push (t:=s.toks) (P:=bD (vs++ws)) ⟨_,_,rfl,?_⟩ km,h _⟩;rw[G1];exact hvs.append hws
theorem ua {K:Bool->Led->Prop} (hm:lL l vs∈aa) (hz:vs.length≤sizeLine) (h:K (decide (vs≠[])) aa):WTr Γ (.ref l) aa K:=by
 intro va hv;cases hv;intro A s hA hR;obtain⟨items,n,hl,hvs⟩:=bD.get hR hm;have e:=hvs.size;have hlt:=ie hz;rw[e]at hlt;refine wpAny_truthy_list ⟨_,hl,rfl,n,rfl⟩ hlt ?_;refine⟨_,aa,rfl,hR.toks _,?_⟩
 have:(!items.isEmpty)=decide (vs≠[]):=by
  cases vs with
  |nil=>
   have:items= #[]:=by
    have:items.size=0:=e.symm;exact Array.eq_empty_of_size_eq_zero this
   subst this;rfl
  |cons a r=>
   have h0:items.isEmpty=false:=by
    rw[EK]at e;cases hz0:items.isEmpty with
    |false=>rfl
    |true=>
     have:=Array.isEmpty_iff_size_eq_zero.mp hz0;omega
   rw[h0];simp
 rw[this];exact h
theorem lF {K:Bool->Led->Prop} (h:K false aa):WTr Γ .none aa K:=by
 intro va hv;cases hv;exact fun _ _ _ hR=>truthy_none ⟨_,aa,rfl,hR,h⟩
theorem xD {x:Str} {K:Bool->Led->Prop} (hz:(x.length:Int)<9223372036854775808) (h:K ((x.length:Int)!=0) aa):WTr Γ (.str x) aa K:=by
 intro va hv;cases hv;exact fun _ _ _ hR=>PySem.P.truthy_str (by omega) ⟨_,aa,rfl,hR.toks _,h⟩
end
end
section
noncomputable def fX:List (Addr×Addr×Str):=[(114,110,"_law_element.<locals>.<lambda>"),(126,122,"_law_rows.<locals>.<lambda>"),(77,73,"_digits2int.<locals>.inner"),(70,66,"_int2digits.<locals>.inner"),(143,141,"law.<locals>.<lambda>")]
structure Std (Γ:Cx):Prop where
 T:TopG Γ
 mem:∀t∈fX,t∈Γ.tabs
 nd:(Γ.tabs.map (·.2.1)).Nodup
theorem Std.to (h:Std Γ) (hs:Sub Γ h'):Std (Γ.to h' j):=⟨h.T.to hs,h.mem,h.nd⟩
theorem Std.dn (h:Std Γ):Std Γ.dn:=h.to (j:=Γ.k-1) Sub.refl
theorem Std.at (h:Std Γ) (hs:Sub Γ h'):Std (Γ.at h'):=⟨h.T.at hs,h.mem,h.nd⟩
theorem lG {g:α->β} {l:List α} (hn:(l.map g).Nodup) {a b:α} (ha:a∈l) (hb:b∈l) (e:g a=g b):a=b:=by
 induction l with
 |nil=>cases ha
 |cons x l ih=>
  rw[EQ,E2]at hn;rcases EG.mp ha with ha|ha<;>rcases EG.mp hb with hb|hb
  ·rw[ha,hb]
  ·exact absurd (by rw[←ha,e];exact EE hb) hn.1
  ·exact absurd (by rw[←hb,←e];exact EE ha) hn.1
  ·exact ih hn.2 ha hb
theorem Std.uniq (h:Std Γ) {c P:Addr} {q:Str} (hm:(c,P,q)∈fX):∀t∈Γ.tabs,t.2.1=P->t.2.2=q:=fun t ht e=>by
 have:=lG (g:=fun t:Addr×Addr×Str=>t.2.1) h.nd ht (h.mem _ hm) e;rw[this]
theorem cM (hm:(f,bg o)∈aa) (hd:o.data= .func fd) (s:Shared) (hR:R Γ aa s):(∃o,s.heap.get? f=some o∧o.data= .func fd)∧s.heap.CodeRec fd.code fd.qualname:=by
 obtain⟨o',e,e'⟩:=hR.get hm;cases e';obtain⟨c,_,_,h⟩:=hR.fn _ hm _ e fd hd;exact⟨⟨_,e,hd⟩,h⟩
theorem aV (hm:(f,bg o)∈aa) (hd:o.data= .func fd):bu Γ aa (.ref f):=mr fun s hR=>let⟨⟨o,ho,hd⟩,_⟩:=cM hm hd s hR;⟨o,fd,ho,hd⟩
theorem eV:∀q∈([]:Led),NC q.2:=fun _ h=>nomatch h
theorem c_ {a:Addr} {P:OP} {F:Led} (h:NC P) (hF:∀q∈F,NC q.2):∀q∈(a,P)::F,NC q.2:=fun q hq=>by
 rcases EG.mp hq with rfl|hq
 ·exact h
 ·exact hF q hq
noncomputable def dL (n:Nat):Nat->Nat->List Nat
 |0,_=>[]
 |k+1,x=>x%2^n::dL n k (x/2^n)
theorem rL:dL n 0 x=[]:=rfl
theorem ij:dL n (k+1) x=x%2^n::dL n k (x/2^n):=rfl
theorem cQ (n:Nat):∀k x,(dL n k x).length =k
 |0,_=>rfl
 |k+1,x=>by rw[ij,EK,cQ]
theorem rM (n:Nat):∀j k x,dL n (j+k) x=dL n j (x%2^(n*j))++dL n k (x/2^(n*j)):=fun z_=>by
 induction z_ with
 |zero=>intro k x;simp[rL]
 |succ j ih=>
  intro k x;have e:2^(n*(j+1))=2^n*2^(n*j):=by rw[Fe,F0,Fd,FT]
  rw[Nat.succ_add,ij,ij,ih k (x/2^n),e,EX]
  congr 1
  ·rw[Nat.mod_mul_right_mod]
  ·congr 2
   ·rw[Nat.mod_mul_right_div_self]
   ·rw[H9]
noncomputable def fw (vs:List AV) (L:Nat) (ds:List Nat):List AV:=vs.take L++ds.map (fun(d:Nat)=>AV.int (d:Int))++vs.drop (L+ds.length)
theorem lH {L:Nat} (h:L+ds.length≤vs.length):(fw vs L ds).length =vs.length:=by
 unfold fw;simp;omega
theorem pV {L:Nat} {es:List Nat} (h:L+ds.length+es.length≤vs.length):fw (fw vs L ds) (L+ds.length) es=fw vs L (ds++es):=by
 unfold fw;have h1:(vs.take L++ds.map (fun(d:Nat)=>AV.int (d:Int))).length =L+ds.length:=by simp;omega
 rw[List.take_append_of_le_length (by rw[h1];exact EL _),Gi (by rw[h1];exact EL _),List.drop_append,h1,FJ (by rw[h1];omega),List.drop_drop];simp[Fj]
theorem pW {L:Nat} (h:L<vs.length):fw vs L [d]=vs.set L (.int (d:Int)):=by
 unfold fw;rw[List.set_eq_take_append_cons_drop,if_pos h];simp
theorem ek71:EnvOk (ah (ak p 71) f L cs):=⟨by kernel_rfl,by kernel_rfl⟩
theorem ka71:KdA (ah (ak p 71) f L cs) [("a",.local),("n",.cell),("a_digits",.cell),("inner",.cell),("len",.globalImplicit)]:=⟨by kernel_rfl,by kernel_rfl⟩
theorem xE (p:Params):(ak p 71).body = .stmts (ay p 71):=rfl
theorem CM:(([("a",none)]:Loc).map (·.1)).Nodup :=by decide
theorem CN:∀p∈([("a",none)]:Loc),p.2=none:=bF rfl
theorem CO {a_a a_n:AV} {K:List (Str×AV)->Led->Prop} (hT:TopG Γ) (h:K [("a",a_a),("n",a_n)] aa):WB Γ (ak Γ.w.params 71) [a_a,a_n] [] aa K:=by
 exact WB.p2 hT (fun _ _=>by kernel_rfl) .nil h
theorem xF {a_a a_n:AV} (hT:TopG Γ) (hk:0<Γ.k) (h:∀L c_inner c_a_digits c_n,WS Γ.dn (ah (ak Γ.w.params 71) 71 L [("inner",c_inner),("a_digits",c_a_digits),("n",c_n)]) (ay Γ.w.params 71) (cN c_inner::cN c_a_digits::(c_n,h_ (some a_n))::(L,ab [("a",some a_a)])::aa) fun fl o2=>∃o3,Less o3 o2∧K fl.val o3):
 ai Γ (.ref 71) [a_a,a_n] [] aa K:=by
 refine bA hk hT (fun s hR=>(xj _).hf hT s hR) (xE _) CM CN (CO hT.dn fun L cs hcs=> ?_) (by kernel_rfl) (by kernel_rfl);have hcs0:cs.map (·.1)=[("inner":Str),("a_digits":Str),("n":Str)]:=hcs.trans (by kernel_rfl);obtain⟨c_inner,cs1,e1,hcs1⟩:=au hcs0;obtain⟨c_a_digits,cs2,e2,hcs2⟩:=au hcs1;obtain⟨c_n,cs3,e3,hcs3⟩:=au hcs2;have e0:=af hcs3;clear hcs hcs0 hcs1 hcs2 hcs3;subst e0;subst e3;subst e2;subst e1;show WBinds _ (ah (ak Γ.w.params 71) 71 L [("inner",c_inner),("a_digits",c_a_digits),("n",c_n)]) _ (cN c_inner::cN c_a_digits::cN c_n::(L,ab _)::aa) _;refine st_local (ka71.at 0 (by kernel_rfl)) lf (by show"upd") (by show"put") ?_;refine st_cell (ka71.at 1 (by kernel_rfl)) cf (by show"cel") (by show"upd") ?_;exact h L c_inner c_a_digits c_n
noncomputable def uc (p:Params):Stmt:=(ay p 71)[1]?.getD (.Pass default)
noncomputable def lI:Stmt->List Stmt| .FunctionDef (body:=b) .. =>b|_=>[]
noncomputable def lJ:Stmt->Scope| .FunctionDef (scope:=b) .. =>b|_=>default
noncomputable def nC:Stmt->Arguments| .FunctionDef (args:=b) .. =>b|_=>default
noncomputable def rN (p:Params) (cn ci ca:Addr) (doc pm:Value) (c':Addr) (aq:Value):Obj:=eT "inner" "_int2digits.<locals>.inner" (nC (uc p)) (lI (uc p)) (lJ (uc p)) [("n",cn),("inner",ci),("a_digits",ca)] doc pm c' aq
noncomputable def pX (p:Params) (cn ci ca:Addr) (doc pm:Value) (c':Addr) (aq:Value):FuncData:=gl (rN p cn ci ca doc pm c' aq)
theorem oP {cn ci ca:Addr}:(rN p cn ci ca doc pm c' aq).data = .func (pX p cn ci ca doc pm c' aq):=rfl
theorem AX {cn ci ca:Addr}:(pX p cn ci ca doc pm c' aq).body = .stmts (lI (uc p)):=rfl
theorem ka71i {cn ci ca:Addr}:KdA (ah (pX p cn ci ca doc pm c' aq) f L cs) [("x",.local),("L",.local),("R",.local),("mid",.local),("shift",.local),("upper",.local),("lower",.local),("a_digits",.free),("inner",.free),("n",.free)]:=⟨by kernel_rfl,by kernel_rfl⟩
noncomputable abbrev kP (f:Addr) (o:Obj) (cn ci ca dg:Addr) (n:Nat) (vs:List AV) (aa:Led):Led:=(f,bg o)::cI cn n::cR ci f::cR ca dg::lL dg vs::aa
theorem AY:(([("x",none),("L",none),("R",none),("mid",none),("shift",none),("upper",none),("lower",none)]:Loc).map (·.1)).Nodup :=by decide
theorem AZ:∀p∈([("x",none),("L",none),("R",none),("mid",none),("shift",none),("upper",none),("lower",none)]:Loc),p.2=none:=bF rfl
theorem A8 {cn ci ca:Addr} {x L R:AV} {K:List (Str×AV)->Led->Prop} (h:K [("x",x),("L",L),("R",R)] aa):WB Γ (pX p cn ci ca doc pm c' aq) [x,L,R] [] aa K:=by
 exact WB.q3 (fun _ _ _=>by kernel_rfl) .nil h
theorem A9 {L R m:Nat} (hm:R-L=m) (hLR:L<R) (h1:¬L+1=R) (hk:m<k):(L<(L+R)/2∧(L+R)/2<R)∧((L+R)/2-L<m∧R-(L+R)/2<m)∧((L+R)/2-L<k-1∧R-(L+R)/2<k-1)∧(L+R)/2-L+(R-(L+R)/2)=m:=by omega
theorem CP {cn ci ca dg:Addr} (hn:n≤10000):∀(m:Nat) (Γ:Cx) (x L R:Nat) (vs:List AV),TopG Γ->m<Γ.k->m≤50->R-L=m->L<R->R≤vs.length->vs.length≤1000->x<2^(n*(R-L))->
 ai Γ (.ref f) [.int x,.int L,.int R] [] (kP f (rN Γ.w.params cn ci ca doc pm c' aq) cn ci ca dg n vs aa) fun r o=>r= .none ∧o=kP f (rN Γ.w.params cn ci ca doc pm c' aq) cn ci ca dg n (fw vs L (dL n (R-L) x)) aa:=by
 intro m;induction m using Nat.strongRecOn with
 |ind m ih=>
  intro Γ x L R vs hT0 hk hm50 hm hLR hR hvs hx;refine bA (by omega) hT0 (cM (.head _) oP) AX AY AZ (A8 fun L' cs hcs=> ?_) (by kernel_rfl) (by kernel_rfl);rw[af (cs:=cs) hcs];have hT:TopG Γ.dn:=hT0.dn;clear hT0;show WBinds _ (ah (pX Γ.w.params cn ci ca doc pm c' aq) f L' [("n",cn),("inner",ci),("a_digits",ca)]) _ ((L',ab _)::kP f _ cn ci ca dg n vs aa) fun o1=>WS _ (ah (pX Γ.w.params cn ci ca doc pm c' aq) f L' [("n",cn),("inner",ci),("a_digits",ca)]) _ o1 _;show"w71i";refine s_cons ?_;show"w71i";by_cases h1:L+1=R
  ·rw[show(((L:Int)+1)==(R:Int))=true from by rw[beq_iff_eq];omega]
   show"w71i";refine dK ?_;show"w71i";refine jg (vs:=vs) (Er _) (by omega) (by omega) (ac hvs) (by show"upd") ?_;show"w71i";refine⟨_,Less.skip Less.refl,rfl,?_⟩;have e1:R-L=1:=by omega
   rw[e1,F0]at hx;rw[e1,show dL n 1 x=[x]from by rw[dL,dL,GC hx],pW (by omega),Es]
  ·rw[show(((L:Int)+1)==(R:Int))=false from by rw[beq_eq_false_iff_ne];omega]
   show"w71i";refine iM (by decide) ?_;rw[show(((L:Int)+(R:Int)).fdiv (2^(1:Int).toNat))=(((L+R)/2:Nat):Int)from fU L R];obtain⟨⟨hm1,hm2⟩,⟨hmL,hmR⟩,⟨hkL,hkR⟩,e3⟩:=A9 hm hLR h1 hk;generalize (L+R)/2=mid at*;have hvm:mid≤vs.length:=Ep (ES hm2) hR;have hm5:mid-L≤50:=ES (Ev hmL hm50);have hLm:L+(mid-L)=mid:=G0 (ES hm1);show"w71i";rw[←FZ (ES hm1)];refine d8 (ef ?_) ?_
   ·have b1:=bG (n:=mid-L) (k:=14) (EI hm5 (by decide))
    have b2:=bG (n:=n) (k:=14) (by omega);omega
   rw[←Fn,ER];show"w71i";refine iM (Er _) ?_;rw[Es,eU];show"w71i";have hs1:n*(mid-L)≤10000*50:=FV hn hm5;have hs2:n*(R-L)≤10000*50:=FV hn (hm▸hm50);refine iL (Er _) (fv (EI (Nat.div_le_self _ _) hx) (by omega)) ?_;rw[Es,fV];show"w71i";refine AN ?_;rw[t_];show"w71i";refine⟨aV (.tail _ (.head _)) oP,?_⟩;have hp:=Fm (n*(mid-L));have e2:2^(n*(R-L))=2^(n*(R-mid))*2^(n*(mid-L)):=by rw[←FT,←Fe,Fd (R-mid),e3,hm]
   refine ai.frame (F:=[_]) (pre:=kP f _ cn ci ca dg n vs aa) (c_ ee eV) Less.refl fun h' hs'=> ?_;refine ai.mono (ih (mid-L) hmL (Γ.dn.at h') _ L mid vs (hT.at hs') hkL hm5 rfl hm1 hvm hvs (Gd _ hp)) ?_;rintro _ _ ⟨rfl,rfl⟩;simp only[EX,Ff];have hl1:=cQ n (mid-L) (x%2^(n*(mid-L)));have hl2:=lH (vs:=vs) (L:=L) (ds:=dL n (mid-L) (x%2^(n*(mid-L)))) (by rw[hl1,hLm];exact hvm);show"w71i";refine⟨aV (.tail _ (.head _)) oP,?_⟩;refine ai.frame (F:=[_]) (pre:=kP f _ cn ci ca dg n _ aa) (c_ ee eV) Less.refl fun h' hs'=> ?_;refine ai.mono (ih (R-mid) hmR (Γ.dn.at h') _ mid R _ (hT.at hs') hkR (ES (Ev hmR hm50)) rfl hm2 (hl2▸hR) (hl2▸hvs) ?_) ?_
   ·rw[Fo hp,←e2];exact hx
   rintro _ _ ⟨rfl,rfl⟩;simp only[EX,Ff];show"w71i";refine⟨_,Less.skip Less.refl,rfl,?_⟩;have e4:mid=L+(dL n (mid-L) (x%2^(n*(mid-L)))).length :=by rw[hl1,hLm]
   rw[hm,←e3,rM,←pV (by rw[hl1,cQ,hLm,G0 (ES hm2)];exact hR),←e4]
end
section
theorem pY {N:Nat} (h:ds.length=N):fw (EH N (AV.int 0)) 0 ds=ds.map (fun(d:Nat)=>AV.int (d:Int)):=by
 unfold fw;rw[F9,Ff,FJ (by simp;omega),EV]
noncomputable def b8 (a n:Nat):Nat:=(Builtin.Int.intBits (a:Int)+n-1)/n
theorem xG (a:α):∀k:Nat,(EH k [a]).flatten =EH k a
 |0=>rfl
 |k+1=>by rw[FK,Gr,xG a k,FK];rfl
theorem Dp (hS:Std Γ) (hk:52<Γ.k) (hn:1≤n) (hn2:n≤7000) (ha:b8 a n≤50) (hK:∀l,K (.ref l) (lL l ((dL n (b8 a n) a).map fun(d:Nat)=>AV.int (d:Int))::aa)):ai Γ (.ref 71) [.int a,.int n] [] aa K:=by
 refine xF hS.T (by omega) fun L ci ca cn=> ?_;have hS1:Std Γ.dn:=hS.dn;have hT:TopG Γ.dn:=hS1.T;clear hS;have hdiv:b8 a n*n≤Builtin.Int.intBits (a:Int)+n-1:=Il _ _
 have hbits:Builtin.Int.intBits (a:Int)≤b8 a n*n:=by
  have h1:=Iy (a:=Builtin.Int.intBits (a:Int)+n-1) (b:=n) (by omega);unfold b8;omega
 refine s_cons ?_;show"w71";refine⟨ac (Eo rfl),fun z=> ?_⟩;show"w71";refine jm ?_;show"w71";refine jn ?_;show"w71";rw[show((Builtin.Int.intBits (a:Int):Int)+(n:Int)-1)=((Builtin.Int.intBits (a:Int)+n-1:Nat):Int)from by omega];refine dT (by omega) (ig (k:=20) (by omega) (by decide)) ?_;rw[FF _ (Er _),←Hf];show WBin _ _ _ (.int ((b8 a n:Nat):Int)) _ _;generalize hN:b8 a n=N at*;refine ii (.head _) (by simp;omega) (by omega) fun l=> ?_;rw[xG];show"j71";refine s_cons ?_;refine wZ (c:=70) (P:=66) (q:="_int2digits.<locals>.inner") hT (hS1.mem _ (by show"mem")) (hS1.uniq (by show"mem")) (by kernel_rfl) (by kernel_rfl) (clos:=[("n",cn),("inner",ci),("a_digits",ca)]) (by kernel_rfl) (by kernel_rfl) fun f doc pm c' aq=> ?_;show WSt _ _ _ _ ((f,bg (rN Γ.w.params cn ci ca doc pm c' aq))::_) _;show"w71";by_cases h0:a=0
 ·have hN0:N=0:=by
   rw[←hN,h0];unfold b8;rw[show Builtin.Int.intBits ((0:Nat):Int)=0 from rfl];exact GR (by omega)
  rw[show((a:Int)!=0)=false from by rw[h0];rfl];show"w71";have h:=hK l;rw[hN0]at h⊢;exact⟨_,Less.take (by show"pick") (by show"less"),h⟩
 ·rw[show((a:Int)!=0)=true from by rw[bne_iff_ne];omega]
  show"w71";refine eI (by show"mem") (ac (by simp;omega)) ?_;show"w71";refine⟨aV (by show"mem") oP,?_⟩
  have hN1:0<N:=by
   have:=gS (n:=a) (k:=0) (by omega);rcases Iz N with h|h
   ·rw[h]at hbits;omega
   ·exact h
  have hlt:a<2^(n*(N-0)):=Ev (fW a) (Gc (by decide) (by rw[Fw,ER];exact hbits));refine ai.frame (F:=[(L,ab [nI "a" a])]) (pre:=kP f _ cn ci ca l n (EH N (.int 0)) aa) (c_ ee eV) (by show"less") fun h' hs'=> ?_;rw[FN];refine ai.mono (CP (by omega) N (Γ.dn.at h') a 0 N _ (hT.at hs') (show N<Γ.k-1 by omega) ha rfl hN1 (by simp) (by simp;omega) hlt) ?_;rintro _ _ ⟨rfl,rfl⟩;rw[Fw,pY (cQ _ _ _)];simp only[EX,Ff];show"w71";exact⟨_,by show"less",hK l⟩
end
section
noncomputable def cK (n:Nat):List Nat->Nat
 |[]=>0
 |d::r=>d+2^n*cK n r
theorem jo:cK n []=0:=rfl
theorem eJ {r:List Nat}:cK n (d::r)=d+2^n*cK n r:=rfl
theorem jp (n:Nat):∀a b:List Nat,cK n (a++b)=cK n a+2^(n*a.length)*cK n b:=fun z_=>by
 induction z_ with
 |nil=>intro b;simp[jo]
 |cons d a ih=>
  intro b;rw[EX,eJ,eJ,ih b,EK,Fe n,F0,FT,Fe,ER (2^(n*a.length)) (2^n),Gp,Fj]
theorem nD (n:Nat):∀a:List Nat,(∀d∈a,d<2^n)->cK n a<2^(n*a.length):=fun z_=>by
 induction z_ with
 |nil=>intro _;simp[jo]
 |cons d a ih=>
  intro h;have h1:=ih fun x hx=>h x (.tail _ hx);have h2:=h d (.head _);have h3:2^n*(cK n a+1)≤2^n*2^(n*a.length):=Fl _ h1;rw[eJ,EK,Fe n,F0,FT,ER (2^(n*a.length)) (2^n)];rw[Fe,F0]at h3;omega
theorem rO (n:Nat):∀k x,x<2^(n*k)->cK n (dL n k x)=x:=fun z_=>by
 induction z_ with
 |zero=>intro x h;simp[jo,rL]at h⊢;omega
 |succ k ih=>
  intro x h;rw[Fe,F0,FT]at h;rw[ij,eJ,ih (x/2^n) (by rw[Fo (Fm n)];exact h)];exact Nat.mod_add_div x (2^n)
theorem ud (n:Nat):∀k x,∀d∈dL n k x,d<2^n:=fun z_=>by
 induction z_ with
 |zero=>intro _ d h;cases h
 |succ k ih=>
  intro x d h;rw[ij]at h;rcases EG.mp h with h|h
  ·rw[h];exact Gd _ (Fm n)
  ·exact ih _ d h
noncomputable def part (ds:List Nat) (L R:Nat):List Nat:=(ds.drop L).take (R-L)
theorem iP {L R:Nat} (h:R≤ds.length):(part ds L R).length =R-L:=by
 unfold part;rw[EJ,Fp];exact Gm (Hn h L)
theorem rP {L:Nat} (h:ds[L]? =some d):part ds L (L+1)=[d]:=by
 unfold part;obtain⟨h1,h2⟩:=EB.mp h;rw[Fz h1,h2,FE];rfl
theorem rQ {L m R:Nat} (h1:L≤m) (h2:m≤R):part ds L R=part ds L m++part ds m R:=by
 unfold part;rw[show R-L=(m-L)+(R-m)from by rw[←Nat.sub_add_comm h1,G0 h2],List.take_add,List.drop_drop,G0 h1]
theorem uf {L R:Nat} (h:∀d∈ds,d<2^n):∀d∈part ds L R,d<2^n:=fun d hd=>h d (GV (F1 hd))
theorem ek78:EnvOk (ah (ak p 78) f L cs):=⟨by kernel_rfl,by kernel_rfl⟩
theorem ka78:KdA (ah (ak p 78) f L cs) [("digits",.cell),("n",.cell),("inner",.cell),("len",.globalImplicit)]:=⟨by kernel_rfl,by kernel_rfl⟩
theorem xH (p:Params):(ak p 78).body = .stmts (ay p 78):=rfl
theorem CQ:(([]:Loc).map (·.1)).Nodup :=by decide
theorem CR:∀p∈([]:Loc),p.2=none:=bF rfl
theorem CS {a_digits a_n:AV} {K:List (Str×AV)->Led->Prop} (hT:TopG Γ) (h:K [("digits",a_digits),("n",a_n)] aa):WB Γ (ak Γ.w.params 78) [a_digits,a_n] [] aa K:=by
 exact WB.p2 hT (fun _ _=>by kernel_rfl) .nil h
theorem xI {a_digits a_n:AV} (hT:TopG Γ) (hk:0<Γ.k) (h:∀L c_inner c_n c_digits,WS Γ.dn (ah (ak Γ.w.params 78) 78 L [("inner",c_inner),("n",c_n),("digits",c_digits)]) (ay Γ.w.params 78) (cN c_inner::(c_n,h_ (some a_n))::(c_digits,h_ (some a_digits))::(L,ab [])::aa) fun fl o2=>∃o3,Less o3 o2∧K fl.val o3):
 ai Γ (.ref 78) [a_digits,a_n] [] aa K:=by
 refine bA hk hT (fun s hR=>(xk _).hf hT s hR) (xH _) CQ CR (CS hT.dn fun L cs hcs=> ?_) (by kernel_rfl) (by kernel_rfl);have hcs0:cs.map (·.1)=[("inner":Str),("n":Str),("digits":Str)]:=hcs.trans (by kernel_rfl);obtain⟨c_inner,cs1,e1,hcs1⟩:=au hcs0;obtain⟨c_n,cs2,e2,hcs2⟩:=au hcs1;obtain⟨c_digits,cs3,e3,hcs3⟩:=au hcs2;have e0:=af hcs3;clear hcs hcs0 hcs1 hcs2 hcs3;subst e0;subst e3;subst e2;subst e1;show WBinds _ (ah (ak Γ.w.params 78) 78 L [("inner",c_inner),("n",c_n),("digits",c_digits)]) _ (cN c_inner::cN c_n::cN c_digits::(L,ab _)::aa) _;refine st_cell (ka78.at 0 (by kernel_rfl)) cf (by show"cel") (by show"upd") ?_;refine st_cell (ka78.at 1 (by kernel_rfl)) cf (by show"cel") (by show"upd") ?_;exact h L c_inner c_n c_digits
noncomputable def ug (p:Params):Stmt:=(ay p 78)[0]?.getD (.Pass default)
noncomputable def rR (p:Params) (cn ci cd:Addr) (doc pm:Value) (c':Addr) (aq:Value):Obj:=eT "inner" "_digits2int.<locals>.inner" (nC (ug p)) (lI (ug p)) (lJ (ug p)) [("n",cn),("inner",ci),("digits",cd)] doc pm c' aq
noncomputable def pZ (p:Params) (cn ci cd:Addr) (doc pm:Value) (c':Addr) (aq:Value):FuncData:=gl (rR p cn ci cd doc pm c' aq)
theorem oQ {cn ci cd:Addr}:(rR p cn ci cd doc pm c' aq).data = .func (pZ p cn ci cd doc pm c' aq):=rfl
theorem A_ {cn ci cd:Addr}:(pZ p cn ci cd doc pm c' aq).body = .stmts (lI (ug p)):=rfl
theorem ka78i {cn ci cd:Addr}:KdA (ah (pZ p cn ci cd doc pm c' aq) f L cs) [("L",.local),("R",.local),("mid",.local),("shift",.local),("digits",.free),("inner",.free),("n",.free)]:=⟨by kernel_rfl,by kernel_rfl⟩
noncomputable abbrev ae (ds:List Nat):List AV:=ds.map fun(d:Nat)=>AV.int (d:Int)
theorem cm (h:ds[i]? =some d):(ae ds)[i]? =some (.int (d:Int)):=by rw[Eu,h];rfl
noncomputable abbrev kQ (f:Addr) (o:Obj) (cn ci cd dg:Addr) (n:Nat) (aa:Led):Led:=(f,bg o)::cI cn n::cR ci f::cR cd dg::aa
theorem Ba:(([("L",none),("R",none),("mid",none),("shift",none)]:Loc).map (·.1)).Nodup :=by decide
theorem Bb:∀p∈([("L",none),("R",none),("mid",none),("shift",none)]:Loc),p.2=none:=bF rfl
theorem Bc {cn ci cd:Addr} {L R:AV} {K:List (Str×AV)->Led->Prop} (h:K [("L",L),("R",R)] aa):WB Γ (pZ p cn ci cd doc pm c' aq) [L,R] [] aa K:=by
 exact WB.q2 (fun _ _=>by kernel_rfl) .nil h
theorem CT {cn ci cd dg:Addr} (hn:n≤10000) (hdg:lL dg (ae ds)∈aa) (hds:ds.length≤50) (hlt:∀d∈ds,d<2^n):∀(m:Nat) (Γ:Cx) (L R:Nat),TopG Γ->m<Γ.k->R-L=m->L<R->R≤ds.length->
 ai Γ (.ref f) [.int L,.int R] [] (kQ f (rR Γ.w.params cn ci cd doc pm c' aq) cn ci cd dg n aa) fun r o=>r= .int (cK n (part ds L R):Nat)∧o=kQ f (rR Γ.w.params cn ci cd doc pm c' aq) cn ci cd dg n aa:=by
 intro m;induction m using Nat.strongRecOn with
 |ind m ih=>
  intro Γ L R hT0 hk hm hLR hR;refine bA (by omega) hT0 (cM (.head _) oQ) A_ Ba Bb (Bc fun L' cs hcs=> ?_) (by kernel_rfl) (by kernel_rfl);rw[af (cs:=cs) hcs];have hT:TopG Γ.dn:=hT0.dn;clear hT0;show WBinds _ (ah (pZ Γ.w.params cn ci cd doc pm c' aq) f L' [("n",cn),("inner",ci),("digits",cd)]) _ ((L',ab _)::kQ f _ cn ci cd dg n aa) fun o1=>WS _ (ah (pZ Γ.w.params cn ci cd doc pm c' aq) f L' [("n",cn),("inner",ci),("digits",cd)]) _ o1 _;show"w78i";refine s_cons ?_;show"w78i";by_cases h1:L+1=R
  ·rw[show(((L:Int)+1)==(R:Int))=true from by rw[beq_iff_eq];omega]
   show"w78i";obtain⟨d,hd⟩:∃d,ds[L]? =some d:=⟨_,Ex (by omega)⟩;refine ar (vs:=ae ds) (by show"mem") (Er _) (by omega) (by rw[Es];exact cm hd) ?_;show"w78i";refine⟨_,Less.skip Less.refl,?_,rfl⟩;rw[←h1,rP hd];simp[eJ,jo]
  ·rw[show(((L:Int)+1)==(R:Int))=false from by rw[beq_eq_false_iff_ne];omega]
   show"w78i";refine iM (by decide) ?_;rw[show(((L:Int)+(R:Int)).fdiv (2^(1:Int).toNat))=(((L+R)/2:Nat):Int)from fU L R];obtain⟨⟨hm1,hm2⟩,⟨hmL,hmR⟩,⟨hkL,hkR⟩,e3⟩:=A9 hm hLR h1 hk;generalize (L+R)/2=mid at*;have hm5:m≤50:=hm▸Ep (F2 _ _) (Ep hR hds);have hmd:mid≤ds.length:=Ep (ES hm2) hR;show"w78i";rw[←FZ (ES hm1)];refine d8 (ef ?_) ?_
   ·have b1:=bG (n:=mid-L) (k:=14) (Ev (Ev hmL hm5) (by decide))
    have b2:=bG (n:=n) (k:=14) (by omega);omega
   rw[←Fn,ER];show"w78i";refine⟨aV (.tail _ (.head _)) oQ,?_⟩;refine ai.frame (F:=[_]) (pre:=kQ f _ cn ci cd dg n aa) (c_ ee eV) Less.refl fun h' hs'=> ?_;refine ai.mono (ih (R-mid) hmR (Γ.dn.at h') mid R (hT.at hs') hkR rfl hm2 hR) ?_;rintro _ _ ⟨rfl,rfl⟩;simp only[EX,Ff];show"w78i";have hu:=nD n (part ds mid R) (uf hlt);rw[iP hR]at hu;have hs1:n*(mid-L)≤10000*50:=FV hn (ES (Ev hmL hm5));have hs2:n*(R-mid)≤10000*50:=FV hn (ES (Ev hmR hm5));refine iL (Er _) (fv hu (by omega)) ?_;rw[Es,fV];show"w78i";refine⟨aV (.tail _ (.head _)) oQ,?_⟩;refine ai.frame (F:=[_]) (pre:=kQ f _ cn ci cd dg n aa) (c_ ee eV) Less.refl fun h' hs'=> ?_;refine ai.mono (ih (mid-L) hmL (Γ.dn.at h') L mid (hT.at hs') hkL rfl hm1 hmd) ?_;rintro _ _ ⟨rfl,rfl⟩;simp only[EX,Ff];show"w78i";refine⟨_,Less.skip Less.refl,?_,rfl⟩;rw[rQ (ds:=ds) (ES hm1) (ES hm2),jp,iP hmd,ER (2^(n*(mid-L))) (cK n (part ds mid R))];generalize cK n (part ds mid R)*2^(n*(mid-L))=X;rw[Fd,GY]
theorem Dq {dg:Addr} (hS:Std Γ) (hk:52<Γ.k) (hn:n≤10000) (hdg:lL dg (ae ds)∈aa) (hds:ds.length≤50) (hlt:∀d∈ds,d<2^n) (hK:K (.int (cK n ds:Nat)) aa):ai Γ (.ref 78) [.ref dg,.int n] [] aa K:=by
 refine xI hS.T (by omega) fun L ci cn cd=> ?_;have hS1:Std Γ.dn:=hS.dn;have hT:TopG Γ.dn:=hS1.T;clear hS;refine s_cons ?_;refine wZ (c:=77) (P:=73) (q:="_digits2int.<locals>.inner") hT (hS1.mem _ (by show"mem")) (hS1.uniq (by show"mem")) (by kernel_rfl) (by kernel_rfl) (clos:=[("n",cn),("inner",ci),("digits",cd)]) (by kernel_rfl) (by kernel_rfl) fun f doc pm c' aq=> ?_;show WSt _ _ _ _ ((f,bg (rR Γ.w.params cn ci cd doc pm c' aq))::_) _;show"w78";refine ua (vs:=ae ds) (by show"mem") (ac (by simp;omega)) ?_;by_cases h0:ds=[]
 ·subst h0
  rw[show decide (ae []≠[])=false from rfl];show"w78";exact⟨_,by show"less",hK⟩
 ·rw[show decide (ae ds≠[])=true from decide_eq_true (by simpa using h0)]
  show"w78";refine eI (vs:=ae ds) (by show"mem") (ac (by simp;omega)) ?_;show"w78";refine⟨aV (by show"mem") oQ,?_⟩;refine ai.frame (F:=[(L,ab [])]) (pre:=kQ f _ cn ci cd dg n aa) (c_ ee eV) (by show"less") fun h' hs'=> ?_;rw[En];have h1:0<ds.length:=Ht.mpr h0;refine ai.mono (CT hn hdg hds hlt ds.length (Γ.dn.at h') 0 ds.length (hT.at hs') (show ds.length<Γ.k-1 by omega) rfl h1 (EL _)) ?_;rintro _ _ ⟨rfl,rfl⟩;simp only[EX,Ff];show"w78";rw[show part ds 0 ds.length=ds from by unfold part;simp];exact⟨_,by show"less",hK⟩
end
section
section
theorem R.others (hR:R Γ aa s) {fp:List Addr} {t:Tok} (h1:∀b∈fp,b∉keys aa) (h2:∀b∈fp,b∉dD Γ) (h3:∀b∈fp,Γ.h0.get? b=none) (h4:∀b∈fp,∀q,¬s.heap.CodeRec (.ref b) q) (hx:∀c o,c∉fp->s.heap.get? c=some o->h'.get? c=some o):R Γ aa {s with heap:=h',toks:=t}:=by
 have hcr:∀cv q,s.heap.CodeRec cv q->h'.CodeRec cv q:=fun cv q x=>by
  obtain⟨c,o,vs,t,e1,e2,e3,e4⟩:=id x;refine⟨c,o,vs,t,e1,hx _ _ (fun e=> ?_) e2,e3,e4⟩;subst e1;exact h4 c e q x
 refine⟨fun c o e=>hx _ _ (fun q=> ?_) (hR.keep c o e),fun p hp=> ?_,hR.nd,hR.ap,hR.gens,hR.os,fun t ht=>⟨(hR.tb t ht).1,?_⟩,fun p hp o e=> ?_⟩
 ·rw[h3 c q]at e;cases e
 ·obtain⟨o,ho,x⟩:=hR.ow p hp
  exact⟨o,hx _ _ (fun q=>h1 _ q (EE (f:=(·.1)) hp)) ho,x⟩
 ·obtain⟨q1,ps,q2,q3,q4⟩:=(hR.tb t ht).2
  refine⟨q1,ps,hx _ _ (fun e=>h2 _ e (EE (f:=(·.2.1)) ht)) q2,q3,fun pos cv e=> ?_⟩;obtain⟨c,r1,r2,r3,r4⟩:=q4 pos cv e;exact⟨c,r1,r2,hcr _ _ r3,r4⟩
 ·obtain⟨o1,ho1,_⟩:=hR.ow p hp
  have z:=hx _ _ (fun q=>h1 _ q (EE (f:=(·.1)) hp)) ho1;have e':h'.get? p.1=some o:=e;rw[e']at z;cases z;intro fd hd;obtain⟨c2,r1,r2,r3⟩:=hR.fn p hp _ ho1 fd hd;exact⟨c2,r1,r2,hcr _ _ r3⟩
theorem R.adopt (hR:R Γ aa s) {a:Addr} {P:OP} (ha:s.heap.get? a=some o) (hP:P o) (hn:NF P) (h1:a∉keys aa) (h2:a∉dD Γ) (h3:Γ.h0.get? a=none) (h4:∀q,¬s.heap.CodeRec (.ref a) q):R Γ ((a,P)::aa) s:=by
 have hc:∀c q,s.heap.CodeRec (.ref c) q->c∉keys aa->c∉keys ((a,P)::aa):=fun c q x hk hm=>by
  rcases EG.mp hm with e|e
  ·subst e;exact h4 q x
  ·exact hk e
 refine⟨hR.keep,?_,?_,?_,hR.gens,hR.os,fun t ht=>⟨(hR.tb t ht).1,?_⟩,?_⟩
 ·intro p hp
  rcases EG.mp hp with e|hp
  ·subst e;exact⟨o,ha,hP⟩
  ·exact hR.ow p hp
 ·rw[EQ,E2];exact⟨h1,hR.nd⟩
 ·intro p hp
  rcases EG.mp hp with e|hp
  ·subst e;exact h3
  ·exact hR.ap p hp
 ·obtain⟨q1,ps,q2,q3,q4⟩:=(hR.tb t ht).2
  refine⟨fun hm=> ?_,ps,q2,q3,fun pos cv e=> ?_⟩
  ·rcases EG.mp hm with e|e
   ·have e0:t.2.1=a:=e
    exact h2 (e0▸EE (f:=(·.2.1)) ht)
   ·exact q1 e
  ·obtain⟨c,r1,r2,r3,r4⟩:=q4 pos cv e
   exact⟨c,r1,hc c _ (r1▸r3) r2,r3,r4⟩
 ·intro p hp o' e
  rcases EG.mp hp with q|hp
  ·subst q
   have e':s.heap.get? a=some o':=e;rw[ha]at e';cases e';exact fun fd hd=>absurd hd (hn _ hP fd)
  ·intro fd hd
   obtain⟨c,r1,r2,r3⟩:=hR.fn p hp _ e fd hd;exact⟨c,r1,hc c _ (r1▸r3) r2,r3⟩
theorem bc {a:Addr} {vs:Array Value} (e:h.get? a=some o) (hd:o.data= .fields vs) (h1:∀q t,vs[1]?≠some (.str q t)):∀q,¬h.CodeRec (.ref a) q:=by
 rintro q ⟨c,o',vs',t,r1,r2,r3,r4⟩;cases r1;rw[e]at r2;cases r2;rw[hd]at r3;cases r3;exact h1 _ _ r4
theorem cP {a:Addr} {vs:Array Value} (e:h.get? a=some o) (hd:o.data= .seq vs n):∀q,¬h.CodeRec (.ref a) q:=by
 rintro q ⟨c,o',vs',t,r1,r2,r3,r4⟩;cases r1;rw[e]at r2;cases r2;rw[hd]at r3;cases r3
theorem p0 {a:Addr} {P:OP} (e:h.get? a=some o) (hP:P o) (hn:NC P):∀q,¬h.CodeRec (.ref a) q:=by
 rintro q ⟨c,o',vs',t,r1,r2,r3,r4⟩;cases r1;rw[e]at r2;cases r2;exact hn _ hP _ r3 _ _ r4
theorem uh (h:∀fd,o.data≠ .func fd):NF (bg o):=by rintro _ rfl fd e;exact h fd e
theorem nE (hm:lL l vs∈aa) (h:∀r,K (.ref r) ((r,bg (revObj l ((vs.length:Int)-1)))::aa)):ai Γ (.type "reversed") [.ref l] [] aa K:=by
 intro va kv hv hk;cases hk;obtain _|⟨h1,_|_⟩:=hv;cases h1;intro A s hA hR;obtain⟨items,n,ho,hvs⟩:=bD.get hR hm;have e:=hvs.size;refine call_reversed_list ⟨_,ho,rfl,n,rfl⟩ ?_;refine⟨_,_,.val _,hR.push (t:=s.toks) (P:=bg (revObj l ((vs.length:Int)-1))) ?_ (uh fun fd q=>by cases q),h _⟩;show _=_;rw[e]
theorem ui {it:Addr}:Itr Γ tgt (.ref it) (vs.reverse.map .one) (fun o=>lL l vs∈o) [it] (fun i h=>i≤vs.length∧h.IsRevIter it l ((vs.length:Int)-1-(i:Int))) where
 frame:=fun i h h' hJ hk=>⟨hJ.1,hJ.2.at fun o e=>hk it (.head _) o e⟩
 again:=fun A s aa Q hR hJ hQ=>wpAny_pyIter_revIter hJ.2 hQ
 item:=fun A s i itm aa Q hA hR hn hap hJ hi hQ=>by
  obtain⟨items,n,ho,hvs⟩:=bD.get hR hn;have hsz:=hvs.size;rw[Eu,Ew]at hi;obtain⟨a,ha,rfl⟩:=hi
  have hlt:i<vs.length:=by
   have:=(EB.mp ha).1;simpa using this
  rw[Ic hlt]at ha;obtain⟨v,hv,hr⟩:=hvs.get ha;have e1:(vs.length:Int)-1-(i:Int)=((vs.length-1-i:Nat):Int):=by omega
  replace hJ:=hJ.2;rw[e1]at hJ;refine wpAny_pyNext_rev_item hJ ⟨_,ho,rfl,n,rfl⟩ (x:=v) (by simpa using hv) fun h' hit' hs'=>⟨v,rfl,?_⟩;have hit:it∈[it]:=ED.mpr rfl;have hit2:=hit';obtain⟨oi,ei,eic,eid⟩:=hit2;refine d9 ei eic (by decide) ?_;refine hQ v aa _ (.one hr) (hR.other (t:=s.toks) (hap.key it hit) (hap.tab it hit) (hap.old it hit) ?_ hs'.extBut) ?_ ⟨hap.key,hap.tab,hap.old,fun b hb=> ?_⟩
  ·obtain⟨o,e1,_,e3⟩:=hJ
   exact bc e1 e3 fun q t=>by simp[rawInt]
  ·have e2:((vs.length-1-i:Nat):Int)-1=(vs.length:Int)-1-((i+1:Nat):Int):=by omega
   rw[e2]at hit';exact⟨hlt,hit'⟩
  ·rw[ED.mp hb]
   exact⟨oi,ei⟩
 stop:=fun A s i aa Q hA hR hn hap hJ hi hQ=>by
  have hit:it∈[it]:=ED.mpr rfl;obtain⟨items,n,ho,hvs⟩:=bD.get hR hn;obtain⟨hle,hJ⟩:=hJ;obtain⟨o,e1,e2,e3⟩:=id hJ;have hge:vs.length≤i:=by simpa using hi
  have e4:(vs.length:Int)-1-(i:Int)= -1:=by omega
  rw[e4]at hJ;refine wpAny_pyNext_rev_end hA.1 hJ fun h' hx=> ?_;exact hQ _ (hR.other (t:=s.toks) (hap.key it hit) (hap.tab it hit) (hap.old it hit) (bc e1 e3 fun q t=>by simp[rawInt]) hx)
theorem xJ {r:Addr} {K:(Led->Prop)->Led->Prop} (hp:Pick (r,bg (revObj l ((vs.length:Int)-1))) aa ao) (hm:lL l vs∈ao) (h:K (fun o=>lL l vs∈o) ao):
 eD Γ tgt (.ref r) aa (vs.reverse.map .one) K:=by
 intro v hv;cases hv;intro A s hA hR;obtain⟨h1,h2,h3⟩:=hp.mem;obtain⟨o,ho,e⟩:=hR.get h1;cases e;have hn:=(h3 hR.nd).2;have hJ:s.heap.IsRevIter r l ((vs.length:Int)-1):=⟨_,ho,rfl,rfl⟩;refine wpAny_pyIter_revIter hJ ?_;have hR':R Γ ao s:=hR.sub ⟨h2,fun x=>(h3 x).1⟩;refine⟨_,[r],_,ao,ui,hR',⟨ET _,by simpa using hJ⟩,⟨fun b hb=> ?_,fun b hb=> ?_,fun b hb=> ?_,fun b hb=> ?_⟩,h⟩
 ·rw[ED.mp hb];exact hn
 ·rw[ED.mp hb]
  intro hm';obtain⟨t',ht',e⟩:=EP.mp hm';exact(hR.tb t' ht').2.1 (e▸EE (f:=(·.1)) h1)
 ·rw[ED.mp hb];exact hR.ap _ h1
 ·rw[ED.mp hb];exact⟨_,ho⟩
end
end
end
section
variable {M:Mat}
section
noncomputable def ld (b n:Nat):List Nat->List Nat×Nat
 |[]=>([],0)
 |d::r=>(((ld b n r).2*2^n+d)/b::(ld b n r).1,((ld b n r).2*2^n+d)%b)
theorem CU:ld b n []=([],0):=rfl
theorem uj {r:List Nat}:ld b n (d::r)=(((ld b n r).2*2^n+d)/b::(ld b n r).1,((ld b n r).2*2^n+d)%b):=rfl
theorem ik (b n:Nat):∀ds,(ld b n ds).1.length =ds.length
 |[]=>rfl
 |d::r=>by rw[uj,EK,EK,ik b n r]
theorem rS (hb:0<b) (n:Nat):∀ds,(ld b n ds).2<b
 |[]=>hb
 |_::_=>Gd _ hb
theorem xK (hb:0<b) (n:Nat):∀ds,cK n ds=b*cK n (ld b n ds).1+(ld b n ds).2:=fun z_=>by
 induction z_ with
 |nil=>simp[jo,CU]
 |cons d r ih=>
  rw[uj,eJ,eJ,ih];have h:=FG ((ld b n r).2*2^n+d) b;show d+2^n*(b*cK n (ld b n r).1+(ld b n r).2)=b*(((ld b n r).2*2^n+d)/b+2^n*cK n (ld b n r).1)+((ld b n r).2*2^n+d)%b;rw[Fe,Fe,ER (2^n) (ld b n r).2,HA (2^n) b];omega
theorem uk (hb:0<b) (n:Nat):∀ds,(∀d∈ds,d<2^n)->∀q∈(ld b n ds).1,q<2^n:=fun z_=>by
 induction z_ with
 |nil=>exact fun _ q h=>nomatch h
 |cons d r ih=>
  intro hd q h;rw[uj]at h;rcases EG.mp h with h|h
  ·rw[h,Fo hb]
   have h1:=rS hb n r;have h2:=hd d (.head _);have h3:((ld b n r).2+1)*2^n≤b*2^n:=Fq _ h1;rw[Ft,FM]at h3;rw[ER (2^n) b];omega
  ·exact ih (fun x hx=>hd x (.tail _ hx)) q h
theorem xL (hb:0<b) (n:Nat) (ds:List Nat):cK n (ld b n ds).1=cK n ds/b∧(ld b n ds).2=cK n ds%b:=by
 have h1:=rS hb n ds;have h2:=xK hb n ds;rw[h2];refine⟨?_,?_⟩
 ·rw[Nat.mul_add_div hb,GR h1,G3]
 ·rw[Nat.mul_add_mod,GC h1]
theorem ek85:EnvOk (ah (ak p 85) f L cs):=⟨by kernel_rfl,by kernel_rfl⟩
theorem ka85:KdA (ah (ak p 85) f L cs) [("a",.local),("b",.local),("n",.local),("a_digits",.local),("r",.local),("q_digits",.local),("a_digit",.local),("q_digit",.local),("q",.local),("_int2digits",.globalImplicit),("reversed",.globalImplicit),("_div2n1n",.globalImplicit),("_digits2int",.globalImplicit)]:=⟨by kernel_rfl,by kernel_rfl⟩
theorem xM (p:Params):(ak p 85).body = .stmts (ay p 85):=rfl
theorem CV:(([("a",none),("b",none),("n",none),("a_digits",none),("r",none),("q_digits",none),("a_digit",none),("q_digit",none),("q",none)]:Loc).map (·.1)).Nodup :=by decide
theorem CW:∀p∈([("a",none),("b",none),("n",none),("a_digits",none),("r",none),("q_digits",none),("a_digit",none),("q_digit",none),("q",none)]:Loc),p.2=none:=bF rfl
theorem CX {a_a a_b:AV} {K:List (Str×AV)->Led->Prop} (hT:TopG Γ) (h:K [("a",a_a),("b",a_b)] aa):WB Γ (ak Γ.w.params 85) [a_a,a_b] [] aa K:=by
 exact WB.p2 hT (fun _ _=>by kernel_rfl) .nil h
theorem xN {a_a a_b:AV} (hT:TopG Γ) (hk:0<Γ.k) (h:∀L,WS Γ.dn (ah (ak Γ.w.params 85) 85 L []) (ay Γ.w.params 85) ((L,ab [("a",some a_a),("b",some a_b),("n",none),("a_digits",none),("r",none),("q_digits",none),("a_digit",none),("q_digit",none),("q",none)])::aa) fun fl o2=>∃o3,Less o3 o2∧K fl.val o3):
 ai Γ (.ref 85) [a_a,a_b] [] aa K:=by
 refine bA hk hT (fun s hR=>(AS _).hf hT s hR) (xM _) CV CW (CX hT.dn fun L cs hcs=> ?_) (by kernel_rfl) (by kernel_rfl);rw[af (cs:=cs) hcs];show WBinds _ (ah (ak Γ.w.params 85) 85 L []) _ ((L,ab _)::aa) _;refine st_local (ka85.at 0 (by kernel_rfl)) lf (by show"upd") (by show"put") ?_;refine st_local (ka85.at 1 (by kernel_rfl)) lf (by show"upd") (by show"put") ?_;exact h L
theorem cz (a b:List Nat):ae (a++b)=ae a++ae b:=Ez
theorem rT (a:List Nat):ae a.reverse=(ae a).reverse :=List.map_reverse
theorem p_ (hi:i<ds.length) (h:ds[ds.length-1-i]? =some d):ds.drop (ds.length-(i+1))=d::ds.drop (ds.length-i):=by
 obtain⟨h1,h2⟩:=EB.mp h;rw[show ds.length-(i+1)=ds.length-1-i from by omega,Fz h1,h2]
 congr 2
 omega
noncomputable abbrev rU (a b n:Nat) (ds:List Nat) (al ql L:Addr) (aa:Led) (i:Nat) (o:Led):Prop:=∃x y,o=lL ql (ae (ld b n (ds.drop (ds.length-i))).1.reverse)::lL al (ae ds)::(L,ab [nI "a" a,nI "b" b,nI "n" n,nR "a_digits" al,("r",some (.int ((ld b n (ds.drop (ds.length-i))).2:Nat))),nR "q_digits" ql,("a_digit",x),("q_digit",y),("q",none)])::aa
theorem Eb (hS:Std Γ) (hk:53<Γ.k) (hb:0<b) (hb2:Builtin.Int.intBits (b:Int)≤7000) (ha:b8 a (Builtin.Int.intBits (b:Int))≤50) (hK:∀t,K (.ref t) ((t,bV [.int (a/b:Nat),.int (a%b:Nat)])::aa)):ai Γ (.ref 85) [.int a,.int b] [] aa K:=by
 refine xN hS.T (by omega) fun L=> ?_;have hS1:Std Γ.dn:=hS.dn;have hT:TopG Γ.dn:=hS1.T;have hk1:52<Γ.dn.k:=show 52<Γ.k-1 by omega
 clear hS;have hbn:=fW b
 have hbn2:2^Builtin.Int.intBits (b:Int)≤2*b:=by
  rw[gR,if_neg (by omega),Hy,ER];exact Fl _ (Nat.log2_self_le (by omega))
 have hn1:1≤Builtin.Int.intBits (b:Int):=gS (k:=0) (by rw[Nat.pow_zero];exact hb);refine s_cons ?_;show"w85";refine jm ?_;show"w85";refine jn ?_;show"w85";generalize Builtin.Int.intBits (b:Int)=n at*;refine⟨am (xj _) hT,?_⟩;refine Dp hS1 hk1 hn1 hb2 ha fun al=> ?_
 have hund:cK n (dL n (b8 a n) a)=a:=by
  refine rO _ _ _ ?_;refine Ev (fW a) (Gc (by decide) ?_);have h1:=Iy (a:=Builtin.Int.intBits (a:Int)+n-1) (b:=n) (by omega);show _≤n*((Builtin.Int.intBits (a:Int)+n-1)/n);rw[ER];omega
 have hds:=ud n (b8 a n) a;have hlen:=cQ n (b8 a n) a;show WSt _ _ _ _ (lL al (ae (dL n (b8 a n) a))::_) _;generalize dL n (b8 a n) a=ds at*;rw[←hlen]at ha;clear hlen;show"j85";refine s_cons ?_;show"j85";refine s_cons ?_;show"j85";refine⟨ac (Eo rfl),fun ql=> ?_⟩;show"j85";refine s_cons ?_;refine oH (items:=(ae ds).reverse.map .one) (fun i o=>rU a b n ds al ql L aa i o) ?_ ?_ ?_
 ·show"w85"
  refine nE (vs:=ae ds) (by show"mem") fun r=> ?_;refine xJ (vs:=ae ds) (by show"pick") (by show"mem") ⟨⟨none,none,?_⟩,?_⟩
  ·rw[Fw,I0];rfl
  ·rintro i o ⟨x,y,rfl⟩;show"mem"
 ·rintro i J it o h' hit ⟨x,y,rfl⟩ hs
  have hT':TopG (Γ.dn.at h'):=hT.at hs;have hk2:52<(Γ.dn.at h').k :=hk1;rw[Eu,Ew]at hit;obtain⟨av,hav,rfl⟩:=hit
  have hlt:i<ds.length:=by
   have:=(EB.mp hav).1;simpa using this
  rw[Ic (by simpa using hlt),En,Eu,Ew]at hav;obtain⟨d,hd,rfl⟩:=hav;have hstep:=p_ hlt hd;have hdlt:d<2^n:=hds d (EF hd);have hr:=rS hb n (ds.drop (ds.length-i));have hql:(ld b n (ds.drop (ds.length-i))).1.length ≤50:=by rw[ik,Fp];omega
  show ft _ _ (xd _ _ _ _ fun o=>rU a b n ds al ql L aa (i+1) o);unfold rU;rw[hstep,uj];generalize ld b n (ds.drop (ds.length-i))=S at*;obtain⟨qs,r⟩:=S;simp only at*;show WAsg _ _ _ _ _ _;show"w85";refine bO ?_;show"w85";refine iL (Er _) (fv (F4 hr hbn) (by omega)) ?_;rw[Es,fV];show"w85";rw[←GY];refine⟨am (xg _) hT',?_⟩
  have hA:r*2^n+d<2^n*b:=by
   have h3:(r+1)*2^n≤b*2^n:=Fq _ hr;rw[Ft,FM]at h3;rw[ER (2^n) b];omega
  refine Ea hT' (show 2<Γ.k-1 by omega) hbn hbn2 hn1 hb2 hA fun t=> ?_;refine aI (.head _) rfl ?_;show"w85";refine cy PySem.slot_list_append PySem.type_list_append (vs:=ae qs.reverse) (by show"mem") ?_;show"w85";refine cY (vs:=ae qs.reverse) (by show"upd") (ac (by simp;omega)) ?_;show"w85";refine⟨rfl,_,Less.skip Less.refl,some (.int d),some (.int ((r*2^n+d)/b:Nat)),?_⟩;rw[HD,cz];rfl
 ·rintro o ⟨x,y,rfl⟩
  rw[En,List.length_reverse,En,H5,List.drop_zero];obtain⟨e1,e2⟩:=xL hb n ds;have hqs:=uk hb n ds hds;have hql:(ld b n ds).1.length ≤50:=by rw[ik];exact ha
  rw[hund]at e1 e2;generalize ld b n ds=S at*;obtain⟨qs,r⟩:=S;simp only at*;subst e2;refine s_cons ?_;show"j85";refine cy PySem.F.slot_list_reverse PySem.F.type_list_reverse (vs:=ae qs.reverse) (by show"mem") ?_;show"j85";refine pS (vs:=ae qs.reverse) (ac (by simp;omega)) (by show"upd") ?_;show"j85";rw[rT,List.reverse_reverse];refine s_cons ?_;show"j85";refine⟨am (xk _) hT,?_⟩;refine Dq hS1 hk1 (by omega) (by show"mem") hql hqs ?_;rw[e1];show"w85";refine⟨ac (Eo rfl),fun t=> ?_⟩;show"w85";exact⟨_,by show"less",hK t⟩
end
section
theorem ek92:EnvOk (ah (ak p 92) f L cs):=⟨by kernel_rfl,by kernel_rfl⟩
theorem ka92:KdA (ah (ak p 92) f L cs) [("a",.local),("b",.local),("q",.local),("r",.local),("ZeroDivisionError",.globalImplicit),("int_divmod",.globalImplicit),("_divmod_pos",.globalImplicit)]:=⟨by kernel_rfl,by kernel_rfl⟩
theorem rV (p:Params):(ak p 92).body = .stmts (ay p 92):=rfl
theorem Bd:(([("a",none),("b",none),("q",none),("r",none)]:Loc).map (·.1)).Nodup :=by decide
theorem Be:∀p∈([("a",none),("b",none),("q",none),("r",none)]:Loc),p.2=none:=bF rfl
theorem Bf {a_a a_b:AV} {K:List (Str×AV)->Led->Prop} (hT:TopG Γ) (h:K [("a",a_a),("b",a_b)] aa):WB Γ (ak Γ.w.params 92) [a_a,a_b] [] aa K:=by
 exact WB.p2 hT (fun _ _=>by kernel_rfl) .nil h
theorem rW {a_a a_b:AV} (hT:TopG Γ) (hk:0<Γ.k) (h:∀L,WS Γ.dn (ah (ak Γ.w.params 92) 92 L []) (ay Γ.w.params 92) ((L,ab [("a",some a_a),("b",some a_b),("q",none),("r",none)])::aa) fun fl o2=>∃o3,Less o3 o2∧K fl.val o3):
 ai Γ (.ref 92) [a_a,a_b] [] aa K:=by
 refine bA hk hT (fun s hR=>(pR _).hf hT s hR) (rV _) Bd Be (Bf hT.dn fun L cs hcs=> ?_) (by kernel_rfl) (by kernel_rfl);rw[af (cs:=cs) hcs];show WBinds _ (ah (ak Γ.w.params 92) 92 L []) _ ((L,ab _)::aa) _;refine st_local (ka92.at 0 (by kernel_rfl)) lf (by show"upd") (by show"put") ?_;refine st_local (ka92.at 1 (by kernel_rfl)) lf (by show"upd") (by show"put") ?_;exact h L
theorem Bg (hS:Std Γ) (hk:54<Γ.k) (hb:0<b) (hb2:Builtin.Int.intBits (b:Int)≤7000) (ha:b8 a (Builtin.Int.intBits (b:Int))≤50) (hK:∀t,K (.ref t) ((t,bV [.int (a/b:Nat),.int (a%b:Nat)])::aa)):ai Γ (.ref 92) [.int a,.int b] [] aa K:=by
 refine rW hS.T (by omega) fun L=> ?_;have hS1:Std Γ.dn:=hS.dn;have hT:TopG Γ.dn:=hS1.T;have hk1:53<Γ.dn.k:=show 53<Γ.k-1 by omega
 clear hS;refine s_cons ?_;show"w92";rw[show((b:Int)==0)=false from by rw[beq_eq_false_iff_ne];omega];show"w92";rw[show decide ((b:Int)<0)=false from decide_eq_false (by omega)];show"w92";rw[show decide ((a:Int)<0)=false from decide_eq_false (by omega)];show"w92";refine⟨am (AS _) hT,?_⟩;refine Eb hS1 hk1 hb hb2 ha fun t=> ?_;exact⟨_,by show"less",hK t⟩
theorem CY (hS:Std Γ) (hk:55<Γ.k) (hb:0<b) (hb2:Builtin.Int.intBits (b:Int)≤7000) (ha:b8 a (Builtin.Int.intBits (b:Int))≤50) (hK:∀t,K (.ref t) ((t,bV [.int (a/b:Nat),.int (-((a%b:Nat):Int))])::aa)):ai Γ (.ref 92) [.int (-(a:Int)),.int (-(b:Int))] [] aa K:=by
 refine rW hS.T (by omega) fun L=> ?_;have hS1:Std Γ.dn:=hS.dn;have hT:TopG Γ.dn:=hS1.T;have hk1:54<Γ.dn.k:=show 54<Γ.k-1 by omega
 clear hS;refine s_cons ?_;show"w92";rw[show(-(b:Int)==0)=false from by rw[beq_eq_false_iff_ne];omega];show"w92";rw[show decide (-(b:Int)<0)=true from decide_eq_true (by omega)];show"w92";refine bO ?_;show"w92";rw[Int.neg_neg,Int.neg_neg];refine⟨am (pR _) hT,?_⟩;refine Bg hS1 hk1 hb hb2 ha fun t=> ?_;refine aI (.head _) rfl ?_;show"w92";refine⟨ac (Eo rfl),fun t2=> ?_⟩;show"w92";exact⟨_,by show"less",hK t2⟩
theorem Dr {neg:Bool} {x y:Int} (hS:Std Γ) (hk:55<Γ.k) (hb:0<b) (hb2:Builtin.Int.intBits (b:Int)≤7000) (ha:b8 a (Builtin.Int.intBits (b:Int))≤50) (hx:x=if neg then -(a:Int)else a) (hy:y=if neg then -(b:Int)else b) (hK:∀t,K (.ref t) ((t,bV [.int (a/b:Nat),.int (if neg then -((a%b:Nat):Int)else((a%b:Nat):Int))])::aa)):ai Γ (.ref 92) [.int x,.int y] [] aa K:=by
 subst hx hy;cases neg
 ·exact Bg hS (by omega) hb hb2 ha hK
 ·exact CY hS hk hb hb2 ha hK
end
section
section
theorem R.takeNew (hR0:R Γ aa s) {own2:Led} {t:Tok} (hR:R Γ own2 {s with heap:=h',toks:=t}) {a:Addr} {P:OP} (hge:s.heap.objs.size≤a) (ha:h'.get? a=some o) (hP:P o) (hn:NF P) (h1:a∉keys own2) (h4:∀q,¬h'.CodeRec (.ref a) q):R Γ ((a,P)::own2) {s with heap:=h',toks:=t}:=
 hR.adopt ha hP hn h1 (fun hm=>absurd (hR0.tab_lt hm) (F3.mpr hge)) (hR0.old_lt hge) h4
theorem R.drop_key (hR:R Γ aa s) {a:Addr} {P:OP} (hp:Pick (a,P) aa ao):a∉keys ao∧a∉dD Γ∧Γ.h0.get? a=none∧R Γ ao s∧∃o,s.heap.get? a=some o∧P o:=by
 obtain⟨h1,h2,h3⟩:=hp.mem;refine⟨(h3 hR.nd).2,fun hm'=> ?_,hR.ap _ h1,hR.sub ⟨h2,fun x=>(h3 x).1⟩,hR.get h1⟩;obtain⟨t',ht',e⟩:=EP.mp hm';exact(hR.tb t' ht').2.1 (e▸EE (f:=(·.1)) h1)
noncomputable def ul (l:Addr) (i:Nat):OP:=fun o=>o.cls= .type "list_iterator"∧o.data= .fields #[.ref l,.int i 0]
noncomputable def i5 (it:Addr):Obj:={cls:= .type "enumerate",dict:=none,data:= .fields #[.none,.bool false,.ref it,rawInt 0,.none,.none],slots:= #[]}
theorem Bh {l i}:NF (ul l i):=by rintro o ⟨_,h⟩ fd e;rw[h]at e;cases e
theorem uo {it}:NF (bg (i5 it)):=uh fun fd q=>by cases q
theorem fy (hm:lL l vs∈aa) (h:∀e it,K (.ref e) ((e,bg (i5 it))::(it,ul l 0)::aa)):ai Γ (.type "enumerate") [.ref l] [] aa K:=by
 intro va kv hv hk;cases hk;obtain _|⟨h1,_|_⟩:=hv;cases h1;intro A s hA hR;obtain⟨items,n,ho,hvs⟩:=bD.get hR hm;refine call_enumerate_list ⟨_,ho,rfl,n,rfl⟩ fun h' he hit hsz hk=> ?_;have hR1:R Γ aa {s with heap:=h',toks:=s.toks}:=hR.grow hk;obtain⟨oi,ei,eic,eid⟩:=hit;have hR2:=hR.takeNew hR1 (P:=ul l 0) (EL _) ei ⟨eic,eid⟩ Bh (fun hm=>absurd (hR.lt hm) (Fa _)) (bc ei eid fun q t=>by simp);have hR3:=hR.takeNew hR2 (P:=bg (i5 s.heap.objs.size)) (F5 _) he rfl uo (fun hm=> ?_) (bc he rfl fun q t=>by simp)
 ·exact⟨_,_,.val _,hR3,h _ _⟩
 ·rcases EG.mp hm with q|q
  ·exact absurd q (Nat.succ_ne_self _)
  ·exact absurd (hR.lt q) (F3.mpr (F5 _))
noncomputable def bQ (vs:List AV):List Item:=vs.mapIdx fun i a=> .tup [.int (i:Int),a]
theorem rX {x1:Nat} {tp:Pos} {e it:Addr} (hne:e≠it):Itr Γ (.Tuple elts x1 tp) (.ref e) (bQ vs) (fun o=>lL l vs∈o) [e,it] (fun i h=>∃old,IsEnum h e it i old∧h.IsListIter it l i) where
 frame:=fun i h h' hJ hk=>by
  obtain⟨old,h1,h2⟩:=hJ;obtain⟨oi,ei,r⟩:=h2;exact⟨old,hk e (by simp) _ h1,oi,hk it (by simp) _ ei,r⟩
 again:=fun A s aa Q hR hJ hQ=>by
  obtain⟨old,h1,h2⟩:=hJ;exact wpAny_pyIter_enum h1 hQ
 item:=fun A s i itm aa Q hA hR hn hap hJ hi hQ=>by
  obtain⟨old,hE,hI⟩:=hJ;obtain⟨items,n,ho,hvs⟩:=bD.get hR hn;unfold bQ at hi;rw[Hr,Ew]at hi;obtain⟨a,ha,rfl⟩:=hi;obtain⟨v,hv,hr⟩:=hvs.get ha;have lte:e<s.heap.objs.size:=Heap.lt_size hE;have lti:it<s.heap.objs.size:=by obtain⟨oi,ei,_⟩:=hI;exact Heap.lt_size ei
  refine wpAny_pyNext_enum_item hE hI ⟨_,ho,rfl,n,rfl⟩ (x:=v) (by simpa using hv) hne fun h' he' hit' ht' hsz' hk'=>⟨_,rfl,?_⟩;refine wpAny_letOwnedTupleGo_enum he' fun h'' he'' hs''=> ?_;replace hs'':Heap.SameBut e h' h'':=hs'';replace he'':IsEnum h'' e it ((i:Int)+1) v:=he'';have hT:h''.get? s.heap.objs.size=some {cls:= .type "tuple",data:= .seq #[.int i s.toks,v]}:=hs''.extBut _ _ (G2 lte) ht'
  have ecode:∀b∈[e,it],∀q,¬s.heap.CodeRec (.ref b) q:=fun b hb=>by
   rcases EG.mp hb with rfl|hb
   ·exact bc hE rfl fun q t=>by simp
   ·rw[ED.mp hb]
    obtain⟨oi,ei,_,eid⟩:=hI;exact bc ei eid fun q t=>by simp
  have hR1:R Γ aa {s with heap:=h'',toks:=s.toks+1}:=hR.others hap.key hap.tab hap.old ecode fun c o hc ec=>by
   have c1:c≠e:=fun q=>hc (by simp[q]);have c2:c≠it:=fun q=>hc (by simp[q]);exact hs''.extBut _ _ c1 (hk' c o c1 c2 ec)
  have hR2:=hR.takeNew hR1 (P:=bV [.int (i:Int),a]) (EL _) hT ⟨#[.int i s.toks,v],0,rfl,.cons (.int _ _) (.cons hr .nil)⟩ tZ (fun hm=>absurd (hR.lt hm) (Fa _)) (cP hT rfl)
  refine hQ _ _ _ (.tup _ _) hR2 ⟨v,by simpa using he'',?_⟩ ⟨fun b hb hm=> ?_,hap.tab,hap.old,fun b hb=> ?_⟩
  ·obtain⟨oi,ei,r⟩:=hit'
   exact⟨oi,hs''.extBut _ _ hne.symm ei,r⟩
  ·rcases EG.mp hm with q|q
   ·have q':b=s.heap.objs.size:=q
    obtain⟨o,e⟩:=hap.live b hb;exact absurd (Heap.lt_size e) (by rw[q'];exact Fa _)
   ·exact hap.key b hb q
  ·rcases EG.mp hb with rfl|hb
   ·exact⟨_,he''⟩
   ·rw[ED.mp hb]
    obtain⟨oi,ei,r⟩:=hit';exact⟨oi,hs''.extBut _ _ hne.symm ei⟩
 stop:=fun A s i aa Q hA hR hn hap hJ hi hQ=>by
  obtain⟨old,hE,hI⟩:=hJ;obtain⟨items,n,ho,hvs⟩:=bD.get hR hn;have hsz:=hvs.size
  have hge:vs.length≤i:=by
   have:=HX.mp hi;simpa[bQ]using this
  refine wpAny_pyNext_enum_end hA.1 hE hI ⟨_,ho,rfl,n,rfl⟩ (Hk (by omega)) fun h' hx=> ?_;have hit:it∈[e,it]:=by simp
  obtain⟨oi,ei,_,eid⟩:=hI;exact hQ _ (hR.other (t:=s.toks) (hap.key it hit) (hap.tab it hit) (hap.old it hit) (bc ei eid fun q t=>by simp) hx)
theorem lK {x1:Nat} {tp:Pos} {e it:Addr} {K:(Led->Prop)->Led->Prop} (hm:lL l vs∈aa) (h:K (fun o=>lL l vs∈o) aa):
 eD Γ (.Tuple elts x1 tp) (.ref e) ((e,bg (i5 it))::(it,ul l 0)::aa) (bQ vs) K:=by
 intro v hv;cases hv;intro A s hA hR;obtain⟨k1,t1,o1,hR1,ob,e1,q1⟩:=hR.drop_key (.head);obtain⟨k2,t2,o2,hR2,ob2,e2,q2⟩:=hR1.drop_key (.head);cases q1;have hne:e≠it:=fun q=>k1 (by rw[q];exact .head _);have ke:e∉keys aa:=fun hm=>k1 (.tail _ hm);refine wpAny_pyIter_enum e1 ?_;refine⟨_,[e,it],_,aa,rX hne,hR2,⟨_,e1,⟨_,e2,q2⟩⟩,⟨fun b hb=> ?_,fun b hb=> ?_,fun b hb=> ?_,fun b hb=> ?_⟩,h⟩
 all_goals
  rcases EG.mp hb with rfl|hb
  ·first|exact ke|exact t1|exact o1|exact⟨_,e1⟩
  ·rw[ED.mp hb]
   first|exact k2|exact t2|exact o2|exact⟨_,e2⟩
end
end
section
inductive SK where|L|T
noncomputable def SK.cls:SK->String| .L =>"list"| .T =>"tuple"
noncomputable def SK.icls:SK->String| .L =>"list_iterator"| .T =>"tuple_iterator"
noncomputable def SK.Src (k:SK) (h:Heap) (a:Addr) (items:Array Value):Prop:=∃o,h.get? a=some o∧o.cls= .type k.cls∧∃n,o.data= .seq items n
noncomputable def SK.It (k:SK) (h:Heap) (i a:Addr) (j:Nat):Prop:=∃o,h.get? i=some o∧o.cls= .type k.icls∧o.data= .fields #[.ref a,.int j 0]
theorem SK.Src.at {k:SK} {a:Addr} (x:k.Src h a items) (e:∀o,h.get? a=some o->h'.get? a=some o):k.Src h' a items:=Exists.elim x fun o y=>⟨o,e _ y.1,y.2⟩
theorem SK.It.at {k:SK} {i a:Addr} (x:k.It h i a j) (e:∀o,h.get? i=some o->h'.get? i=some o):k.It h' i a j:=Exists.elim x fun o y=>⟨o,e _ y.1,y.2⟩
theorem SK.It.but {k:SK} {i a b:Addr} (x:k.It h i a j) (hs:Heap.ExtBut b h h') (hn:i≠b):k.It h' i a j:=x.at fun o e=>hs _ o hn e
theorem SK.Src.but {k:SK} {a b:Addr} (x:k.Src h a items) (hs:Heap.ExtBut b h h') (hn:a≠b):k.Src h' a items:=x.at fun o e=>hs _ o hn e
section
variable {prog:Program}
theorem oR (k:SK) {a:Addr} (ha:k.Src s.heap a items) (hQ:Q (.ref s.heap.objs.size) {s with heap:=s.heap.push {cls:= .type k.icls,data:= .fields #[.ref a,.int 0 0]}}):wpAny (model prog w) A (pyIter (.ref a)) Q E s:=by
 cases k
 ·exact wpAny_pyIter_list ha hQ
 ·exact wpAny_pyIter_tuple ha hQ
theorem kr {it:Addr} {x:Value} (hit:s.heap.IsTupleIter it l i) (hl:s.heap.IsTuple l items) (hx:items[i]? =some x) (hQ:∀h',h'.IsTupleIter it l (i+1)->Heap.SameBut it s.heap h'->Q x {s with heap:=h'}):wpAny (model prog w) A (Builtin.SmallTypes.nextOf (.ref it)) Q E s:=by
 obtain⟨o,ho,hc,hd⟩:=id hit;obtain⟨ol,nn,_,nl,hdl⟩:=hl;unfold Builtin.SmallTypes.nextOf;refine wpAny_bind (wpAny_callSpecial?_slot (name:=Str.ofString "__next__") hit.typeIs F.slot_tuple_iterator_next (wpAny_call_entry F.slot_tuple_iterator_next hit.typeIs F.entry_tuple_iterator_next ?_ (F.args_tuple_iterator_next_1 _)));show wpAny _ _ (field (.ref it) 0>>=_) _ _ s;refine wpAny_bind (wpAny_field ho hd (x:= .ref l) rfl ?_);show wpAny _ _ (if(Value.ref l==Value.none)=true then _ else _) _ _ s;rw[if_neg (show ¬((Value.ref l==Value.none)=true)from E6)];show wpAny _ _ (field (.ref it) 1>>=_) _ _ s;refine wpAny_bind (wpAny_field ho hd (x:= .int i 0) rfl ?_);show wpAny _ _ (seqItems? (.ref l)>>=_) _ _ s;refine wpAny_bind (wpAny_seqItems nn hdl ?_);simp only[Es,hx];refine wpAny_bind (wpAny_setField ho hd (by simp) (wpAny_pure ⟨x,rfl,wpAny_pure (hQ _ ?_ (Heap.SameBut.update ..))⟩));exact⟨_,Heap.get?_update_self _ ho (Obj.isFreed_of_fields (Obj.data_mapFields hd _)),(Obj.cls_mapFields ..).trans hc,by rw[Obj.data_mapFields hd];simp[rawInt]⟩
theorem lM {it:Addr} (hh:A.handled=none) (hit:s.heap.IsTupleIter it l i) (hl:s.heap.IsTuple l items) (hx:items[i]? =none) (hE:∀h' e,Heap.ExtBut it s.heap h'->(∃o,h'.get? e=some o∧o.cls= .type "StopIteration")->E (.ref e) {s with heap:=h'}):wpAny (model prog w) A (Builtin.SmallTypes.nextOf (.ref it)) Q E s:=by
 obtain⟨o,ho,hc,hd⟩:=id hit;obtain⟨ol,nn,_,nl,hdl⟩:=hl;unfold Builtin.SmallTypes.nextOf;refine wpAny_bind (wpAny_callSpecial?_slot (name:=Str.ofString "__next__") hit.typeIs F.slot_tuple_iterator_next (wpAny_call_entry F.slot_tuple_iterator_next hit.typeIs F.entry_tuple_iterator_next ?_ (F.args_tuple_iterator_next_1 _)));show wpAny _ _ (field (.ref it) 0>>=_) _ _ s;refine wpAny_bind (wpAny_field ho hd (x:= .ref l) rfl ?_);show wpAny _ _ (if(Value.ref l==Value.none)=true then _ else _) _ _ s;rw[if_neg (show ¬((Value.ref l==Value.none)=true)from E6)];show wpAny _ _ (field (.ref it) 1>>=_) _ _ s;refine wpAny_bind (wpAny_field ho hd (x:= .int i 0) rfl ?_);show wpAny _ _ (seqItems? (.ref l)>>=_) _ _ s;refine wpAny_bind (wpAny_seqItems nn hdl ?_);simp only[Es,hx];refine wpAny_bind (wpAny_rule (wpAny_bind (wpAny_setField ho hd (by simp) ?_)));show wpAny _ _ (newExc (.type "StopIteration") []>>=_) _ _ _;refine wpAny_bind ?_;simp only[newExc,newTuple];refine wpAny_bind (wpAny_newObj_type ?_ (by size_fits));refine wpAny_bind (m:=firstArgMember _ _) (wpAny_of_eq (a:=Value.none) (by first|rfl|(simp only[firstArgMember];rfl)) ?_);refine wpAny_newObj_type ?_ (by size_fits);unfold raiseNew;refine wpAny_bind (wpAny_handled ?_)
 first|rw[show A.in1.handled=none from hh]|rw[hh]
 refine wpAny_bind (wpAny_pure (wpAny_throw ?_));exact hE _ _ (((Heap.SameBut.update ..).extBut.push _).push _) ⟨_,Heap.get?_push_size _ rfl,rfl⟩
theorem lN (k:SK) {it:Addr} {x:Value} (hit:k.It s.heap it l i) (hl:k.Src s.heap l items) (hx:items[i]? =some x) (hQ:∀h',k.It h' it l (i+1)->Heap.SameBut it s.heap h'->Q x {s with heap:=h'}):wpAny (model prog w) A (Builtin.SmallTypes.nextOf (.ref it)) Q E s:=by
 cases k
 ·exact wpAny_nextOf_list_item hit hl hx hQ
 ·exact kr hit hl hx hQ
theorem rY (k:SK) {it:Addr} (hh:A.handled=none) (hit:k.It s.heap it l i) (hl:k.Src s.heap l items) (hx:items[i]? =none) (hE:∀h' e,Heap.ExtBut it s.heap h'->(∃o,h'.get? e=some o∧o.cls= .type "StopIteration")->E (.ref e) {s with heap:=h'}):wpAny (model prog w) A (Builtin.SmallTypes.nextOf (.ref it)) Q E s:=by
 cases k
 ·exact wpAny_nextOf_list_end hh hit hl hx hE
 ·exact lM hh hit hl hx hE
theorem rZ {k1 k2:SK} {z TI TO i1 i2 l1 l2:Addr} {xs ys:Array Value} {x y a b:Value} (D:ZipApart z TI TO i1 i2 l1 l2) (hz:IsZip s.heap z TI TO .none) (hTI:IsPair s.heap TI (.ref i1) (.ref i2)) (hTO:IsPair s.heap TO a b) (h1:k1.It s.heap i1 l1 j) (h2:k2.It s.heap i2 l2 j) (hl1:k1.Src s.heap l1 xs) (hl2:k2.Src s.heap l2 ys) (hx:xs[j]? =some x) (hy:ys[j]? =some y) (hQ:∀h',IsZip h' z TI TO (rawInt s.heap.objs.size)->IsPair h' TO x y->k1.It h' i1 l1 (j+1)->k2.It h' i2 l2 (j+1)->IsPair h' s.heap.objs.size x y->
 (∀c o,c≠z->c≠TO->c≠i1->c≠i2->s.heap.get? c=some o->h'.get? c=some o)->Q (.ref s.heap.objs.size) {s with heap:=h'}):
 wpAny (model prog w) A (Builtin.«zip.__next__» ⟨[.ref z],[]⟩) (fun fin s'=>∃v,fin= .done (.ret v)∧Q v s') E s:=by
 show wpAny _ _ (field (.ref z) 2>>=_) _ _ _;refine wpAny_bind (wpAny_field hz rfl (x:= .bool false) rfl ?_);show wpAny _ _ (field (.ref z) 3>>=_) _ _ _;refine wpAny_bind (wpAny_field hz rfl (x:= .ref TI) rfl (wpAny_bind (wpAny_seqItems hTI rfl ?_)));show wpAny _ _ (Builtin.SmallTypes.ownedTupleIsFree (.ref z)>>=_) _ _ _;unfold Builtin.SmallTypes.ownedTupleIsFree;refine wpAny_bind (wpAny_bind (wpAny_field hz rfl (x:= .none) rfl (wpAny_pure ?_)));simp only[if_true];refine wpAny_bind (wpAny_rule (wpAny_bind (wpAny_field hz rfl (x:= .ref TO) rfl (wpAny_bind (wpAny_setField_rec hz (by simp) fun ha hza hsa=> ?_)))));replace hza:IsZip ha z TI TO .ellipsis :=hza;refine wpAny_bind ?_;simp only[IV,List.zipIdx_nil,Gb,Gy];refine wpAny_bind (wpAny_bind (wpAny_onRaise ?_));show wpAny _ _ (Builtin.SmallTypes.nextOf (.ref i1)>>=_) _ _ _;refine wpAny_bind (lN k1 (h1.but hsa.extBut D.i1z) (hl1.but hsa.extBut D.l1z) hx fun hb h1b hsb=>wpAny_pure ?_);have hTOb:IsPair hb TO a b:=hsb.extBut _ _ D.TOi1 (hsa.extBut _ _ D.TOz hTO);refine wpAny_bind (wpAny_seqItems hTOb rfl (wpAny_bind (wpAny_updateSeq_pair hTOb fun hc hTOc hsc=>wpAny_bind (wpAny_letGo (wpAny_pure ?_)))));replace hTOc:IsPair hc TO x b:=hTOc;refine wpAny_bind (wpAny_bind (wpAny_onRaise ?_));show wpAny _ _ (Builtin.SmallTypes.nextOf (.ref i2)>>=_) _ _ _;refine wpAny_bind (lN k2 (((h2.but hsa.extBut D.i2z).but hsb.extBut D.i12.symm).but hsc.extBut D.TOi2.symm) (((hl2.but hsa.extBut D.l2z).but hsb.extBut D.l2i1).but hsc.extBut D.l2TO) hy fun hd h2d hsd=>wpAny_pure ?_);have hTOd:IsPair hd TO x b:=hsd.extBut _ _ D.TOi2 hTOc;refine wpAny_bind (wpAny_seqItems hTOd rfl (wpAny_bind (wpAny_updateSeq_pair hTOd fun he hTOe hse=>wpAny_bind (wpAny_letGo (wpAny_pure (wpAny_pure ?_))))));replace hTOe:IsPair he TO x y:=hTOe;refine wpAny_bind (wpAny_seqItems hTOe rfl (wpAny_bind (wpAny_newTuple ?_)));have hsz:he.objs.size=s.heap.objs.size:=by rw[hse.1,hsd.1,hsc.1,hsb.1,hsa.1]
 have hze:IsZip he z TI TO .ellipsis :=hse.extBut _ _ D.TOz.symm (hsd.extBut _ _ D.i2z.symm (hsc.extBut _ _ D.TOz.symm (hsb.extBut _ _ D.i1z.symm hza)))
 have hke:∀c o,c≠z->c≠TO->c≠i1->c≠i2->s.heap.get? c=some o->he.get? c=some o:=fun c o c1 c2 c3 c4 e=>
  hse.extBut _ _ c2 (hsd.extBut _ _ c4 (hsc.extBut _ _ c2 (hsb.extBut _ _ c3 (hsa.extBut _ _ c1 e))))
 have h1e:k1.It he i1 l1 (j+1):=((h1b.but hsc.extBut D.TOi1.symm).but hsd.extBut D.i12).but hse.extBut D.TOi1.symm;have h2e:k2.It he i2 l2 (j+1):=h2d.but hse.extBut D.TOi2.symm;have hzlt:z<he.objs.size:=Heap.lt_size hze;show wpAny _ _ (Builtin.SmallTypes.ownedTupleHandOut (.ref z) (.ref he.objs.size)>>=_) _ _ _;unfold Builtin.SmallTypes.ownedTupleHandOut;have hzf:IsZip (he.push {cls:= .type "tuple",data:= .seq #[x,y]}) z TI TO .ellipsis :=Heap.get?_push_of_some _ hze
 refine wpAny_bind (wpAny_bind (wpAny_setField_rec hzf (by simp) fun hg hzg hsg=> ?_));replace hzg:IsZip hg z TI TO (rawInt he.objs.size):=hzg;refine wpAny_setField_rec hzg (by simp) fun hi hzi hsi=> ?_;replace hzi:IsZip hi z TI TO (rawInt he.objs.size):=hzi;have up:∀c o,c≠z->he.get? c=some o->hi.get? c=some o:=fun c o c1 e=>hsi.extBut _ _ c1 (hsg.extBut _ _ c1 (Heap.get?_push_of_some _ e));have hTi:IsPair hi he.objs.size x y:=hsi.extBut _ _ (G2 hzlt) (hsg.extBut _ _ (G2 hzlt) (Heap.get?_push_size _ rfl));rw[hsz]at hzi hTi;refine wpAny_pure ⟨_,rfl,?_⟩;show Q (.ref he.objs.size) _;rw[hsz];exact hQ hi hzi (up _ _ D.TOz hTOe) (h1e.at fun o e=>up _ o D.i1z e) (h2e.at fun o e=>up _ o D.i2z e) hTi fun c o c1 c2 c3 c4 e=>up c o c1 (hke c o c1 c2 c3 c4 e)
theorem r_ {k1 k2:SK} {z TI TO i1 i2 l1 l2:Addr} {xs ys:Array Value} {a b:Value} {Q:Fin->Shared->Prop} (hh:A.handled=none) (D:ZipApart z TI TO i1 i2 l1 l2) (hz:IsZip s.heap z TI TO .none) (hTI:IsPair s.heap TI (.ref i1) (.ref i2)) (hTO:IsPair s.heap TO a b) (h1:k1.It s.heap i1 l1 j) (h2:k2.It s.heap i2 l2 j) (hl1:k1.Src s.heap l1 xs) (hl2:k2.Src s.heap l2 ys) (hend:xs[j]? =none∨ys[j]? =none) (hE:∀h' e,(∀c o,c≠z->c≠TO->c≠i1->c≠i2->s.heap.get? c=some o->h'.get? c=some o)->(∃o,h'.get? e=some o∧o.cls= .type "StopIteration")->E (.ref e) {s with heap:=h'}):
 wpAny (model prog w) A (Builtin.«zip.__next__» ⟨[.ref z],[]⟩) Q E s:=by
 show wpAny _ _ (field (.ref z) 2>>=_) _ _ _;refine wpAny_bind (wpAny_field hz rfl (x:= .bool false) rfl ?_);show wpAny _ _ (field (.ref z) 3>>=_) _ _ _;refine wpAny_bind (wpAny_field hz rfl (x:= .ref TI) rfl (wpAny_bind (wpAny_seqItems hTI rfl ?_)));show wpAny _ _ (Builtin.SmallTypes.ownedTupleIsFree (.ref z)>>=_) _ _ _;unfold Builtin.SmallTypes.ownedTupleIsFree;refine wpAny_bind (wpAny_bind (wpAny_field hz rfl (x:= .none) rfl (wpAny_pure ?_)));simp only[if_true];refine wpAny_bind (wpAny_rule (wpAny_bind (wpAny_field hz rfl (x:= .ref TO) rfl (wpAny_bind (wpAny_setField_rec hz (by simp) fun ha hza hsa=> ?_)))));replace hza:IsZip ha z TI TO .ellipsis :=hza;refine wpAny_bind ?_;simp only[IV,List.zipIdx_nil,Gb,Gy];refine wpAny_bind (wpAny_bind (wpAny_onRaise ?_));show wpAny _ _ (Builtin.SmallTypes.nextOf (.ref i1)>>=_) _ _ _;cases hx:xs[j]? with
 |none=>
  refine wpAny_bind (rY k1 hh (h1.but hsa.extBut D.i1z) (hl1.but hsa.extBut D.l1z) hx fun hb e hsb he=> ?_);obtain⟨oe,hoe,hce⟩:=he;have hzb:IsZip hb z TI TO .ellipsis :=hsb _ _ D.i1z.symm hza;have hez:e≠z:=fun q=>by subst q;rw[hzb]at hoe;cases hoe;simp at hce
  refine wpAny_setField_rec hzb (by simp) fun hc _ hsc=>hE hc e (fun c o c1 _ c3 _ q=>hsc.extBut _ _ c1 (hsb _ _ c3 (hsa.extBut _ _ c1 q))) ⟨oe,hsc.extBut _ _ hez hoe,hce⟩
 |some x=>
  have hy:ys[j]? =none:=by rcases hend with h|h;rw[hx]at h;cases h;exact h
  refine wpAny_bind (lN k1 (h1.but hsa.extBut D.i1z) (hl1.but hsa.extBut D.l1z) hx fun hb h1b hsb=>wpAny_pure ?_);have hTOb:IsPair hb TO a b:=hsb.extBut _ _ D.TOi1 (hsa.extBut _ _ D.TOz hTO);refine wpAny_bind (wpAny_seqItems hTOb rfl (wpAny_bind (wpAny_updateSeq_pair hTOb fun hc hTOc hsc=>wpAny_bind (wpAny_letGo (wpAny_pure ?_)))));refine wpAny_bind (wpAny_bind (wpAny_onRaise ?_));show wpAny _ _ (Builtin.SmallTypes.nextOf (.ref i2)>>=_) _ _ _;refine wpAny_bind (rY k2 hh (((h2.but hsa.extBut D.i2z).but hsb.extBut D.i12.symm).but hsc.extBut D.TOi2.symm) (((hl2.but hsa.extBut D.l2z).but hsb.extBut D.l2i1).but hsc.extBut D.l2TO) hy fun hd e hsd he=> ?_);obtain⟨oe,hoe,hce⟩:=he;have hzd:IsZip hd z TI TO .ellipsis :=hsd _ _ D.i2z.symm (hsc.extBut _ _ D.TOz.symm (hsb.extBut _ _ D.i1z.symm hza));have hez:e≠z:=fun q=>by subst q;rw[hzd]at hoe;cases hoe;simp at hce
  refine wpAny_setField_rec hzd (by simp) fun hf _ hsf=>hE hf e (fun c o c1 c2 c3 c4 q=>hsf.extBut _ _ c1 (hsd _ _ c4 (hsc.extBut _ _ c2 (hsb.extBut _ _ c3 (hsa.extBut _ _ c1 q))))) ⟨oe,hsf.extBut _ _ hez hoe,hce⟩
theorem sa {k1 k2:SK} {z TI TO i1 i2 l1 l2:Addr} {xs ys:Array Value} {x y a b:Value} {Q:Option Value->Shared->Prop} (D:ZipApart z TI TO i1 i2 l1 l2) (hz:IsZip s.heap z TI TO .none) (hTI:IsPair s.heap TI (.ref i1) (.ref i2)) (hTO:IsPair s.heap TO a b) (h1:k1.It s.heap i1 l1 j) (h2:k2.It s.heap i2 l2 j) (hl1:k1.Src s.heap l1 xs) (hl2:k2.Src s.heap l2 ys) (hx:xs[j]? =some x) (hy:ys[j]? =some y) (hQ:∀h',IsZip h' z TI TO (rawInt s.heap.objs.size)->IsPair h' TO x y->k1.It h' i1 l1 (j+1)->k2.It h' i2 l2 (j+1)->IsPair h' s.heap.objs.size x y->
 (∀c o,c≠z->c≠TO->c≠i1->c≠i2->s.heap.get? c=some o->h'.get? c=some o)->Q (some (.ref s.heap.objs.size)) {s with heap:=h'}):
 wpAny (model prog w) A (pyNext (.ref z)) Q E s:=by
 have hT:s.TypeIs (.ref z) "zip":=⟨_,hz,rfl⟩;unfold pyNext
 exact wpAny_bind (wpAny_attempt (wpAny_callSpecial?_slot (name:=Str.ofString "__next__") hT F.slot_zip_next (wpAny_call_entry F.slot_zip_next hT F.entry_zip_next
  (rZ D hz hTI hTO h1 h2 hl1 hl2 hx hy fun h' a1 a2 a3 a4 a5 a6=>wpAny_pure (hQ h' a1 a2 a3 a4 a5 a6)) (F.args_zip_next_1 _))))
theorem lO {k1 k2:SK} {z TI TO i1 i2 l1 l2:Addr} {xs ys:Array Value} {a b:Value} {Q:Option Value->Shared->Prop} (hh:A.handled=none) (D:ZipApart z TI TO i1 i2 l1 l2) (hz:IsZip s.heap z TI TO .none) (hTI:IsPair s.heap TI (.ref i1) (.ref i2)) (hTO:IsPair s.heap TO a b) (h1:k1.It s.heap i1 l1 j) (h2:k2.It s.heap i2 l2 j) (hl1:k1.Src s.heap l1 xs) (hl2:k2.Src s.heap l2 ys) (hend:xs[j]? =none∨ys[j]? =none) (hQ:∀h',(∀c o,c≠z->c≠TO->c≠i1->c≠i2->s.heap.get? c=some o->h'.get? c=some o)->Q none {s with heap:=h'}):wpAny (model prog w) A (pyNext (.ref z)) Q E s:=by
 have hT:s.TypeIs (.ref z) "zip":=⟨_,hz,rfl⟩;unfold pyNext
 refine wpAny_bind (wpAny_attempt (wpAny_callSpecial?_slot (name:=Str.ofString "__next__") hT F.slot_zip_next (wpAny_call_entry F.slot_zip_next hT F.entry_zip_next
  (r_ hh D hz hTI hTO h1 h2 hl1 hl2 hend fun h' e hk he=> ?_) (F.args_zip_next_1 _))))
 obtain⟨o,ho,hc⟩:=he;refine wpAny_bind (wpAny_isInstance (T:="StopIteration") (b:=true) ⟨o,ho,hc⟩ isSubtype_stop ?_);exact wpAny_pure (hQ _ hk)
end
noncomputable abbrev CZ (k1:SK) (h:Heap) (l1:Addr):Heap:=h.push {cls:= .type k1.icls,data:= .fields #[.ref l1,.int 0 0]}
noncomputable abbrev C0 (k1 k2:SK) (h:Heap) (l1 l2:Addr):Heap:=(CZ k1 h l1).push {cls:= .type k2.icls,data:= .fields #[.ref l2,.int 0 0]}
noncomputable abbrev C1 (k1 k2:SK) (h:Heap) (l1 l2:Addr):Heap:=(C0 k1 k2 h l1 l2).push {cls:= .type "tuple",data:= .seq #[.ref h.objs.size,.ref (CZ k1 h l1).objs.size]}
noncomputable abbrev Ds (k1 k2:SK) (h:Heap) (l1 l2:Addr):Heap:=(C1 k1 k2 h l1 l2).push {cls:= .type "tuple",data:= .seq #[.none,.none]}
noncomputable abbrev Ec (k1 k2:SK) (h:Heap) (l1 l2:Addr):Heap:=(Ds k1 k2 h l1 l2).push {cls:= .type "zip",data:= .fields #[.none,.bool false,.bool false,.ref (C0 k1 k2 h l1 l2).objs.size,.ref (C1 k1 k2 h l1 l2).objs.size]}
theorem uq (k1 k2:SK) (l1 l2:Addr) (xs ys:Array Value):
 Meets (Builtin.«zip.__new__» ⟨[.type "zip",.ref l1,.ref l2],[]⟩) (fun _ R s=>k1.Src s.heap l1 xs∧k2.Src s.heap l2 ys∧
  R (.ok (.ret (.ref (Ds k1 k2 s.heap l1 l2).objs.size))) {s with heap:=Ec k1 k2 s.heap l1 l2}):=
 .of_wp fun prog w A R s h=>by
   obtain⟨hp,g,d,tk,os⟩:=s;obtain⟨hl1,hl2,h⟩:=h;have hsub:=sub_zip;have hL1:k1.Src (Shared.heap ⟨hp,g,d,tk,os⟩) l1 xs:=hl1;have hL2:k2.Src (Shared.heap ⟨hp.push {cls:= .type k1.icls,data:= .fields #[.ref l1,.int 0 0]},g,d,tk,os⟩) l2 ys:=SK.Src.at hl2 fun o e=>Heap.get?_push_of_some _ e
   wp_walk using oR k1 hL1,oR k2 hL2
   exact⟨_,rfl,h⟩
end
section
section
noncomputable def SK.P:SK->List AV->OP| .L =>bD| .T =>bV
noncomputable def nF (k:SK) (l:Addr):OP:=fun o=>o.cls= .type k.icls∧o.data= .fields #[.ref l,.int 0 0]
noncomputable def lP (TI TO:Addr):Obj:={cls:= .type "zip",data:= .fields #[.none,.bool false,.bool false,.ref TI,.ref TO]}
noncomputable def eW (a b:Value):Obj:={cls:= .type "tuple",data:= .seq #[a,b]}
theorem w0 {k l}:NF (nF k l):=by rintro o ⟨_,h⟩ fd e;rw[h]at e;cases e
theorem xO {a b}:NF (bg (lP a b)):=uh fun fd q=>by cases q
theorem oS {a b}:NF (bg (eW a b)):=uh fun fd q=>by cases q
theorem SK.get (k:SK) (hR:R Γ aa s) (hm:(l,k.P vs)∈aa):∃items,k.Src s.heap l items∧VRs vs items.toList:=by
 cases k
 ·obtain⟨items,n,ho,hv⟩:=bD.get hR hm
  exact⟨items,⟨_,ho,rfl,n,rfl⟩,hv⟩
 ·obtain⟨items,n,ho,hv⟩:=bV.get hR hm
  exact⟨items,⟨_,ho,rfl,n,rfl⟩,hv⟩
theorem sb (k1 k2:SK) {l1 l2:Addr} {ws:List AV} (h1:(l1,k1.P vs)∈aa) (h2:(l2,k2.P ws)∈aa) (h:∀z TI TO i1 i2,K (.ref z) ((z,bg (lP TI TO))::(TO,bg (eW .none .none))::(TI,bg (eW (.ref i1) (.ref i2)))::(i2,nF k2 l2)::(i1,nF k1 l1)::aa)):
 ai Γ (.type "zip") [.ref l1,.ref l2] [] aa K:=by
 intro va kv hv hk;cases hk;obtain _|⟨a1,_|⟨a2,_|_⟩⟩:=hv;cases a1;cases a2;intro A s hA hR;obtain⟨xs,hs1,_⟩:=k1.get hR h1;obtain⟨ys,hs2,_⟩:=k2.get hR h2;refine callType_new F.called_zip (by decide) (F.typeCall_zip_2 _ _) (F.newCall_zip_2 _ _) (fun obj=>F.args_object_init_3 obj _ _) F.entry_zip_new (uq k1 k2 l1 l2 xs ys) ⟨hs1,hs2,?_⟩;have r1:=hR.push (t:=s.toks) (o:={cls:= .type k1.icls,data:= .fields #[.ref l1,.int 0 0]}) (P:=nF k1 l1) ⟨rfl,rfl⟩ w0
 have r2:=r1.push (t:=s.toks) (o:={cls:= .type k2.icls,data:= .fields #[.ref l2,.int 0 0]}) (P:=nF k2 l2) ⟨rfl,rfl⟩ w0
 have r3:=r2.push (t:=s.toks) (o:={cls:= .type "tuple",data:= .seq #[.ref s.heap.objs.size,.ref (CZ k1 s.heap l1).objs.size]}) (P:=bg (eW _ _)) rfl oS
 have r4:=r3.push (t:=s.toks) (o:={cls:= .type "tuple",data:= .seq #[.none,.none]}) (P:=bg (eW _ _)) rfl oS
 have r5:=r4.push (t:=s.toks) (o:={cls:= .type "zip",data:= .fields #[.none,.bool false,.bool false,.ref (C0 k1 k2 s.heap l1 l2).objs.size,.ref (C1 k1 k2 s.heap l1 l2).objs.size]}) (P:=bg (lP _ _)) rfl xO
 exact⟨⟨_,Heap.get?_push_size _ rfl,rfl⟩,_,_,.val _,r5,h _ _ _ _ _⟩
noncomputable def cB (vs ws:List AV):List Item:=(vs.zip ws).map fun p=> .tup [p.1,p.2]
theorem da {x a:Addr} {l:List Addr} (h:x∉l) (m:a∈l):x≠a:=fun q=>h (q▸m)
theorem qb {P:Addr->Prop} {a b c d e:Addr} (h1:P a) (h2:P b) (h3:P c) (h4:P d) (h5:P e):∀x∈[a,b,c,d,e],P x:=fun x hx=>by
 simp only[EG,IX,or_false]at hx;rcases hx with rfl|rfl|rfl|rfl|rfl<;>assumption
theorem kR {l1 l2 z TI TO i1 i2:Addr} (hd:[z,TO,TI,i2,i1].Nodup) (p:∀b∈[z,TO,TI,i2,i1],l1≠b) (q:∀b∈[z,TO,TI,i2,i1],l2≠b):ZipApart z TI TO i1 i2 l1 l2:=by
 have n1:=E2.mp hd;have n2:=E2.mp n1.2;have n3:=E2.mp n2.2;have n4:=E2.mp n3.2
 exact⟨(da n1.1 mm1).symm,(da n1.1 (.head _)).symm,(da n1.1 mm3).symm,(da n1.1 mm2).symm,(da n2.1 (.head _)).symm,da n3.1 mm1,da n3.1 (.head _),da n2.1 mm2,da n2.1 mm1,(da n4.1 (.head _)).symm,
  p _ (by show"mem"),p _ (by show"mem"),p _ (by show"mem"),p _ (by show"mem"),q _ (by show"mem"),q _ (by show"mem"),q _ (by show"mem"),q _ (by show"mem")⟩
theorem mH {k1 k2:SK} {l1 l2 z TI TO i1 i2:Addr} {a b:Value} (a1:IsZip h z TI TO .none) (a2:IsPair h TI (.ref i1) (.ref i2)) (a3:IsPair h TO a b) (a4:k1.It h i1 l1 j) (a5:k2.It h i2 l2 j):∀b∈[z,TO,TI,i2,i1],∀q,¬h.CodeRec (.ref b) q:=by
 have f:∀{k:SK} {i l:Addr},k.It h i l j->∀q,¬h.CodeRec (.ref i) q:=fun x=>by
  obtain⟨o,e,_,ed⟩:=x;exact bc e ed fun q t=>by simp
 exact qb (bc a1 rfl fun q t=>by simp) (cP a3 rfl) (cP a2 rfl) (f a5) (f a4)
theorem ur (k1 k2:SK) {x1:Nat} {tp:Pos} {l1 l2 z TI TO i1 i2:Addr} {ws:List AV} (hd:[z,TO,TI,i2,i1].Nodup):Itr Γ (.Tuple elts x1 tp) (.ref z) (cB vs ws) (fun o=>(l1,k1.P vs)∈o∧(l2,k2.P ws)∈o) [z,TO,TI,i2,i1]
 (fun j h=>IsZip h z TI TO .none ∧IsPair h TI (.ref i1) (.ref i2)∧(∃a b,IsPair h TO a b)∧k1.It h i1 l1 j∧k2.It h i2 l2 j) where
 frame:=fun i h h' hJ hk=>by
  obtain⟨a1,a2,⟨a,b,a3⟩,a4,a5⟩:=hJ;exact⟨hk z (by show"mem") _ a1,hk TI (by show"mem") _ a2,⟨a,b,hk TO (by show"mem") _ a3⟩,a4.at fun o e=>hk i1 (by show"mem") o e,a5.at fun o e=>hk i2 (by show"mem") o e⟩
 again:=fun A s aa Q hR hJ hQ=>wpAny_pyIter_zip hJ.1 hQ
 item:=fun A s j itm aa Q hA hR hn hap hJ hi hQ=>by
  obtain⟨a1,a2,⟨a,b,a3⟩,a4,a5⟩:=hJ;obtain⟨xs,hs1,hv1⟩:=k1.get hR hn.1;obtain⟨ys,hs2,hv2⟩:=k2.get hR hn.2;unfold cB at hi;rw[Eu,Ew]at hi;obtain⟨p,hp,rfl⟩:=hi;obtain⟨hx,hy⟩:=G7.mp hp;obtain⟨v,hv,hr1⟩:=hv1.get hx;obtain⟨w,hw,hr2⟩:=hv2.get hy;have m1:l1∈keys aa:=EE (f:=(·.1)) hn.1;have m2:l2∈keys aa:=EE (f:=(·.1)) hn.2;have ap:∀b∈[z,TO,TI,i2,i1],∀c∈keys aa,c≠b:=fun b hb c hc q=>hap.key b hb (q▸hc);have D:=kR hd (fun b hb=>ap b hb _ m1) fun b hb=>ap b hb _ m2;refine sa D a1 a2 a3 a4 a5 hs1 hs2 (x:=v) (y:=w) (by simpa using hv) (by simpa using hw) fun h' b1 b2 b3 b4 b5 b6=>⟨_,rfl,?_⟩;refine wpAny_letOwnedTupleGo_zip b1 fun h'' c1 hs=> ?_;replace hs:Heap.SameBut z h' h'':=hs;replace c1:IsZip h'' z TI TO .none :=c1;have lz:z<s.heap.objs.size:=Heap.lt_size a1;have hT:IsPair h'' s.heap.objs.size v w:=hs.extBut _ _ (G2 lz) b5;have ecode:=mH a1 a2 a3 a4 a5
  have hR1:R Γ aa {s with heap:=h'',toks:=s.toks}:=hR.others hap.key hap.tab hap.old ecode fun c o hc ec=>by
   exact hs.extBut _ _ (da hc (.head _)) (b6 c o (da hc (.head _)) (da hc mm1) (da hc (by show"mem")) (da hc mm3) ec)
  have hR2:=hR.takeNew hR1 (P:=bV [p.1,p.2]) (EL _) hT ⟨#[v,w],0,rfl,.cons hr1 (.cons hr2 .nil)⟩ tZ (fun hm=>absurd (hR.lt hm) (Fa _)) (cP hT rfl)
  have J':IsZip h'' z TI TO .none ∧IsPair h'' TI (.ref i1) (.ref i2)∧(∃a b,IsPair h'' TO a b)∧k1.It h'' i1 l1 (j+1)∧k2.It h'' i2 l2 (j+1):=
   ⟨c1,hs.extBut _ _ D.TIz (b6 _ _ D.TIz D.TITO D.TIi1 D.TIi2 a2),⟨v,w,hs.extBut _ _ D.TOz b2⟩,b3.but hs.extBut D.i1z,b4.but hs.extBut D.i2z⟩
  refine hQ _ _ _ (.tup _ _) hR2 J' ⟨fun b hb hm=> ?_,hap.tab,hap.old,fun b hb=> ?_⟩
  ·rcases EG.mp hm with q|q
   ·have q':b=s.heap.objs.size:=q
    obtain⟨o,e⟩:=hap.live b hb;exact absurd (Heap.lt_size e) (by rw[q'];exact Fa _)
   ·exact hap.key b hb q
  ·obtain⟨e1,e2,⟨_,_,e3⟩,⟨o4,e4,_⟩,⟨o5,e5,_⟩⟩:=J'
   exact qb (P:=fun b=>∃o,h''.get? b=some o) ⟨_,e1⟩ ⟨_,e3⟩ ⟨_,e2⟩ ⟨_,e5⟩ ⟨_,e4⟩ b hb
 stop:=fun A s j aa Q hA hR hn hap hJ hi hQ=>by
  obtain⟨a1,a2,⟨a,b,a3⟩,a4,a5⟩:=hJ;obtain⟨xs,hs1,hv1⟩:=k1.get hR hn.1;obtain⟨ys,hs2,hv2⟩:=k2.get hR hn.2;have z1:=hv1.size;have z2:=hv2.size;have m1:l1∈keys aa:=EE (f:=(·.1)) hn.1;have m2:l2∈keys aa:=EE (f:=(·.1)) hn.2;have ap:∀b∈[z,TO,TI,i2,i1],∀c∈keys aa,c≠b:=fun b hb c hc q=>hap.key b hb (q▸hc);have D:=kR hd (fun b hb=>ap b hb _ m1) fun b hb=>ap b hb _ m2
  have hend:xs[j]? =none∨ys[j]? =none:=by
   unfold cB at hi;have h:=HX.mp hi;rw[En,HR]at h;rcases Hh vs.length ws.length with q|q
   ·exact .inl (Hk (by rw[Gm q]at h;omega))
   ·exact .inr (Hk (by rw[HI q]at h;omega))
  refine lO hA.1 D a1 a2 a3 a4 a5 hs1 hs2 hend fun h' hk=> ?_;have ecode:=mH a1 a2 a3 a4 a5
  exact hQ _ (hR.others (t:=s.toks) hap.key hap.tab hap.old ecode fun c o hc ec=>by
   exact hk c o (da hc (.head _)) (da hc mm1) (da hc (by show"mem")) (da hc mm3) ec)
theorem nG (k1 k2:SK) {x1:Nat} {tp:Pos} {l1 l2 z TI TO i1 i2:Addr} {ws:List AV} {K:(Led->Prop)->Led->Prop} (h1:(l1,k1.P vs)∈aa) (h2:(l2,k2.P ws)∈aa) (h:K (fun o=>(l1,k1.P vs)∈o∧(l2,k2.P ws)∈o) aa):
 eD Γ (.Tuple elts x1 tp) (.ref z) ((z,bg (lP TI TO))::(TO,bg (eW .none .none))::(TI,bg (eW (.ref i1) (.ref i2)))::(i2,nF k2 l2)::(i1,nF k1 l1)::aa) (cB vs ws) K:=by
 intro v hv;cases hv;intro A s hA hR;have hd:=hR.nd;obtain⟨y1,t1,o1,hR1,ob1,e1,q1⟩:=hR.drop_key (.head);obtain⟨y2,t2,o2,hR2,ob2,e2,q2⟩:=hR1.drop_key (.head);obtain⟨y3,t3,o3,hR3,ob3,e3,q3⟩:=hR2.drop_key (.head);obtain⟨y4,t4,o4,hR4,ob4,e4,q4⟩:=hR3.drop_key (.head);obtain⟨y5,t5,o5,hR5,ob5,e5,q5⟩:=hR4.drop_key (.head);cases q1;cases q2;cases q3;refine wpAny_pyIter_zip e1 ?_;refine⟨_,[z,TO,TI,i2,i1],_,aa,ur k1 k2 (Gq.mp (show([z,TO,TI,i2,i1]++keys aa).Nodup from hd)).1,hR5,⟨e1,e3,⟨_,_,e2⟩,⟨_,e5,q5⟩,⟨_,e4,q4⟩⟩,⟨?_,?_,?_,?_⟩,h⟩
 ·exact qb (fun hm=>y1 (mmt hm)) (fun hm=>y2 (.tail _ (.tail _ (.tail _ hm)))) (fun hm=>y3 (.tail _ (.tail _ hm))) (fun hm=>y4 (.tail _ hm)) y5
 ·exact qb t1 t2 t3 t4 t5
 ·exact qb o1 o2 o3 o4 o5
 ·exact qb ⟨_,e1⟩ ⟨_,e2⟩ ⟨_,e3⟩ ⟨_,e4⟩ ⟨_,e5⟩
end
end
section
section
noncomputable abbrev aH (ns:List Int):List AV:=ns.map AV.int
theorem sd {ns:List Int} {vs:List Value} (h:VRs (aH ns) vs):∀i v,vs[i]? =some v->∃t,v=Value.int (ns.getD i 0) t:=by
 intro i v hv;have hl:=h.length;rw[En]at hl;obtain⟨hlt,_⟩:=EB.mp hv
 have e:(aH ns)[i]? =some (.int (ns.getD i 0)):=by
  rw[Eu,Ex (by omega),Ey,Ex (by omega)];rfl
 obtain⟨w,hw,hr⟩:=h.get e;rw[hv]at hw;cases hw;cases hr;exact⟨_,rfl⟩
theorem mI (ns:List Int):∀n,n≤ns.length->preSum (fun i=>ns.getD i 0) n=(ns.take n).sum :=fun z_=>by
 induction z_ with
 |zero=>exact fun _=>rfl
 |succ n ih=>
  intro h;rw[preSum,ih (by omega),E5,Ey,Ex (by omega),List.sum_append];simp
theorem eY:∀{ns:List Int} {vs:List Value},VRs (aH ns) vs->IntsAre vs ns:=by
 intro ns;induction ns with
 |nil=>intro vs h;cases h;exact .nil
 |cons n ns ih=>
  intro vs h;cases h with
  |cons h r=>cases h;exact .cons _ _ (ih r)
theorem us {ns:List Int} {vs:List Value} (h:IntsAre vs ns):VRs (aH ns) vs:=by
 induction h with
 |nil=>exact .nil
 |cons _ _ _ ih=>exact .cons (.int _ _) ih
theorem uu:∀{as:List α} {bs:List β},as.length=bs.length->(∀(i:Nat) (a:α),as[i]? =some a->∃b,bs[i]? =some b∧r a b)->All2 r as bs:=by
 intro as;induction as with
 |nil=>
  intro bs h _;cases H1.mp h.symm;exact .nil
 |cons a as ih=>
  intro bs h hg;obtain⟨b,e,hr⟩:=hg 0 a rfl;cases bs with
  |nil=>cases e
  |cons b' bs=>
   cases e;exact .cons hr (ih (Nat.succ.inj h) fun i x hx=>hg (i+1) x hx)
theorem mJ {ns:List Int} (hm:lL l (aH ns)∈aa) (h:K (.int ns.sum) aa):ai Γ (.builtin "sum") [.ref l] [] aa K:=by
 intro va kv hv hk;cases hk;obtain _|⟨h1,_|_⟩:=hv;cases h1;intro A s hA hR;obtain⟨items,n,ho,hvs⟩:=bD.get hR hm;have hsz:=hvs.size;rw[En]at hsz;have hl:s.heap.IsList l items:=⟨_,ho,rfl,n,rfl⟩;have hne:l≠s.heap.objs.size:=Gh (Heap.lt_size ho);have W:=(Walks.list (prog:=PR) (w:=Γ.w) (A:=A.in1) hA.1 s.heap.objs.size l hne items).toS;refine call_sum_walkAnyS (wpAny_pyIter_list hl ?_);refine⟨s.heap.objs.size,_,_,_,_,_,_,fun i=>ns.getD i 0,rfl,W,⟨⟨_,Heap.get?_push_size _ rfl,rfl,rfl⟩,hl.at fun o e=>Heap.get?_push_of_some _ e⟩,fun b hb=> ?_,fun i v hP=>sd hvs i v (by simpa using hP),fun s' t' hm'=> ?_⟩
 ·rcases EG.mp hb with rfl|hb
  ·exact Heap.lt_size (Heap.get?_push_size _ rfl)
  ·obtain rfl:=ED.mp hb
   exact Heap.lt_size (Heap.get?_push_of_some _ ho)
 ·obtain⟨h',g',d',tk',os'⟩:=s'
  have e1:g'=s.gens:=hm'.gens;have e2:d'=s.drawn:=hm'.drawn;have e3:os'=s.os:=hm'.os;subst e1 e2 e3;refine⟨_,aa,.int _ _,hR.grow (t:=tk') (h':=h') fun b o e=>hm'.heap b o (fun hb=>absurd (Heap.lt_size e) ((ED.mp hb)▸Fa _)) (Heap.get?_push_of_some _ e),?_⟩;rw[mI ns _ (by omega),←hsz,EW];exact h
theorem mK {ns:List Int} (hm:lL l (aH ns)∈aa) (hz:ns.length<64) (h:∀r ns',ns'.Perm ns->ns'.Pairwise (·≤·)->K (.ref r) (lL r (aH ns')::aa)):ai Γ (.builtin "sorted") [.ref l] [] aa K:=by
 intro va kv hv hk;cases hk;obtain _|⟨h1,_|_⟩:=hv;cases h1;intro A s hA hR;obtain⟨items,n,ho,hvs⟩:=bD.get hR hm;have hsz:=hvs.size;rw[En]at hsz;refine sorted_ints (vs:=items.toList) ⟨_,ho,rfl,n,rfl⟩ (eY hvs) (by rw[E0];omega) fun out ns' a1 a2 a3=> ?_;obtain⟨e,he⟩:=sortedAll_at s.heap items.toList out;have hR1:R Γ aa {s with heap:=sortedAll s.heap items.toList out,toks:=s.toks}:=hR.grow fun b o e=>sortedAll_old e;have hR2:=hR.takeNew hR1 (P:=bD (aH ns')) (F5 _) he ⟨_,_,rfl,us a1⟩ km (fun hm=>absurd (hR.lt hm) (F3.mpr (F5 _))) (cP he rfl);exact⟨_,_,.val _,hR2,h _ _ a2 a3⟩
theorem Bi {ns:List Int} (hm:lL l (aH ns)∈aa) (hne:0<ns.length) (h:∀M,M∈ns->(∀a∈ns,M≤a)->K (.int M) aa):ai Γ (.builtin "min") [.ref l] [] aa K:=by
 intro va kv hv hk;cases hk;obtain _|⟨h1,_|_⟩:=hv;cases h1;intro A s hA hR;obtain⟨items,n,ho,hvs⟩:=bD.get hR hm;have hsz:=hvs.size;rw[En]at hsz;obtain⟨xs,e⟩:=(eY hvs).allInts.items;have hns:ns=xs.toList.map (·.1):=by rw[←(eY hvs).numsOf,←nums_intItems,←e]
 have hsx:0<xs.size:=by
  have h3:=hne;rw[hns,En,E0]at h3;exact h3
 have hl:s.heap.IsList l items:=⟨_,ho,rfl,n,rfl⟩;rw[show items=items.toList.toArray from rfl,e]at hl;refine min_intList hA.1 hl hsx fun v h' tk hv hk=> ?_;obtain⟨t,rfl⟩:=intItems_at hv;obtain⟨h1,h2⟩:=argBest_lt (numAt xs) (xs.size-1);refine⟨_,aa,.int _ t,hR.grow (t:=tk) (h':=h') hk,h _ ?_ fun a ha=> ?_⟩
 ·rw[hns,numAt_eq];exact getD_mem (by rw[En,E0];omega)
 ·rw[hns]at ha
  obtain⟨j,hj,rfl⟩:=mem_getD ha;rw[En,E0]at hj;rw[←numAt_eq];exact h2 j (by omega)
theorem mL {r:Addr} (hm:(r,nw 0 b 1)∈aa) (hb:b≤2^24) (h:∀l,K (.ref l) (lL l (aH ((Et b).map fun(i:Nat)=>(i:Int)))::aa)):ai Γ (.type "list") [.ref r] [] aa K:=by
 intro va kv hv hk;cases hk;obtain _|⟨h1,_|_⟩:=hv;cases h1;intro A s hA hR;obtain⟨o,ho,t,u,v,rfl⟩:=hR.get hm;refine call_list_range (n:=b) hA.1 ho (small_one (by omega) (by omega) (by omega) (by omega)) (by rw[rangeSize_one];split<;>omega) hb fun h' tk acc' c' hk hS' hacc=> ?_;have hR1:R Γ aa {s with heap:=h',toks:=tk}:=hR.grow hk
 have hv:VRs (aH ((Et b).map fun(i:Nat)=>(i:Int))) acc'.toList:=by
  obtain⟨h1,h2⟩:=hacc;refine uu (by simp[h1]) fun i a ha=> ?_;unfold aH at ha;rw[FC,Eu,Ew]at ha;obtain⟨j,hj,rfl⟩:=ha;obtain⟨hlt,e⟩:=EB.mp hj;rw[G6]at e;subst e;rw[EN]at hlt;have hg:acc'[i]? =some acc'[i]:=FA (by omega);obtain⟨t',e⟩:=h2 i _ hg;refine⟨acc'[i],(FO (xs:=acc')).trans hg,?_⟩;rw[e];have:(0:Int)+(i:Int)*1=(i:Int):=by omega
  rw[this];exact .int _ _
 have hR2:=hR.takeNew hR1 (P:=bD _) (EL _) hS' ⟨_,_,rfl,hv⟩ km (fun hm=>absurd (hR.lt hm) (Fa _)) (cP hS' rfl);exact⟨_,_,.val _,hR2,h _⟩
end
end
section
inductive Nd where
 |e (x:Expr)
 |s (x:Stmt)
noncomputable def Nd.kids:Nd->List Nd
 | .e (.BoolOp _ vs _)=>vs.map .e
 | .e (.BinOp l _ r _)=>[.e l,.e r]
 | .e (.UnaryOp _ x _)=>[.e x]
 | .e (.Lambda _ b _ _)=>[.e b]
 | .e (.IfExp t b o _)=>[.e t,.e b,.e o]
 | .e (.Dict _ vs _)=>vs.map .e
 | .e (.ListComp elt gens _ _)=> .e elt::gens.flatMap fun g=> .e g.target:: .e g.iter::g.ifs.map .e
 | .e (.Compare l _ rs _)=> .e l::rs.map .e
 | .e (.Call f as ks _)=> .e f::(as.map .e ++ks.map fun k=> .e k.value)
 | .e (.Attribute v _ _)=>[.e v]
 | .e (.Subscript v i _)=>[.e v,.e i]
 | .e (.List es _)=>es.map .e
 | .e (.Tuple es _ _)=>es.map .e
 | .e (.Slice l u t _)=>(l.toList++u.toList++t.toList).map .e
 | .s (Stmt.FunctionDef _ _ b _ _ _ _ _ _ _)=>b.map .s
 | .s (.Return v _)=>v.toList.map .e
 | .s (.Assign ts v _)=> .e v::ts.map .e
 | .s (.AugAssign t _ v _)=>[.e t,.e v]
 | .s (.For t i b _ _)=> .e t:: .e i::b.map .s
 | .s (.While t b _ _)=> .e t::b.map .s
 | .s (.If t b o _)=> .e t::((b++o).map .s)
 | .s (.Expr v _)=>[.e v]
 | .s (Stmt.Try b _ _ _ _)=>b.map .s
 |_=>[]
noncomputable def Nd.none:Nd:= .s (.Pass default)
noncomputable def Nd.go:List Nat->Nd->Nd
 |[],n=>n
 |i::r,n=>Nd.go r (n.kids[i]?.getD .none)
noncomputable def Nd.lam:Nd->Arguments×Expr×Scope
 | .e (.Lambda a b x _)=>(a,b,x)
 | .e (.ListComp t g x p)=>(⟨[],[],.none,[],[],.none,[]⟩,.ListComp t g x p,x)
 | .e x=>(⟨[],[],.none,[],[],.none,[]⟩,x,default)
 | .s x=>(nC x,.Constant .none 0 default,lJ x)
noncomputable def Nd.sc (n:Nd):Scope:=n.lam.2.2
noncomputable def Nd.expr (n:Nd):Expr:=n.lam.2.1
noncomputable def Nd.args (n:Nd):Arguments:=n.lam.1
noncomputable def Nd.st:Nd->Stmt
 | .s x=>x
 | .e _=> .Pass default
noncomputable def Nd.at (n:Nd) (k:Nat):Stmt:=(n.kids[k]?.getD .none).st
noncomputable def bi (p:Params) (a:Addr) (way:List Nat):Nd:=match way with
 |i::r=>Nd.go r (.s ((ay p a)[i]?.getD (.Pass default)))
 |[]=> .none
noncomputable def bS (p:Params) (a:Addr) (way:List Nat):Scope:=(bi p a way).sc
noncomputable def oT:NameKind->Bool
 | .local =>true
 |_=>false
theorem sf {k:NameKind} (h:oT k=true):k= .local :=by cases k<;>first|rfl|cases h
theorem aJ {names:List (Str×NameKind)} (h:(names.all fun x=> !oT x.2||(match names.lookup x.1 with|some k=>oT k|none=>false))=true):∀x∈names,x.2= .local ->names.lookup x.1=some .local :=by
 intro x hx hl;have:=HM.mp h x hx;rw[hl]at this;simp only[oT,GT,Bool.false_or]at this;cases e:names.lookup x.1 with
 |none=>rw[e]at this;cases this
 |some k=>rw[e]at this;rw[sf this]
end
section
theorem eD.less {a:AV} {items:List Item} {K:(Led->Prop)->Led->Prop} (h:eD Γ tgt a aa items fun need o2=>∃o3,Less o3 o2∧K need o3):eD Γ tgt a aa items K:=by
 intro v hv A s hA hR;refine eD.go h hv hA hR fun itv s' need fp J o2 hI hR2 hJ hap hz=> ?_;obtain⟨o3,hs,hK⟩:=hz;exact⟨need,fp,J,o3,hI,hR2.sub hs,hJ,hap.sub hs,hK⟩
theorem jq (x:Int):x.fmod 2=0∨x.fmod 2=1:=by
 rw[GA _ (by decide)];omega
theorem Less.perm {o o':Led} (h:o'.Perm o):Less o' o:=⟨fun _ hp=>h.mem_iff.mp hp,fun hn=>(h.map _).nodup_iff.mpr hn⟩
noncomputable abbrev Mat:=Nat->Nat->Int
noncomputable def bB (M:Mat) (n x:Nat):List AV:=(Et n).map fun y=>AV.int (M x y)
theorem eg:(bB M n x).length =n:=by simp[bB]
theorem bH (h:y<n):(bB M n x)[y]? =some (.int (M x y)):=by
 unfold bB;rw[Eu,FL h];rfl
noncomputable def gm (M:Mat) (x y:Nat) (v:Int):Mat:=fun a b=>if a=x∧b=y then v else M a b
theorem mM {v:Int}:(bB M n x).set y (.int v)=bB (gm M x y v) n x:=by
 refine List.ext_getElem? fun i=> ?_;rw[List.getElem?_set];unfold bB gm;by_cases hi:i<n
 ·rw[Eu,Eu,FL hi]
  by_cases e:y=i
  ·subst e;simp[hi]
  ·rw[if_neg e];simp[Ne.symm e]
 ·rw[Eu,Eu,Ie (by simpa using HJ hi)]
  split
  ·rename_i e;subst e;simp[hi]
  ·simp
theorem jr {z:Nat} {v:Int} (h:z≠x):bB M n z=bB (gm M x y v) n z:=by
 unfold bB gm;refine GI fun i _=> ?_;simp[h]
noncomputable def aZ (M:Mat) (n:Nat):Nat->List Addr->Led
 |_,[]=>[]
 |k,r::rs=>lL r (bB M n k)::aZ M n (k+1) rs
theorem Bj:aZ M n k []=[]:=rfl
theorem cD {r:Addr}:aZ M n k (r::rs)=lL r (bB M n k)::aZ M n (k+1) rs:=rfl
theorem nH (M:Mat) (n:Nat) (r:Addr):∀(rs:List Addr) (k:Nat),aZ M n k (rs++[r])=aZ M n k rs++[lL r (bB M n (k+rs.length))]:=fun z_=>by
 induction z_ with
 |nil=>exact fun k=>rfl
 |cons q rs ih=>intro k;rw[EX,cD,cD,ih (k+1),EX,EK,show k+1+rs.length=k+(rs.length+1)from by omega];rfl
theorem js (M:Mat) (n:Nat):∀(rs:List Addr) (k i:Nat) (r:Addr),rs[i]? =some r->lL r (bB M n (k+i))∈aZ M n k rs:=by
 intro rs;induction rs with
 |nil=>intro _ _ _ h;cases h
 |cons q rs ih=>
  intro k i r h;cases i with
  |zero=>cases h;exact .head _
  |succ i=>
   have:=ih (k+1) i r h;rw[HY]at this;exact .tail _ this
theorem jt {M':Mat} {tl:Led}:∀(rs:List Addr) (k i:Nat) (r:Addr),rs[i]? =some r->(∀z,z≠k+i->bB M n z=bB M' n z)->Upd r (bD (bB M n (k+i))) (bD (bB M' n (k+i))) (aZ M n k rs++tl) (aZ M' n k rs++tl):=by
 intro rs;induction rs with
 |nil=>intro _ _ _ h;cases h
 |cons q rs ih=>
  intro k i r h hz;cases i with
  |zero=>
   cases h
   have go:∀(rs:List Addr) (j:Nat),k<j->aZ M n j rs=aZ M' n j rs:=by
    intro rs;induction rs with
    |nil=>intro j _;rfl
    |cons q rs ih=>intro j hj;rw[cD,cD,ih (j+1) (by omega),hz j (by omega)]
   have e:=go rs _ (Fy k);rw[cD,cD,e];exact .head
  |succ i=>
   have:=ih (k+1) i r h (fun z hz'=>hz z (by omega));rw[HY]at this;rw[cD,cD,hz k (by omega)];exact .tail this
theorem qc {M':Mat}:∀(rs:List Addr) (k:Nat),(∀z,k≤z->z<k+rs.length->bB M n z=bB M' n z)->aZ M n k rs=aZ M' n k rs:=fun z_=>by
 induction z_ with
 |nil=>exact fun _ _=>rfl
 |cons q rs ih=>
  intro k h;rw[cD,cD,ih (k+1) (fun z h1 h2=>h z (by omega) (by simp;omega)),h k (EL _) (by simp)]
structure Tour (n:Nat) (T:Nat->Nat->Bool):Prop where
 irr:∀x,x<n->T x x=false
 anti:∀x y,x<n->y<n->x≠y->T x y= !T y x
noncomputable abbrev b2 (b:Bool):Int:=if b then 1 else 0
noncomputable abbrev aO (T:Nat->Nat->Bool):Mat:=fun x y=>b2 (T x y)
structure Half (n:Nat) (M:Mat) (i o:Nat):Prop where
 d:∀x,M x x=0
 h:∀x y,x<y->y<n->(x<i∨(x=i∧y<o))->(M x y=0∨M x y=1)∧M y x=1-M x y
theorem Half.step {o:Nat} {v:Int} (h:Half n M i o) (hio:i<o) (hv:v=0∨v=1):Half n (gm (gm M i o v) o i (1-v)) i (o+1):=by
 refine⟨fun x=> ?_,fun x y hxy hyn hc=> ?_⟩
 ·unfold gm
  rw[if_neg (by omega),if_neg (by omega)];exact h.d x
 ·unfold gm
  by_cases e:x=i∧y=o
  ·obtain⟨rfl,rfl⟩:=e
   rw[if_neg (by omega),if_pos ⟨rfl,rfl⟩,if_pos ⟨rfl,rfl⟩];exact⟨hv,rfl⟩
  ·rw[if_neg (by omega),if_neg e,if_neg (by omega),if_neg (by omega)]
   exact h.h x y hxy hyn (by omega)
theorem Half.next (h:Half n M i n):Half n M (i+1) (i+2):=⟨h.d,fun x y hxy hyn hc=>h.h x y hxy hyn (by omega)⟩
theorem Half.tour {o:Nat} (h:Half n M i o) (hi:n≤i):∃T,Tour n T∧∀x y,x<n->y<n->M x y=b2 (T x y):=by
 have key:∀x y,x<n->y<n->(M x y=0∨M x y=1):=fun x y hx hy=>by
  rcases Nat.lt_trichotomy x y with q|q|q
  ·exact(h.h x y q hy (by omega)).1
  ·rw[q];exact .inl (h.d y)
  ·have:=h.h y x q hx (by omega)
   omega
 refine⟨fun x y=>decide (M x y=1),⟨fun x _=> ?_,fun x y hx hy hne=> ?_⟩,fun x y hx hy=> ?_⟩
 ·rw[h.d];rfl
 ·have k1:=key x y hx hy
  have k2:=key y x hy hx
  have:M x y=1-M y x:=by
   rcases Nat.lt_or_gt_of_ne hne with q|q
   ·have:=(h.h x y q hy (by omega)).2;omega
   ·exact(h.h y x q hx (by omega)).2
  rcases k2 with k2|k2<;>rw[k2]at this<;>simp[this,k2]
 ·rcases key x y hx hy with k|k<;>simp[b2,k]
theorem ek120:EnvOk (ah (ak p 120) f L cs):=⟨by kernel_rfl,by kernel_rfl⟩
theorem ka120:KdA (ah (ak p 120) f L cs) [("numbers",.cell),("number",.local),("other",.local),("arcs",.local),("one",.local),("enumerate",.globalImplicit),("range",.globalImplicit),("len",.globalImplicit)]:=⟨by kernel_rfl,by kernel_rfl⟩
theorem uv (p:Params):(ak p 120).body = .stmts (ay p 120):=rfl
theorem Bk:(([("number",none),("other",none),("arcs",none),("one",none)]:Loc).map (·.1)).Nodup :=by decide
theorem Bl:∀p∈([("number",none),("other",none),("arcs",none),("one",none)]:Loc),p.2=none:=bF rfl
theorem Bm {a_numbers:AV} {K:List (Str×AV)->Led->Prop} (hT:TopG Γ) (h:K [("numbers",a_numbers)] aa):WB Γ (ak Γ.w.params 120) [a_numbers] [] aa K:=by
 exact WB.p1 hT (fun _=>by kernel_rfl) .nil h
theorem uw {a_numbers:AV} (hT:TopG Γ) (hk:0<Γ.k) (h:∀L c_numbers,WS Γ.dn (ah (ak Γ.w.params 120) 120 L [("numbers",c_numbers)]) (ay Γ.w.params 120) ((c_numbers,h_ (some a_numbers))::(L,ab [("number",none),("other",none),("arcs",none),("one",none)])::aa) fun fl o2=>∃o3,Less o3 o2∧K fl.val o3):
 ai Γ (.ref 120) [a_numbers] [] aa K:=by
 refine bA hk hT (fun s hR=>(wU _).hf hT s hR) (uv _) Bk Bl (Bm hT.dn fun L cs hcs=> ?_) (by kernel_rfl) (by kernel_rfl);have hcs0:cs.map (·.1)=[("numbers":Str)]:=hcs.trans (by kernel_rfl);obtain⟨c_numbers,cs1,e1,hcs1⟩:=au hcs0;have e0:=af hcs1;clear hcs hcs0 hcs1;subst e0;subst e1;show WBinds _ (ah (ak Γ.w.params 120) 120 L [("numbers",c_numbers)]) _ (cN c_numbers::(L,ab _)::aa) _;refine st_cell (ka120.at 0 (by kernel_rfl)) cf (by show"cel") (by show"upd") ?_;exact h L c_numbers
noncomputable def gt (p:Params):Scope:=bS p 120 [0,0]
theorem xP (p:Params):(gt p).kind = .function :=by kernel_rfl
theorem xQ (p:Params):∀x∈(gt p).names,x.2= .local ->(gt p).names.lookup x.1=some .local :=aJ (by kernel_rfl)
theorem ka120a {L120a:Addr} {c120a:List (Str×Addr)}:KdA (aM (gt p) (ah (ak p 120) f L cs) L120a c120a) [("number",.local),("numbers",.cell)]:=⟨by kernel_rfl,by kernel_rfl⟩
noncomputable def ju (p:Params):Scope:=bS p 120 [0,0,0]
theorem xR (p:Params):(ju p).kind = .function :=by kernel_rfl
theorem xS (p:Params):∀x∈(ju p).names,x.2= .local ->(ju p).names.lookup x.1=some .local :=aJ (by kernel_rfl)
theorem ka120b {L1:Addr} {c1:List (Str×Addr)} {L120b:Addr} {c120b:List (Str×Addr)}:KdA (aM (ju p) (aM (gt p) (ah (ak p 120) f L cs) L1 c1) L120b c120b) [("other",.local)]:=⟨by kernel_rfl,by kernel_rfl⟩
theorem C2 {nl:Addr} {ns:List Int} (hT0:TopG Γ) (hk:1<Γ.k) (hm:lL nl (aH ns)∈aa) (hn:ns.length≤20) (hK:∀A rs T,rs.length=ns.length->Tour ns.length T->K (.ref A) (lL A (rs.map AV.ref)::(aZ (aO T) ns.length 0 rs++aa))):ai Γ (.ref 120) [.ref nl] [] aa K:=by
 refine uw hT0 (by omega) fun L cn=> ?_;have hT:TopG Γ.dn:=hT0.dn;clear hT0;have hmL:lL nl (aH ns)∈cR cn nl::(L,ab [("number",none),("other",none),("arcs",none),("one",none)])::aa:= .tail _ (.tail _ hm);refine s_cons ?_;refine bq (cl:=[("numbers",cn)]) (loc:=[("number",none)]) (by kernel_rfl) (xP Γ.w.params) (xQ Γ.w.params) (by decide) (by simp) ?_ (by kernel_rfl);unfold bC;show"w120";refine⟨_,aW hmL ?_⟩;intro acc L2 cs2 hcs2;rw[af (cs:=cs2) hcs2];show aR _ _ 0 acc (aM (gt Γ.w.params) (ah (ak Γ.w.params 120) 120 L [("numbers",cn)]) L2 [("numbers",cn)]) _ _ _ ((L2,ab [("number",none)])::lL acc []::cR cn nl::(L,ab _)::aa) _;refine aB (fun i o=>∃rs x,rs.length=i∧o=(L2,ab [("number",x)])::lL acc (rs.map AV.ref)::cR cn nl::(L,ab [("number",none),("other",none),("arcs",none),("one",none)])::(aZ (fun _ _=>0) ns.length 0 rs++aa)) rfl rfl ⟨[],none,rfl,rfl⟩ ?_ ?_ ?_
 ·rintro i o ⟨rs,x,_,rfl⟩
  exact .tail _ (.tail _ (.tail _ (.tail _ (EC _ hm))))
 ·rintro i J it o h' hit ⟨rs,x,hrs,rfl⟩ hs
  have hT':TopG (Γ.dn.at h'):=hT.at hs;rw[Eu,Ew]at hit;obtain⟨av,hav,rfl⟩:=hit
  have hi:i<ns.length:=by
   have:=(EB.mp hav).1;simpa using this
  show WAsg _ _ _ _ _ _;show"w120a";refine aL (cl:=[]) (loc:=[("other",none)]) (by kernel_rfl) (xR Γ.w.params) (xS Γ.w.params) (by decide) (by simp) ?_;unfold bC;show"w120a";refine⟨_,aW (vs:=aH ns) (.tail _ (.tail _ (.tail _ (.tail _ (EC _ hm))))) ?_⟩;intro acc3 L3 cs3 hcs3;rw[af (cs:=cs3) hcs3];show aR _ _ 0 acc3 (aM (ju Γ.w.params) (aM (gt Γ.w.params) (ah (ak Γ.w.params 120) 120 L [("numbers",cn)]) L2 [("numbers",cn)]) L3 []) _ _ _ ((L3,ab [("other",none)])::lL acc3 []::(L2,ab [("number",some av)])::lL acc (rs.map AV.ref)::cR cn nl::(L,ab _)::_) _;refine aB (fun j o=>∃x,o=(L3,ab [("other",x)])::lL acc3 (EH j (.int 0))::(L2,ab [("number",some av)])::lL acc (rs.map AV.ref)::cR cn nl::(L,ab _)::(aZ (fun _ _=>0) ns.length 0 rs++aa)) rfl rfl ⟨none,rfl⟩ ?_ ?_ ?_
  ·rintro i o ⟨x,rfl⟩
   exact .tail _ (.tail _ (.tail _ (.tail _ (.tail _ (.tail _ (EC _ hm))))))
  ·rintro j J it o h2 hit ⟨x,rfl⟩ hs2
   rw[Eu,Ew]at hit;obtain⟨av2,hav2,rfl⟩:=hit
   have hj:j<ns.length:=by
    have:=(EB.mp hav2).1;simpa using this
   show WAsg _ _ _ _ _ _;show"w120b";exact⟨_,_,_,.tail .head,ac (by simp;omega),Less.refl,some av2,by rw[←Gw]⟩
  ·rintro o ⟨x,rfl⟩
   rw[En,En];refine⟨_,_,Less.refl,?_⟩
   have e0:EH ns.length (AV.int 0)=bB (fun _ _=>0) ns.length (0+rs.length):=by
    unfold bB;rw[List.map_const',EN]
   refine⟨_,_,_,.tail (.tail .head),ac (by simp;omega),?_,rs++[acc3],some av,by simp[hrs],rfl⟩;rw[Ez,nH,e0];refine Less.take (.tail .head) (Less.take (.tail .head) (Less.take (.tail .head) (Less.take (.tail .head) (Less.perm ?_))));rw[EO];exact Hb
 ·rintro o ⟨rs,x,hrs,rfl⟩
  rw[En,En]at hrs;refine⟨_,_,Less.refl,?_⟩;show"o120";refine⟨_,_,Less.refl,?_⟩;have hmem:∀(M:Mat) (o1 o2 o3:Addr×OP),lL nl (aH ns)∈o1::o2::o3::(aZ M ns.length 0 rs++aa):=fun M o1 o2 o3=> .tail _ (.tail _ (.tail _ (EC _ hm)));refine s_cons ?_;refine oH (items:=bQ (aH ns)) (fun i o=>∃M a b c,Half ns.length M i (i+1)∧o=lL acc (rs.map AV.ref)::cR cn nl::(L,ab [("number",a),("other",b),nR "arcs" acc,("one",c)])::(aZ M ns.length 0 rs++aa)) ?_ ?_ ?_
  ·show"w120"
   refine fy (vs:=aH ns) (hmem _ _ _ _) fun e it=> ?_;refine lK (vs:=aH ns) (hmem _ _ _ _) ⟨⟨_,_,_,_,⟨fun _=>rfl,fun x y _ _ h=>by omega⟩,rfl⟩,?_⟩;rintro i o ⟨M,a,b,c,_,rfl⟩;exact hmem _ _ _ _
  ·rintro i J it o h' hit ⟨M,a,b,c,hM,rfl⟩ hs
   have hT':TopG (Γ.dn.at h'):=hT.at hs;unfold bQ at hit;rw[Hr,Eu,Ew]at hit;obtain⟨av,hav,rfl⟩:=hit;rw[Ew]at hav;obtain⟨num,hnum,rfl⟩:=hav;have hi:i<ns.length:=(EB.mp hnum).1;intro t;refine aI (.head _) rfl ?_;show"w120";refine W.sub (Less.skip Less.refl) ?_;refine oH (items:=(gP (i+1) ns.length).map .one) (fun j o=>∃M b,Half ns.length M i (i+1+j)∧o=lL acc (rs.map AV.ref)::cR cn nl::(L,ab [nI "number" num,("other",b),nR "arcs" acc,nI "one" i])::(aZ M ns.length 0 rs++aa)) ?_ ?_ ?_
   ·show"w120"
    refine eI (vs:=aH ns) (hmem _ _ _ _) (ac (by simp;omega)) ?_;show"w120";refine gO fun r=> ?_;rw[En];refine eD.less (bM (a:=i+1) (b:=ns.length) (.head _) (by omega) (by omega) ⟨_,Less.skip Less.refl,⟨_,_,by rw[G3];exact hM,rfl⟩,fun _ _ _=>trivial⟩)
   ·rintro j J it o h2 hit ⟨M,b,hM,rfl⟩ hs2
    have hT2:TopG ((Γ.dn.at h').at h2):=hT'.at hs2;rw[Eu,Ew]at hit;obtain⟨av,hav,rfl⟩:=hit
    have hj:j<ns.length-(i+1):=by
     have:=(EB.mp hav).1;rw[aG]at this;exact this
    rw[dU hj]at hav;cases hav;generalize hy:i+1+j=y at*;have hyn:y<ns.length:=by omega
    have hyi:i<y:=by omega
    obtain⟨ri,hri⟩:∃r,rs[i]? =some r:=⟨_,Ex (by omega)⟩;obtain⟨ry,hry⟩:∃r,rs[y]? =some r:=⟨_,Ex (by omega)⟩;have gi:(rs.map AV.ref)[i]? =some (.ref ri):=by rw[Eu,hri];rfl
    have gy:(rs.map AV.ref)[y]? =some (.ref ry):=by rw[Eu,hry];rfl
    show WAsg _ _ _ _ _ _;show"w120";refine dK ?_;show"w120";refine qU (Er _) (by show(2:Int)*(y:Int)≤2^27;omega) ?_;show"w120";rw[Es];refine dT (Int.ne_of_gt (kbt_pos y)) (by rw[←kbt_cast y];exact ig (k:=y+1) (Nat.pow_lt_pow_right (by decide) (Fy y)) (by omega)) ?_;show"w120";refine gL (by decide) ?_;have hv:=jq (num.fdiv (2^y));generalize (num.fdiv (2^y)).fmod 2=v at*;show"w120";refine ar (.head _) (Er _) (by omega) (by rw[Es];exact gi) ?_;show"w120"
    refine jg (vs:=bB M ns.length i) (Er _) (by omega) (by rw[eg];omega) (ac (by rw[eg];omega)) (by
     rw[Es,mM];have:=jt (M:=M) (M':=gm M i y v) (n:=ns.length) (tl:=aa) rs 0 i ri hri (fun z hz=>jr (by omega));rw[E7]at this;exact .tail (.tail (.tail this))) ?_
    show"w120";refine dK ?_;show"w120";refine ar (.head _) (Er _) (by omega) (by rw[Es];exact gi) ?_;show"w120";have m1:=js (gm M i y v) ns.length rs 0 i ri hri;rw[E7]at m1;refine ar (vs:=bB (gm M i y v) ns.length i) (.tail _ (.tail _ (.tail _ (EY _ m1)))) (Er _) (by omega) (by rw[Es];exact bH hyn) ?_;rw[show gm M i y v i y=v from if_pos ⟨rfl,rfl⟩];show"w120";refine ar (.head _) (Er _) (by omega) (by rw[Es];exact gy) ?_;show"w120"
    refine jg (vs:=bB (gm M i y v) ns.length y) (Er _) (by omega) (by rw[eg];omega) (ac (by rw[eg];omega)) (by
     rw[Es,mM];have:=jt (M:=gm M i y v) (M':=gm (gm M i y v) y i (1-v)) (n:=ns.length) (tl:=aa) rs 0 y ry hry (fun z hz=>jr (by omega));rw[E7]at this;exact .tail (.tail (.tail this))) ?_
    show"w120";exact⟨rfl,_,Less.refl,_,_,by have:=hM.step hyi hv;rwa [show i+1+(j+1)=y+1 from by omega],rfl⟩
   ·rintro o ⟨M,b,hM,rfl⟩
    rw[En,aG,show i+1+(ns.length-(i+1))=ns.length from by omega]at hM;show"w120";exact⟨rfl,_,Less.refl,_,_,_,_,hM.next,rfl⟩
  ·rintro o ⟨M,a,b,c,hM,rfl⟩
   unfold bQ at hM;rw[IC,En]at hM;obtain⟨T,hTour,hMT⟩:=hM.tour (EL _);show"w120";refine⟨_,?_,hK acc rs T hrs hTour⟩;rw[qc (M:=aO T) (M':=M) rs 0 (fun z _ hz=> ?_)]
   ·refine Less.take .head (Less.skip (Less.skip Less.refl))
   ·refine GI fun y hy=> ?_
    rw[hMT z y (by omega) (EM.mp hy)]
end
end
section
variable {c_new:Addr}
section
theorem cS {p q:Nat->Bool} (lo hi:Nat):(∀i,lo≤i->i<hi->p i=q i)->bh p lo hi=bh q lo hi:=
 i4 (C:=fun lo hi r=>(∀i,lo≤i->i<hi->p i=q i)->r=bh q lo hi) (fun lo hi h _=>by rw[cb,if_neg h]) (fun lo hi r h hp ih hc=>by rw[cb,if_pos h,if_pos ((hc _ (by omega) (by omega)).symm.trans hp),ih fun i h1 h2=>hc i h1 (F4 h2 (rm h))]) (fun lo hi r h hp ih hc=>by rw[cb,if_pos h,if_neg (by rw[←hc _ (by omega) (by omega),hp];exact E6),ih fun i h1 h2=>hc i (Ep (HB (lA h)) h1) h2]) lo hi
noncomputable def an (T:Nat->Nat->Bool):Nat->List Nat
 |0=>[]
 |k+1=>bW (an T k) (bh (fun i=>T k ((an T k).getD i 0)) 0 k).1 k
theorem Bn:an T 0=[]:=rfl
theorem gT:an T (k+1)=bW (an T k) (bh (fun i=>T k ((an T k).getD i 0)) 0 k).1 k:=rfl
noncomputable def gU (T:Nat->Nat->Bool) (k:Nat):Nat:=1+(bh (fun i=>T k ((an T k).getD i 0)) 0 k).2
noncomputable def cW (T:Nat->Nat->Bool):Nat->List Nat
 |0=>[]
 |k+1=>cW T k++EH (gU T k) k
theorem xT:cW T 0=[]:=rfl
theorem nJ:cW T (k+1)=cW T k++EH (gU T k) k:=rfl
theorem lQ {l:List α} {v:α} (h:k≤l.length):(bW l k v).length =l.length+1:=by
 unfold bW;rw[EU,EK,EJ,Fp];omega
theorem eK {f:α->β} {l:List α} {v:α}:bW (l.map f) k (f v)=(bW l k v).map f:=by
 unfold bW;rw[Ez,EQ,Hu,Hv]
theorem dW {l:List α} {v:α}:(bW l k v).Perm (v::l):=by
 unfold bW;refine Hb.trans ?_;rw[FX]
theorem br (T:Nat->Nat->Bool):∀k,(an T k).length =k
 |0=>rfl
 |k+1=>by
  have h:=br T k;rw[gT,lQ (by rw[h];exact(bE _ _ _ (ET _)).2),h]
theorem fz (T:Nat->Nat->Bool):∀k,(an T k).Perm (Et k)
 |0=> .nil
 |k+1=>by
  rw[gT,FH];exact dW.trans (((fz T k).cons k).trans (Gx k _).symm)
theorem dO (T:Nat->Nat->Bool) (k:Nat):∀x∈an T k,x<k:=fun x hx=>EM.mp ((fz T k).mem_iff.mp hx)
theorem aQ {l:List Nat} (h:i<l.length):(ae l).getD i .none = .int (l.getD i 0:Nat):=by
 rw[Ey,Ey,Eu,Ex h];rfl
theorem fY {l:List Nat} (h:∀x∈l,x<k) (hi:i<l.length):l.getD i 0<k:=by
 rw[Ey,Ex hi];exact h _ (GE hi)
theorem sg (c k:Nat):ae (EH c k)=EH c (.int (k:Int)):=IB
structure Arcs (aa:Led) (A:Addr) (n:Nat) (T:Nat->Nat->Bool) (rs:List Addr):Prop where
 len:rs.length=n
 top:lL A (rs.map AV.ref)∈aa
 row:∀i r,rs[i]? =some r->lL r (bB (aO T) n i)∈aa
theorem Arcs.cons {A:Addr} (h:Arcs aa A n T rs) (q:Addr×OP):Arcs (q::aa) A n T rs:=⟨h.len,.tail _ h.top,fun i r e=> .tail _ (h.row i r e)⟩
theorem Arcs.at {A:Addr} (h:Arcs aa A n T rs) (hi:i<n):∃r,(rs.map AV.ref)[i]? =some (.ref r)∧lL r (bB (aO T) n i)∈aa:=by
 have hl:=h.len;have e:=Ex (l:=rs) (i:=i) (by omega);exact⟨_,by rw[Eu,e];rfl,h.row i _ e⟩
noncomputable def fD (p:Params) (c_rights c_new c_arcs:Addr) (pm:Value) (c':Addr) (aq:Value):Obj:=kla_obj "<lambda>" "_law_rows.<locals>.<lambda>" (bi p 127 [1,2,0,3]).args (bi p 127 [1,2,0,3]).expr (bS p 127 [1,2,0,3]) [("rights",c_rights),("new",c_new),("arcs",c_arcs)] pm c' aq
noncomputable def gu (p:Params) (c_rights c_new c_arcs:Addr) (pm:Value) (c':Addr) (aq:Value):FuncData:=gl (fD p c_rights c_new c_arcs pm c' aq)
theorem oU {c_rights:Addr}:(fD p c_rights c_new c_arcs pm c' aq).data = .func (gu p c_rights c_new c_arcs pm c' aq):=rfl
theorem ux {c_rights:Addr}:(gu p c_rights c_new c_arcs pm c' aq).body = .expr (bi p 127 [1,2,0,3]).expr :=rfl
theorem ka127a {c_rights:Addr}:KdA (ah (gu p c_rights c_new c_arcs pm c' aq) f L cs) [("old",.local),("arcs",.free),("new",.free),("rights",.free)]:=⟨by kernel_rfl,by kernel_rfl⟩
theorem xU:(([("old",none)]:Loc).map (·.1)).Nodup :=by decide
theorem xV:∀p∈([("old",none)]:Loc),p.2=none:=bF rfl
theorem xW {c_rights:Addr} {a_old:AV} {K:List (Str×AV)->Led->Prop} (h:K [("old",a_old)] aa):WB Γ (gu p c_rights c_new c_arcs pm c' aq) [a_old] [] aa K:=by
 exact WB.q1 (fun _=>by kernel_rfl) .nil h
theorem uy {c_rights:Addr} {a_old:AV} (hT:TopG Γ) (hk:0<Γ.k) (hm:(f,bg (fD Γ.w.params c_rights c_new c_arcs pm c' aq))∈aa) (h:∀L,WE Γ.dn (ah (gu Γ.w.params c_rights c_new c_arcs pm c' aq) f L [("rights",c_rights),("new",c_new),("arcs",c_arcs)]) (bi Γ.w.params 127 [1,2,0,3]).expr ((L,ab [("old",some a_old)])::aa) fun a o2=>∃o3,Less o3 o2∧K a o3):ai Γ (.ref f) [a_old] [] aa K:=by
 refine cZ hk hT (cM hm oU) ux xU xV (xW fun L cs hcs=> ?_) (by kernel_rfl) (by kernel_rfl);rw[af (cs:=cs) hcs];show WBinds _ (ah (gu Γ.w.params c_rights c_new c_arcs pm c' aq) f L [("rights",c_rights),("new",c_new),("arcs",c_arcs)]) _ ((L,ab _)::aa) fun o1=>WE _ (ah (gu Γ.w.params c_rights c_new c_arcs pm c' aq) f L [("rights",c_rights),("new",c_new),("arcs",c_arcs)]) _ o1 _;refine st_local (ka127a.at 0 (by kernel_rfl)) lf (by show"upd") (by show"put") ?_;exact h L
noncomputable def fE (p:Params) (c_new c_lefts c_arcs:Addr) (pm:Value) (c':Addr) (aq:Value):Obj:=kla_obj "<lambda>" "_law_rows.<locals>.<lambda>" (bi p 127 [1,3,0,3]).args (bi p 127 [1,3,0,3]).expr (bS p 127 [1,3,0,3]) [("new",c_new),("lefts",c_lefts),("arcs",c_arcs)] pm c' aq
noncomputable def gv (p:Params) (c_new c_lefts c_arcs:Addr) (pm:Value) (c':Addr) (aq:Value):FuncData:=gl (fE p c_new c_lefts c_arcs pm c' aq)
theorem oV {c_lefts:Addr}:(fE p c_new c_lefts c_arcs pm c' aq).data = .func (gv p c_new c_lefts c_arcs pm c' aq):=rfl
theorem uz {c_lefts:Addr}:(gv p c_new c_lefts c_arcs pm c' aq).body = .expr (bi p 127 [1,3,0,3]).expr :=rfl
theorem ka127b {c_lefts:Addr}:KdA (ah (gv p c_new c_lefts c_arcs pm c' aq) f L cs) [("old",.local),("arcs",.free),("lefts",.free),("new",.free)]:=⟨by kernel_rfl,by kernel_rfl⟩
theorem xX:(([("old",none)]:Loc).map (·.1)).Nodup :=by decide
theorem xY:∀p∈([("old",none)]:Loc),p.2=none:=bF rfl
theorem xZ {c_lefts:Addr} {a_old:AV} {K:List (Str×AV)->Led->Prop} (h:K [("old",a_old)] aa):WB Γ (gv p c_new c_lefts c_arcs pm c' aq) [a_old] [] aa K:=by
 exact WB.q1 (fun _=>by kernel_rfl) .nil h
theorem uG {c_lefts:Addr} {a_old:AV} (hT:TopG Γ) (hk:0<Γ.k) (hm:(f,bg (fE Γ.w.params c_new c_lefts c_arcs pm c' aq))∈aa) (h:∀L,WE Γ.dn (ah (gv Γ.w.params c_new c_lefts c_arcs pm c' aq) f L [("new",c_new),("lefts",c_lefts),("arcs",c_arcs)]) (bi Γ.w.params 127 [1,3,0,3]).expr ((L,ab [("old",some a_old)])::aa) fun a o2=>∃o3,Less o3 o2∧K a o3):ai Γ (.ref f) [a_old] [] aa K:=by
 refine cZ hk hT (cM hm oV) uz xX xY (xZ fun L cs hcs=> ?_) (by kernel_rfl) (by kernel_rfl);rw[af (cs:=cs) hcs];show WBinds _ (ah (gv Γ.w.params c_new c_lefts c_arcs pm c' aq) f L [("new",c_new),("lefts",c_lefts),("arcs",c_arcs)]) _ ((L,ab _)::aa) fun o1=>WE _ (ah (gv Γ.w.params c_new c_lefts c_arcs pm c' aq) f L [("new",c_new),("lefts",c_lefts),("arcs",c_arcs)]) _ o1 _;refine st_local (ka127b.at 0 (by kernel_rfl)) lf (by show"upd") (by show"put") ?_;exact h L
noncomputable def tW (T:Nat->Nat->Bool) (new:Nat):AV->Int
 | .int k=>if k=new∨T k.toNat new=true then 0 else 1
 |_=>0
noncomputable def qd (T:Nat->Nat->Bool) (new:Nat):AV->Int
 | .int k=>if k=new∨T new k.toNat=true then 1 else 0
 |_=>0
noncomputable def gV (n:Nat) (a:AV):Prop:=∃o:Nat,o<n∧a= .int o
theorem uH {A rl c_rights:Addr} {new:Nat} {base:List AV} (hT0:TopG Γ) (hA:Arcs aa A n T rs) (hn:n≤20) (hnew:new<n) (hb:base.length≤100000) (h1:cR c_rights rl∈aa) (h2:cI c_new new∈aa) (h3:cR c_arcs A∈aa):
 bn 1 Γ (.ref f) (gV n) (tW T new) (fun c o=>o=(f,bg (fD Γ.w.params c_rights c_new c_arcs pm c' aq))::lL rl (base++EH c (.int new))::aa):=by
 rintro h' hs c o rfl;refine⟨aV (.head _) oU,fun hc a ha=> ?_⟩;obtain⟨old,hold,rfl⟩:=ha;have hT1:TopG (Γ.to h' 1):=hT0.to hs;refine uy hT1 (Fy 0) (.head _) fun L=> ?_;have hT:TopG (Γ.to h' 1).dn :=hT1.dn;clear hT1;refine w_BoolOp ?_;refine gK ?_;show"w127a";refine cy PySem.slot_list_append PySem.type_list_append (vs:=base++EH c (.int new)) (by show"mem") ?_;show"w127a";refine cY (vs:=base++EH c (.int new)) (.tail (.tail .head)) (by simp;have:200000≤sizeLine:=(by decide);omega) ?_;rw[EO,←Gw];refine lF ?_;refine nv ?_;show"w127a"
 have fin:∀r:Int,r=tW T new (.int old)->∃o3,Less o3 ((L,ab [nI "old" old])::(f,bg (fD Γ.w.params c_rights c_new c_arcs pm c' aq))::lL rl (base++EH (c+1) (.int new))::aa)∧
  (AV.int r= .int (tW T new (.int old))∧o3=(f,bg (fD Γ.w.params c_rights c_new c_arcs pm c' aq))::lL rl (base++EH (c+1) (.int new))::aa):=fun r hr=>⟨_,Less.skip Less.refl,by rw[hr],rfl⟩
 by_cases e:old=new
 ·rw[show((old:Int)==(new:Int))=true from by rw[beq_iff_eq];omega]
  show"w127a";exact fin 0 (by simp[tW,e])
 ·rw[show((old:Int)==(new:Int))=false from by rw[beq_eq_false_iff_ne];omega]
  show"w127a";obtain⟨ro,g1,g2⟩:=hA.at hold;refine ar (vs:=rs.map AV.ref) (.tail _ (.tail _ (.tail _ hA.top))) (Er _) (by omega) (by rw[Es];exact g1) ?_;show"w127a";refine ar (vs:=bB (aO T) n old) (.tail _ (.tail _ (.tail _ g2))) (Er _) (by omega) (by rw[Es];exact bH hnew) ?_;show"w127a";cases hb:T old new with
  |true=>
   rw[show((aO T old new)!=0)=true from by simp[aO,b2,hb]];show"w127a";exact fin 0 (by simp[tW,hb])
  |false=>
   rw[show((aO T old new)!=0)=false from by simp[aO,b2,hb]];show"w127a";exact fin 1 (by simp[tW,hb];omega)
theorem uI {A ll c_lefts:Addr} {new:Nat} {base:List AV} (hT0:TopG Γ) (hA:Arcs aa A n T rs) (hn:n≤20) (hnew:new<n) (hb:base.length≤100000) (h1:cR c_lefts ll∈aa) (h2:cI c_new new∈aa) (h3:cR c_arcs A∈aa):
 bn 1 Γ (.ref f) (gV n) (qd T new) (fun c o=>o=(f,bg (fE Γ.w.params c_new c_lefts c_arcs pm c' aq))::lL ll (base++EH c (.int new))::aa):=by
 rintro h' hs c o rfl;refine⟨aV (.head _) oV,fun hc a ha=> ?_⟩;obtain⟨old,hold,rfl⟩:=ha;have hT1:TopG (Γ.to h' 1):=hT0.to hs;refine uG hT1 (Fy 0) (.head _) fun L=> ?_;have hT:TopG (Γ.to h' 1).dn :=hT1.dn;clear hT1;refine w_BoolOp ?_;refine gK ?_;show"w127b";refine cy PySem.slot_list_append PySem.type_list_append (vs:=base++EH c (.int new)) (by show"mem") ?_;show"w127b";refine cY (vs:=base++EH c (.int new)) (.tail (.tail .head)) (by simp;have:200000≤sizeLine:=(by decide);omega) ?_;rw[EO,←Gw];refine lF ?_;refine nv ?_;show"w127b"
 have fin:∀r:Int,r=qd T new (.int old)->∃o3,Less o3 ((L,ab [nI "old" old])::(f,bg (fE Γ.w.params c_new c_lefts c_arcs pm c' aq))::lL ll (base++EH (c+1) (.int new))::aa)∧
  (AV.int r= .int (qd T new (.int old))∧o3=(f,bg (fE Γ.w.params c_new c_lefts c_arcs pm c' aq))::lL ll (base++EH (c+1) (.int new))::aa):=fun r hr=>⟨_,Less.skip Less.refl,by rw[hr],rfl⟩
 by_cases e:old=new
 ·rw[show((old:Int)==(new:Int))=true from by rw[beq_iff_eq];omega]
  show"w127b";exact fin 1 (by simp[qd,e])
 ·rw[show((old:Int)==(new:Int))=false from by rw[beq_eq_false_iff_ne];omega]
  show"w127b";obtain⟨ro,g1,g2⟩:=hA.at hnew;refine ar (vs:=rs.map AV.ref) (.tail _ (.tail _ (.tail _ hA.top))) (Er _) (by omega) (by rw[Es];exact g1) ?_;show"w127b";refine ar (vs:=bB (aO T) n new) (.tail _ (.tail _ (.tail _ g2))) (Er _) (by omega) (by rw[Es];exact bH hold) ?_;show"w127b";cases hb:T new old with
  |true=>
   rw[show((aO T new old)!=0)=true from by simp[aO,b2,hb]];show"w127b";exact fin 1 (by simp[qd,hb])
  |false=>
   rw[show((aO T new old)!=0)=false from by simp[aO,b2,hb]];show"w127b";exact fin 0 (by simp[qd,hb];omega)
theorem w3 (hT:Tour n T) (hk:k<n):bh (fun i=>decide (tW T k (.int k)<tW T k ((ae (an T k)).getD i .none))) 0 (ae (an T k)).length =bh (fun i=>T k ((an T k).getD i 0)) 0 k:=by
 rw[En,br];refine cS _ _ fun i _ hi=> ?_;have hi':i<(an T k).length :=by rw[br];exact hi
 have h1:=fY (dO T k) hi';rw[aQ hi'];generalize (an T k).getD i 0=o at*;have h2:=hT.anti o k (by omega) hk (by omega);simp only[tW,Es];cases h3:T k o<;>rw[h3]at h2<;>simp[h2]<;>omega
theorem w4:bh (fun i=> !decide (qd T k ((ae (an T k)).getD i .none)<qd T k (.int k))) 0 (ae (an T k)).length =bh (fun i=>T k ((an T k).getD i 0)) 0 k:=by
 rw[En,br];refine cS _ _ fun i _ hi=> ?_;have hi':i<(an T k).length :=by rw[br];exact hi
 have h1:=fY (dO T k) hi';rw[aQ hi'];generalize (an T k).getD i 0=o at*;have e0:¬((o:Int)=(k:Int)):=by omega
 have e1:qd T k (.int k)=1:=by simp[qd]
 have e2:qd T k (.int (o:Nat))=if T k o=true then 1 else 0:=by simp[qd,e0]
 rw[e1,e2];cases T k o<;>rfl
theorem kT (T:Nat->Nat->Bool) (k:Nat):ae (cW T k)++EH (0+1+(bh (fun i=>T k ((an T k).getD i 0)) 0 k).2) (AV.int k)=ae (cW T (k+1)):=by
 rw[nJ,cz,sg,gU,E7]
theorem mN (T:Nat->Nat->Bool) (k:Nat):bW (ae (an T k)) (bh (fun i=>T k ((an T k).getD i 0)) 0 k).1 (AV.int k)=ae (an T (k+1)):=by
 rw[gT];exact eK (f:=fun(d:Nat)=>AV.int (d:Int))
theorem cT (p:Nat->Bool) (lo hi:Nat):(bh p lo hi).2≤hi-lo:=
 i4 (C:=fun lo hi r=>r.2≤hi-lo) (fun _ _ _=>ET _) (fun lo hi r h _ a=>by show r.2+1≤_;omega) (fun lo hi r h _ a=>by show r.2+1≤_;omega) lo hi
theorem iQ (T:Nat->Nat->Bool):∀k,(cW T k).length ≤k*(k+1)
 |0=>EL _
 |k+1=>by
  have h1:=iQ T k;have h2:=cT (fun i=>T k ((an T k).getD i 0)) 0 k;have h3:gU T k≤k+1:=by unfold gU;omega
  rw[nJ,EU,FN];have h4:(k+1)*(k+1+1)=k*(k+1)+2*(k+1):=by rw[ER,←Ft]
  omega
theorem ek127:EnvOk (ah (ak p 127) f L cs):=⟨by kernel_rfl,by kernel_rfl⟩
theorem ka127:KdA (ah (ak p 127) f L cs) [("arcs",.cell),("rights",.cell),("lefts",.cell),("rows",.local),("new",.cell),("range",.globalImplicit),("len",.globalImplicit),("insort_right",.globalImplicit),("insort_left",.globalImplicit)]:=⟨by kernel_rfl,by kernel_rfl⟩
theorem uJ (p:Params):(ak p 127).body = .stmts (ay p 127):=rfl
theorem Bo:(([("rows",none)]:Loc).map (·.1)).Nodup :=by decide
theorem Bp:∀p∈([("rows",none)]:Loc),p.2=none:=bF rfl
theorem Bq {a_arcs a_rights a_lefts:AV} {K:List (Str×AV)->Led->Prop} (hT:TopG Γ) (h:K [("arcs",a_arcs),("rights",a_rights),("lefts",a_lefts)] aa):WB Γ (ak Γ.w.params 127) [a_arcs,a_rights,a_lefts] [] aa K:=by
 exact WB.p3 hT (fun _ _ _=>by kernel_rfl) .nil h
theorem uK {a_arcs a_rights a_lefts:AV} (hT:TopG Γ) (hk:0<Γ.k) (h:∀L c_new c_lefts c_rights c_arcs,WS Γ.dn (ah (ak Γ.w.params 127) 127 L [("new",c_new),("lefts",c_lefts),("rights",c_rights),("arcs",c_arcs)]) (ay Γ.w.params 127) (cN c_new::(c_lefts,h_ (some a_lefts))::(c_rights,h_ (some a_rights))::(c_arcs,h_ (some a_arcs))::(L,ab [("rows",none)])::aa) fun fl o2=>∃o3,Less o3 o2∧K fl.val o3):
 ai Γ (.ref 127) [a_arcs,a_rights,a_lefts] [] aa K:=by
 refine bA hk hT (fun s hR=>(wV _).hf hT s hR) (uJ _) Bo Bp (Bq hT.dn fun L cs hcs=> ?_) (by kernel_rfl) (by kernel_rfl);have hcs0:cs.map (·.1)=[("new":Str),("lefts":Str),("rights":Str),("arcs":Str)]:=hcs.trans (by kernel_rfl);obtain⟨c_new,cs1,e1,hcs1⟩:=au hcs0;obtain⟨c_lefts,cs2,e2,hcs2⟩:=au hcs1;obtain⟨c_rights,cs3,e3,hcs3⟩:=au hcs2;obtain⟨c_arcs,cs4,e4,hcs4⟩:=au hcs3;have e0:=af hcs4;clear hcs hcs0 hcs1 hcs2 hcs3 hcs4;subst e0;subst e4;subst e3;subst e2;subst e1;show WBinds _ (ah (ak Γ.w.params 127) 127 L [("new",c_new),("lefts",c_lefts),("rights",c_rights),("arcs",c_arcs)]) _ (cN c_new::cN c_lefts::cN c_rights::cN c_arcs::(L,ab _)::aa) _;refine st_cell (ka127.at 0 (by kernel_rfl)) cf (by show"cel") (by show"upd") ?_;refine st_cell (ka127.at 1 (by kernel_rfl)) cf (by show"cel") (by show"upd") ?_;refine st_cell (ka127.at 2 (by kernel_rfl)) cf (by show"cel") (by show"upd") ?_;exact h L c_new c_lefts c_rights c_arcs
theorem C3 {A rl ll:Addr} (hS:Std Γ) (hk:5<Γ.k) (hA:Arcs aa A n T rs) (hn:n≤20) (hTo:Tour n T) (hK:∀R r0 r1,K (.ref R) (lL r0 (ae (an T n))::lL r1 (ae (an T n))::lL R [.ref r0,.ref r1]::lL rl (ae (cW T n))::lL ll (ae (cW T n))::aa)):
 ai Γ (.ref 127) [.ref A,.ref rl,.ref ll] [] (lL rl []::lL ll []::aa) K:=by
 refine uK hS.T (by omega) fun L c_new c_lefts c_rights c_arcs=> ?_;have hS1:Std Γ.dn:=hS.dn;have hT:TopG Γ.dn:=hS1.T;have hk1:4<Γ.dn.k:=show 4<Γ.k-1 by omega
 clear hS;refine s_cons ?_;show"w127";refine⟨ac (Eo rfl),fun r0=> ?_⟩;show"w127";refine⟨ac (Eo rfl),fun r1=> ?_⟩;show"w127";refine⟨ac (Eo rfl),fun R=> ?_⟩;show"w127"
 refine oH (items:=(gP 0 n).map .one) (fun k o=>∃x,o=cO c_new x::cR c_lefts ll::cR c_rights rl::cR c_arcs A::(L,ab [nR "rows" R])::
  lL r0 (ae (an T k))::lL r1 (ae (an T k))::lL R [.ref r0,.ref r1]::lL rl (ae (cW T k))::lL ll (ae (cW T k))::aa) ?_ ?_ ?_
 ·show"w127"
  have hA':lL A (rs.map AV.ref)∈aa:=hA.top;refine eI (vs:=rs.map AV.ref) (by show"mem") (ac (by rw[En,hA.len];omega)) ?_;rw[En,hA.len];show"w127";refine bP fun r=> ?_;refine eD.less (bM (a:=0) (b:=n) (.head _) (by omega) (by omega) ⟨_,?_,⟨none,rfl⟩,fun _ _ _=>trivial⟩);show"less"
 ·rintro k J it o h' hit ⟨x,rfl⟩ hs
  have hS2:Std (Γ.dn.at h'):=hS1.at hs;have hT2:TopG (Γ.dn.at h'):=hS2.T;rw[Eu,Ew]at hit;obtain⟨av,hav,rfl⟩:=hit
  have hkn:k<n:=by
   have:=(EB.mp hav).1;rw[aG]at this;exact this
  rw[dU (by omega)]at hav;cases hav;rw[E7]
  have hla:(ae (cW T k)).length ≤100000:=by
   have h1:=iQ T k;have h2:k*(k+1)≤20*21:=FV (by omega) (by omega);rw[En];omega
  have hst:=cT (fun i=>T k ((an T k).getD i 0)) 0 k
  have hD:∀i,i<(ae (an T k)).length ->gV n ((ae (an T k)).getD i .none):=fun i hi=>by
   rw[En]at hi;exact⟨_,F4 (fY (dO T k) hi) hkn,aQ hi⟩
  have hzr:(ae (an T k)).length ≤sizeLine:=ac (by rw[En,br];omega);show WAsg _ _ _ _ _ _;show"w127";refine ar (vs:=[.ref r0,.ref r1]) (by show"mem") (by decide) (by decide) rfl ?_;show"w127";refine b7 (c:=126) (P:=122) (q:="_law_rows.<locals>.<lambda>") hT2 (hS2.mem _ (by show"mem")) (hS2.uniq (by show"mem")) (by kernel_rfl) (by kernel_rfl) (by kernel_rfl) (by kernel_rfl) (clos:=[("rights",c_rights),("new",c_new),("arcs",c_arcs)]) (by kernel_rfl) fun f pm c' aq=> ?_;show WKw _ _ _ _ ((f,bg (fD Γ.w.params c_rights c_new c_arcs pm c' aq))::_) _;show"w127";refine⟨am (pP _) hT2,?_⟩
  refine ai.sub (ao:=(f,bg (fD Γ.w.params c_rights c_new c_arcs pm c' aq))::lL rl (ae (cW T k))::lL r0 (ae (an T k))::cI c_new k::cR c_lefts ll::cR c_rights rl::cR c_arcs A::(L,ab [nR "rows" R])::
   lL r1 (ae (an T k))::lL R [.ref r0,.ref r1]::lL ll (ae (cW T k))::aa) (by show"less") ?_
  refine wX (m:=1) (c:=0) (D:=gV n) (kv:=tW T k) (vs:=ae (an T k)) hT2 (show 2<Γ.k-1 by omega) hzr hD ⟨k,hkn,rfl⟩ ?_
   (uH (f:=f) (rl:=rl) (c_rights:=c_rights) (c_new:=c_new) (c_arcs:=c_arcs) (base:=ae (cW T k)) (pm:=pm) (c':=c') (aq:=aq) (aa:=lL r0 (ae (an T k))::cI c_new k::cR c_lefts ll::cR c_rights rl::cR c_arcs A::(L,ab [nR "rows" R])::lL r1 (ae (an T k))::lL R [.ref r0,.ref r1]::lL ll (ae (cW T k))::aa)
     hT2 ((((((((((hA.cons _).cons _).cons _).cons _).cons _).cons _).cons _).cons _).cons _)) hn hkn hla (by show"mem") (by show"mem") (by show"mem")) rfl ?_ ?_ ?_
  ·rintro c o rfl;show"mem"
  ·rw[Iq,EV]
  ·rw[w3 hTo hkn];omega
  rintro o ho;rw[w3 hTo hkn]at ho⊢;rw[kT]at ho;rw[mN];subst ho;refine⟨_,.tail (.tail .head),?_⟩;show"w127";refine ar (vs:=[.ref r0,.ref r1]) (by show"mem") (by decide) (by decide) rfl ?_;show"w127";refine b7 (c:=126) (P:=122) (q:="_law_rows.<locals>.<lambda>") hT2 (hS2.mem _ (by show"mem")) (hS2.uniq (by show"mem")) (by kernel_rfl) (by kernel_rfl) (by kernel_rfl) (by kernel_rfl) (clos:=[("new",c_new),("lefts",c_lefts),("arcs",c_arcs)]) (by kernel_rfl) fun f2 pm2 c2 ctv2=> ?_;show WKw _ _ _ _ ((f2,bg (fE Γ.w.params c_new c_lefts c_arcs pm2 c2 ctv2))::_) _;show"w127";refine⟨am (pQ _) hT2,?_⟩
  refine ai.sub (ao:=(f2,bg (fE Γ.w.params c_new c_lefts c_arcs pm2 c2 ctv2))::lL ll (ae (cW T k))::lL r1 (ae (an T k))::cI c_new k::cR c_lefts ll::cR c_rights rl::cR c_arcs A::(L,ab [nR "rows" R])::
   lL r0 (ae (an T (k+1)))::lL R [.ref r0,.ref r1]::lL rl (ae (cW T (k+1)))::aa) (by show"less") ?_
  refine wY (m:=1) (c:=0) (D:=gV n) (kv:=qd T k) (vs:=ae (an T k)) hT2 (show 2<Γ.k-1 by omega) hzr hD ⟨k,hkn,rfl⟩ ?_
   (uI (f:=f2) (ll:=ll) (c_lefts:=c_lefts) (c_new:=c_new) (c_arcs:=c_arcs) (base:=ae (cW T k)) (pm:=pm2) (c':=c2) (aq:=ctv2) (aa:=lL r1 (ae (an T k))::cI c_new k::cR c_lefts ll::cR c_rights rl::cR c_arcs A::(L,ab [nR "rows" R])::lL r0 (ae (an T (k+1)))::lL R [.ref r0,.ref r1]::lL rl (ae (cW T (k+1)))::aa)
     hT2 ((((((((((hA.cons _).cons _).cons _).cons _).cons _).cons _).cons _).cons _).cons _)) hn hkn hla (by show"mem") (by show"mem") (by show"mem")) rfl ?_ ?_ ?_
  ·rintro c o rfl;show"mem"
  ·rw[Iq,EV]
  ·rw[w4];omega
  rintro o ho;rw[w4]at ho⊢;rw[kT]at ho;rw[mN];subst ho;refine⟨_,.tail (.tail .head),?_⟩;show"w127";refine⟨rfl,_,?_,some (.int k),rfl⟩;show"less"
 ·rintro o ⟨x,rfl⟩
  rw[En,aG,Fw];show"w127";refine⟨_,?_,hK R r0 r1⟩;show"less"
end
section
open PySem.SeqAt
section
theorem gJ.u (h:gJ Γ A) (hn:n≤4000):A.units+n<cLine:=by
 have:=h.2.2;show A.units+n<9900;omega
theorem dP {a b:Addr} {ns ms:List Int} (ha:lL a (aH ns)∈aa) (hb:lL b (aH ms)∈aa) (h:K (.bool (decide (ns=ms))) aa):WCmp Γ .Eq (.ref a) (.ref b) aa K:=by
 intro va vb h1 h2;cases h1;cases h2;intro A s hA hR;obtain⟨xs,n,hx,hv⟩:=bD.get hR ha;obtain⟨ys,m,hy,hw⟩:=bD.get hR hb;exact ke_eq_ints (xs:=xs.toList) (ys:=ys.toList) ⟨_,hx,rfl,n,rfl⟩ ⟨_,hy,rfl,m,rfl⟩ (eY hv) (eY hw) (hA.u (by decide)) ⟨_,aa,.val _,hR,h⟩
theorem fZ {a b:Addr} {ns ms:List Int} (ha:lL a (aH ns)∈aa) (hb:lL b (aH ms)∈aa) (h:K (.bool (!decide (ns=ms))) aa):WCmp Γ .NotEq (.ref a) (.ref b) aa K:=by
 intro va vb h1 h2;cases h1;cases h2;intro A s hA hR;obtain⟨xs,n,hx,hv⟩:=bD.get hR ha;obtain⟨ys,m,hy,hw⟩:=bD.get hR hb;exact ke_ne_ints (xs:=xs.toList) (ys:=ys.toList) ⟨_,hx,rfl,n,rfl⟩ ⟨_,hy,rfl,m,rfl⟩ (eY hv) (eY hw) (hA.u (by decide)) ⟨_,aa,.val _,hR,h⟩
theorem sh {a b:Addr} {ws:List AV} (ha:lL a vs∈aa) (hb:lL b ws∈aa) (hl:vs.length≠ws.length) (h:K (.bool true) aa):WCmp Γ .NotEq (.ref a) (.ref b) aa K:=by
 intro va vb h1 h2;cases h1;cases h2;intro A s hA hR;obtain⟨xs,n,hx,hv⟩:=bD.get hR ha;obtain⟨ys,m,hy,hw⟩:=bD.get hR hb;have e1:=hv.size;have e2:=hw.size;exact RcNeAt.lists_lengths ⟨_,hx,rfl,n,rfl⟩ ⟨_,hy,rfl,m,rfl⟩ (by rw[bne_iff_ne];omega) (hA.u (n:=0) (by decide)) _ _ _ _ ⟨_,aa,.val _,hR,h⟩
noncomputable def dh (n:Nat) (Γ:Cx) (aa:Led) (a b:AV):Prop:=∀A s,A.units+n<cLine->R Γ aa s->∀va vb,VR a va->VR b vb->EqAt A s va vb true
theorem dh.int (k:Int):dh n Γ aa (.int k) (.int k):=by
 intro A s _ _ va vb h1 h2;cases h1;cases h2;rename_i t u;have:=EqAt.int_int (A:=A) (s:=s) k t k u
 rwa [beq_self_eq_true]at this
theorem dh.str (k:Str):dh n Γ aa (.str k) (.str k):=by
 intro A s _ _ va vb h1 h2;cases h1;cases h2;rename_i t u;have:=EqAt.str_str (A:=A) (s:=s) k t k u
 rwa [beq_self_eq_true]at this
theorem dh.val (v:Value):dh n Γ aa (.val v) (.val v):=by
 intro A s _ _ va vb h1 h2;cases h1;cases h2;exact EqAt.same _
theorem si (n:Nat):(Et n).all (fun _=>true)=true:=by simp
theorem dh.each {ws:List AV} {xs ys:Array Value} (hR:R Γ aa s) (hu:A.units+n<cLine) (hv:VRs vs xs.toList) (hw:VRs ws ys.toList) (h:∀(i:Nat) (a b:AV),vs[i]? =some a->ws[i]? =some b->dh n Γ aa a b):
 ∀j (h1:j<xs.size) (h2:j<ys.size),EqAt A s xs[j] ys[j] true:=fun j h1 h2=>by
 have e1:=hv.size;have e2:=hw.size;have g1:vs[j]? =some vs[j]:=Ex (by omega);have g2:ws[j]? =some ws[j]:=Ex (by omega);obtain⟨x,hx,rx⟩:=hv.get g1;obtain⟨y,hy,ry⟩:=hw.get g2
 have hx':xs[j]=x:=by
  have:=(FO (xs:=xs)).symm.trans hx;rw[FA h1]at this;exact Option.some.inj this
 have hy':ys[j]=y:=by
  have:=(FO (xs:=ys)).symm.trans hy;rw[FA h2]at this;exact Option.some.inj this
 rw[hx',hy'];exact h j _ _ g1 g2 A s hu hR _ _ rx ry
theorem EqAt.of_rc {b:Addr} (h:RcAt A s (.ref l) (.ref b) true):EqAt A s (.ref l) (.ref b) true:=by
 by_cases e:l=b
 ·subst e;exact EqAt.same _
 ·exact EqAt.of_refs e h
theorem f9:A.in1.units=A.units+1:=rfl
theorem sj {a b:Addr} {ws:List AV} (hu:A.units+(n+1)<cLine) (hR:R Γ aa s) (ha:lL a vs∈aa) (hb:lL b ws∈aa) (hl:vs.length=ws.length) (h:∀(i:Nat) (x y:AV),vs[i]? =some x->ws[i]? =some y->dh n Γ aa x y):RcAt A s (.ref a) (.ref b) true∧RcNeAt A s (.ref a) (.ref b) false:=by
 obtain⟨xs,k,hx,hv⟩:=bD.get hR ha;obtain⟨ys,m,hy,hw⟩:=bD.get hR hb;have e1:=hv.size;have e2:=hw.size;have each:=dh.each (A:=A.in1) hR (by rw[f9];omega) hv hw h;have r1:=RcAt.lists (e:=fun _=>true) ⟨_,hx,rfl,k,rfl⟩ ⟨_,hy,rfl,m,rfl⟩ (by omega) (by omega) each;have r2:=RcNeAt.lists (e:=fun _=>true) ⟨_,hx,rfl,k,rfl⟩ ⟨_,hy,rfl,m,rfl⟩ (by omega) (by omega) each;rw[si]at r1 r2;exact⟨r1,r2⟩
theorem dh.list {a b:Addr} {ws:List AV} (ha:lL a vs∈aa) (hb:lL b ws∈aa) (hl:vs.length=ws.length) (h:∀(i:Nat) (x y:AV),vs[i]? =some x->ws[i]? =some y->dh n Γ aa x y):dh (n+1) Γ aa (.ref a) (.ref b):=by
 intro A s hu hR va vb h1 h2;cases h1;cases h2;exact EqAt.of_rc (sj hu hR ha hb hl h).1
end
end
section
theorem w_SliceAny {value:Expr} {lower upper:Option Expr} {p:Pos} (h:WE Γ env value aa (D3 Γ env lower upper K)) (hs:∀o i,subscripted (.Slice lower upper none p) false o i=operate [i,o] (getItem o i):=by intro _ _;kernel_rfl):WE Γ env (.Subscript value (.Slice lower upper none p) pos) aa K:=by
 intro A s hA hR;rw[arm_eval_Subscript];refine wpAny_bind (W.go h hA hR fun v s1 a o1 hv hR1 h1=> ?_);refine wpAny_bind (wpAny_holding (wpAny_Slice (W.go (fT h1) hA hR1 fun vl s2 lo o2 hl hR2 h2=> ?_)));refine W.go (fT h2) hA hR2 fun vu s3 hi o3 hu hR3 hz=> ?_;obtain⟨hlo,hhi,l,vs,rfl,hm,hz,hK⟩:=hz;cases hv;rw[evalPart_none];refine wpAny_pure ?_;obtain⟨items,n,ho,hvs⟩:=bD.get hR3 hm;have hL:s3.heap.IsList l items:=⟨_,ho,rfl,n,rfl⟩;have hsz:items.size≤sizeLine:=by have:=hvs.size;omega
 refine wpAny_bind (wpAny_standAt ?_);unfold getitemInPython;refine wpAny_bind (wpAny_bind (wpAny_specialOf (hL.push _).typeIs list_getitem_lookup (wpAny_pure ?_)));rw[hs];refine wpAny_bind (wpAny_operate' (wpAny_getItem_list_slice (hL.push _) (Heap.IsSliceOf.new ..) hl hu .none (by simp) ?_ hsz));have hR4:=hR3.grow (t:=s3.toks) (h':=s3.heap.push {cls:= .type "slice",data:= .fields #[vl,vu,.none]}) (fun _ _ e=>Heap.get?_push_of_some _ e)
 have hR5:=hR4.push (t:=s3.toks) (o:={cls:= .type "list",data:= .seq (slicePick items lo hi none)}) (P:=bD (sliceL vs lo hi)) ⟨_,_,rfl,by rw[iO _ _ _ hlo hhi];exact hvs.sliceL _ _⟩ km;exact wpAny_bind (wpAny_letTemporaryGo (wpAny_pure ⟨_,_,.val _,hR5,hK _⟩))
theorem wp_none {K:Option Int->Led->Prop} (h:K none aa):WPart Γ env none aa K:=h
noncomputable abbrev Ed (K:Option Int->Led->Prop) (a:AV) (o:Led):Prop:=∃k,a= .int k∧K (some k) o
theorem wp_some {e:Expr} {K:Option Int->Led->Prop} (h:WE Γ env e aa (Ed K)):WPart Γ env (some e) aa K:=h
theorem W.hide {rel:β->α->Prop} {K:β->Led->Prop} (f:∀q,K=q->W rel Γ m aa q):W rel Γ m aa K:=f K rfl
structure Cs where
 total:Addr
 top:Addr
 scores:Addr
 ranked:Addr
 pieces:Addr
 back:Addr
 below:Addr
 over:Addr
 unit:Addr
 one:Addr
 asked:Addr
 count:Addr
 arcs:Addr
noncomputable def Cs.list (C:Cs):List (Str×Addr):=[("total",C.total),("top",C.top),("scores",C.scores),("ranked",C.ranked),("pieces",C.pieces),("back",C.back),("below",C.below),("over",C.over),("unit",C.unit),("one",C.one),("asked",C.asked),("count",C.count),("arcs",C.arcs)]
noncomputable def E4 (p:Params) (L:Addr) (C:Cs):Env:=ah (ak p 144) 144 L C.list
section
theorem cf4:(E4 p L C).cells =C.list:=rfl
theorem lf4:(E4 p L C).locals =L:=rfl
theorem lk_total:C.list.lookup ("total":Str)=some C.total:=by kernel_rfl
theorem lk_top:C.list.lookup ("top":Str)=some C.top:=by kernel_rfl
theorem lk_scores:C.list.lookup ("scores":Str)=some C.scores:=by kernel_rfl
theorem lk_ranked:C.list.lookup ("ranked":Str)=some C.ranked:=by kernel_rfl
theorem lk_pieces:C.list.lookup ("pieces":Str)=some C.pieces:=by kernel_rfl
theorem lk_back:C.list.lookup ("back":Str)=some C.back:=by kernel_rfl
theorem lk_below:C.list.lookup ("below":Str)=some C.below:=by kernel_rfl
theorem lk_over:C.list.lookup ("over":Str)=some C.over:=by kernel_rfl
theorem lk_unit:C.list.lookup ("unit":Str)=some C.unit:=by kernel_rfl
theorem lk_one:C.list.lookup ("one":Str)=some C.one:=by kernel_rfl
theorem lk_asked:C.list.lookup ("asked":Str)=some C.asked:=by kernel_rfl
theorem lk_count:C.list.lookup ("count":Str)=some C.count:=by kernel_rfl
theorem lk_arcs:C.list.lookup ("arcs":Str)=some C.arcs:=by kernel_rfl
end
theorem ek144:EnvOk (E4 p L C):=⟨by kernel_rfl,by kernel_rfl⟩
theorem ka144:KdA (E4 p L C) [(("script":Str),NameKind.local),(("row":Str),NameKind.local),(("numbers":Str),NameKind.local),(("arcs":Str),NameKind.cell),(("count":Str),NameKind.cell),(("rights":Str),NameKind.local),(("lefts":Str),NameKind.local),(("rows":Str),NameKind.local),(("line":Str),NameKind.local),(("asked":Str),NameKind.cell),(("one":Str),NameKind.cell),(("wide":Str),NameKind.local),(("base":Str),NameKind.local),(("unit":Str),NameKind.cell),(("tally":Str),NameKind.local),(("turn":Str),NameKind.local),(("whole":Str),NameKind.local),(("left":Str),NameKind.local),(("behind":Str),NameKind.local),(("score":Str),NameKind.local),(("rest":Str),NameKind.local),(("over":Str),NameKind.cell),(("cuts":Str),NameKind.local),(("rings":Str),NameKind.local),(("place":Str),NameKind.local),(("key":Str),NameKind.local),(("part":Str),NameKind.local),(("plain":Str),NameKind.local),(("given":Str),NameKind.local),(("below":Str),NameKind.cell),(("groups":Str),NameKind.local),(("due":Str),NameKind.local),(("group":Str),NameKind.local),(("root":Str),NameKind.local),(("told":Str),NameKind.local),(("element":Str),NameKind.local),(("tags":Str),NameKind.local),(("ends":Str),NameKind.local),(("deeds":Str),NameKind.local),(("back":Str),NameKind.cell),(("pieces":Str),NameKind.cell),(("ranked":Str),NameKind.cell),(("scores":Str),NameKind.cell),(("top":Str),NameKind.cell),(("total":Str),NameKind.cell),(("sum":Str),NameKind.globalImplicit),(("zip":Str),NameKind.globalImplicit),(("_law_arcs":Str),NameKind.globalImplicit),(("len":Str),NameKind.globalImplicit),(("_law_rows":Str),NameKind.globalImplicit),(("sorted":Str),NameKind.globalImplicit),(("list":Str),NameKind.globalImplicit),(("range":Str),NameKind.globalImplicit),(("int_divmod":Str),NameKind.globalImplicit),(("_digits2int":Str),NameKind.globalImplicit),(("_int2digits":Str),NameKind.globalImplicit),(("insort_left":Str),NameKind.globalImplicit),(("insort_right":Str),NameKind.globalImplicit),(("min":Str),NameKind.globalImplicit),(("enumerate":Str),NameKind.globalImplicit),(("bisect_right":Str),NameKind.globalImplicit),(("bisect_left":Str),NameKind.globalImplicit),(("_law_tree":Str),NameKind.globalImplicit),(("_serialize_text":Str),NameKind.globalImplicit)]:=⟨by kernel_rfl,by kernel_rfl⟩
theorem uL (p:Params):(ak p 144).body = .stmts (ay p 144):=rfl
theorem Br:(([("script",none),("row",none),("numbers",none),("rights",none),("lefts",none),("rows",none),("line",none),("wide",none),("base",none),("tally",none),("turn",none),("whole",none),("left",none),("behind",none),("score",none),("rest",none),("cuts",none),("rings",none),("place",none),("key",none),("part",none),("plain",none),("given",none),("groups",none),("due",none),("group",none),("root",none),("told",none),("element",none),("tags",none),("ends",none),("deeds",none)]:Loc).map (·.1)).Nodup :=by decide
theorem Bs:∀p∈([("script",none),("row",none),("numbers",none),("rights",none),("lefts",none),("rows",none),("line",none),("wide",none),("base",none),("tally",none),("turn",none),("whole",none),("left",none),("behind",none),("score",none),("rest",none),("cuts",none),("rings",none),("place",none),("key",none),("part",none),("plain",none),("given",none),("groups",none),("due",none),("group",none),("root",none),("told",none),("element",none),("tags",none),("ends",none),("deeds",none)]:Loc),p.2=none:=bF rfl
theorem Bt {a_script:AV} {K:List (Str×AV)->Led->Prop} (hT:TopG Γ) (h:K [("script",a_script)] aa):WB Γ (ak Γ.w.params 144) [a_script] [] aa K:=by
 exact WB.p1 hT (fun _=>by kernel_rfl) .nil h
theorem uM (h:cs.map (·.1)=[("total":Str),("top":Str),("scores":Str),("ranked":Str),("pieces":Str),("back":Str),("below":Str),("over":Str),("unit":Str),("one":Str),("asked":Str),("count":Str),("arcs":Str)]):∃C:Cs,cs=C.list:=by
 obtain⟨c1,s1,e1,h1⟩:=au h;obtain⟨c2,s2,e2,h2⟩:=au h1;obtain⟨c3,s3,e3,h3⟩:=au h2;obtain⟨c4,s4,e4,h4⟩:=au h3;obtain⟨c5,s5,e5,h5⟩:=au h4;obtain⟨c6,s6,e6,h6⟩:=au h5;obtain⟨c7,s7,e7,h7⟩:=au h6;obtain⟨c8,s8,e8,h8⟩:=au h7;obtain⟨c9,s9,e9,h9⟩:=au h8;obtain⟨c10,s10,e10,h10⟩:=au h9;obtain⟨c11,s11,e11,h11⟩:=au h10;obtain⟨c12,s12,e12,h12⟩:=au h11;obtain⟨c13,s13,e13,h13⟩:=au h12;exact⟨⟨c1,c2,c3,c4,c5,c6,c7,c8,c9,c10,c11,c12,c13⟩,by rw[e1,e2,e3,e4,e5,e6,e7,e8,e9,e10,e11,e12,e13,af h13];rfl⟩
noncomputable def aY (p:Params) (k:Nat):Stmt:=(ay p 144)[k]?.getD (.Pass default)
end
section
theorem im (ns:List Int) (k:Nat):sliceL (aH ns) none (some (k:Int))=aH (ns.take k):=by
 show(aH ns).take (k:Int).toNat =_;rw[Es];exact(Hu ..).symm
theorem nK (ns:List Int) (j k:Nat):sliceL (aH ns) (some (j:Int)) (some (k:Int))=aH ((ns.take k).drop j):=by
 show((aH ns).take (k:Int).toNat).drop (j:Int).toNat =_;rw[Es,Es,aH,aH,Hv,Hu]
theorem jv (a b:List Int):aH a++aH b=aH (a++b):=(Ez ..).symm
theorem sk {as bs:List Int} (h:(cB (aH as) (aH bs))[i]? =some it):∃x y:Int,it= .tup [.int x,.int y]∧as[i]? =some x∧bs[i]? =some y:=by
 unfold cB at h;rw[Eu,Ew]at h;obtain⟨p,hp,rfl⟩:=h;obtain⟨h1,h2⟩:=G7.mp hp;unfold aH at h1 h2;rw[Eu,Ew]at h1 h2;obtain⟨x,hx,e1⟩:=h1;obtain⟨y,hy,e2⟩:=h2;exact⟨x,y,by rw[←e1,←e2],hx,hy⟩
theorem gW (vs ws:List AV):(cB vs ws).length =min vs.length ws.length:=by unfold cB;rw[En,HR]
theorem db (ns:List Int):(aH ns).length =ns.length:=En ..
noncomputable def jw (p:Params):Scope:=bS p 144 [1,0,0]
theorem x8 (p:Params):(jw p).kind = .function :=by kernel_rfl
theorem x9 (p:Params):∀x∈(jw p).names,x.2= .local ->(jw p).names.lookup x.1=some .local :=aJ (by kernel_rfl)
theorem ka144a {L144a:Addr} {c144a:List (Str×Addr)}:KdA (aM (jw p) (E4 p L C) L144a c144a) [("start",.local),("step",.local)]:=⟨by kernel_rfl,by kernel_rfl⟩
section
variable {RL:Loc}
theorem x_ {rl:Addr} {rr:List Int} (hT:TopG Γ) (hz:rr.length≤60) (hm:lL rl (aH rr)∈aa):
 WX Γ (E4 Γ.w.params L C) (aY Γ.w.params 1) ((L,ab (nR "row" rl::("numbers",u_numbers)::RL))::aa) fun f o=>f= .next ∧∃nl ns,5≤ns.length∧ns.length≤8∧Less ((L,ab (nR "row" rl::nR "numbers" nl::RL))::lL nl (aH ns)::aa) o:=by
 refine W.hide fun q0 hq0=> ?_;have hz2:(aH rr).length ≤sizeLine:=ac (by rw[En];omega);refine x_Assign_Name ?_;show"w144@M35";refine aL (cl:=[]) (loc:=[("start",none),("step",none)]) (by kernel_rfl) (x8 Γ.w.params) (x9 Γ.w.params) (by decide) (by simp) ?_;unfold bC;show"w144@M35";refine⟨ac (Eo rfl),fun t=> ?_⟩;show"w144@M35";refine⟨trivial,(by decide:(0:Int)≤5),rl,aH rr,rfl,by show"mem",hz2,fun r2=> ?_⟩;rw[show sliceL (aH rr) none (some 5)=aH (rr.take 5)from im rr 5];show"w144@M35";refine⟨ac (Eo rfl),fun z=> ?_⟩;show"w144@M35";refine ii (k:=5) (.head _) (by decide) (by decide) fun z5=> ?_;rw[xG,show EH 5 (AV.int 0)=aH (EH 5 0)from rfl];refine bt (vs:=aH (rr.take 5)) (ws:=aH (EH 5 0)) (by show"mem") (by show"mem") (ac (by rw[db,db,EJ,FN];omega)) fun sl=> ?_;rw[jv];show"w144@M35";refine sb .T .L (vs:=aH [26,28,24,16,0]) (ws:=aH (rr.take 5++EH 5 0)) (by show(_,bV _)∈_;show"mem") (by show lL _ _∈_;show"mem") fun zz TI TO i1 i2=> ?_;refine⟨_,eD.less (nG .T .L (vs:=aH [26,28,24,16,0]) (ws:=aH (rr.take 5++EH 5 0)) (by show(_,bV _)∈_;show"mem") (by show lL _ _∈_;show"mem") ⟨lL sl (aH (rr.take 5++EH 5 0))::(t,bV (aH [26,28,24,16,0]))::(L,ab (nR "row" rl::("numbers",u_numbers)::RL))::aa,?_,?_⟩)⟩
 ·show"less"
 intro acc L2 cs2 hcs2;rw[af (cs:=cs2) hcs2];show aR _ _ 0 acc (aM (jw Γ.w.params) (E4 Γ.w.params L C) L2 []) _ _ _ ((L2,ab [("start",none),("step",none)])::lL acc []::(sl,_)::(t,_)::_) _;refine aB (fun i o=>∃x y ys,ys.length=i∧o=(L2,ab [("start",x),("step",y)])::lL acc (aH ys)::lL sl (aH (rr.take 5++EH 5 0))::(t,bV (aH [26,28,24,16,0]))::(L,ab (nR "row" rl::("numbers",u_numbers)::RL))::aa) rfl rfl ⟨none,none,[],rfl,rfl⟩ ?_ ?_ ?_
 ·rintro i o ⟨x,y,ys,_,rfl⟩
  exact⟨by show(_,bV _)∈_;show"mem",by show lL _ _∈_;show"mem"⟩
 ·rintro i J it o h' hit ⟨x,y,ys,hys,rfl⟩ hs
  have hi:i<5:=by
   have h1:=(EB.mp hit).1;rw[gW]at h1;exact Ev h1 (Gl _ _)
  obtain⟨p,q,rfl,_,_⟩:=sk hit;intro tt;refine aI (.head _) rfl ?_;show"w144a";refine⟨aH ys,_,_,.tail (.tail .head),ac (by rw[db];omega),Less.skip Less.refl,some (.int p),some (.int q),ys++[p+q],by simp[hys],?_⟩;rw[←jv ys];rfl
 ·rintro o ⟨x,y,ys,hys,rfl⟩
  have hys5:ys.length=5:=by
   rw[hys,gW,db,db,EU,FN,EJ];show min 5 _=5;omega
  refine⟨lL acc (aH ys)::lL sl (aH (rr.take 5++EH 5 0))::(t,bV (aH [26,28,24,16,0]))::(L,ab (nR "row" rl::("numbers",u_numbers)::RL))::aa,[("start",x),("step",y)],Less.refl,?_⟩;show"w144@M35";refine⟨(by decide:(0:Int)≤5),(by decide:(0:Int)≤8),rl,aH rr,rfl,by show"mem",hz2,fun r8=> ?_⟩;rw[show sliceL (aH rr) (some 5) (some 8)=aH ((rr.take 8).drop 5)from nK rr 5 8];have hl8:((rr.take 8).drop 5).length ≤3:=by rw[Fp,EJ];omega
  refine bt (vs:=aH ys) (ws:=aH ((rr.take 8).drop 5)) (by show"mem") (by show"mem") (ac (by rw[db,db];omega)) fun nl=> ?_;rw[jv];show"w144@M35";subst hq0;refine⟨rfl,nl,ys++(rr.take 8).drop 5,?_,?_,?_⟩
  rotate_left 2
  ·show"less"
  ·rw[EU];omega
  ·rw[EU];omega
theorem ya {nl:Addr} {ns:List Int} (hT:TopG Γ) (hk:2<Γ.k) (hn:ns.length≤20) (hm:lL nl (aH ns)∈aa):
 WX Γ (E4 Γ.w.params L C) (aY Γ.w.params 2) (cO C.count u_count::cO C.arcs u_arcs::(L,ab (nR "numbers" nl::("rights",u_rights)::("lefts",u_lefts)::RL))::aa) fun f o=>f= .next ∧∃A rl ll rs T,rs.length=ns.length∧Tour ns.length T∧Less (cI C.count ns.length::cR C.arcs A::(L,ab (nR "numbers" nl::nR "rights" rl::nR "lefts" ll::RL))::lL rl []::lL ll []::lL A (rs.map AV.ref)::(aZ (aO T) ns.length 0 rs++aa)) o:=by
 refine W.hide fun q0 hq0=> ?_;refine bO ?_;show"w144@M35";refine⟨am (wU _) hT,?_⟩;refine ai.frame (F:=cO C.count u_count::cO C.arcs u_arcs::(L,ab (nR "numbers" nl::("rights",u_rights)::("lefts",u_lefts)::RL))::[]) (pre:=aa) (by repeat (first|exact eV|apply c_ AR|apply c_ ee)) Less.refl fun h' hs'=> ?_;refine C2 (hT.at hs') (show 1<Γ.k by omega) hm hn fun A rs T hrs hTo=> ?_;simp only[EX,Ff];show"w144@M35";refine eI (vs:=aH ns) (by repeat (first|exact EC _ hm|apply List.Mem.tail)) (ac (by rw[db];omega)) ?_;rw[db];show"w144@M35";refine⟨ac (Eo rfl),fun rl=> ?_⟩;show"w144@M35";refine⟨ac (Eo rfl),fun ll=> ?_⟩;show"w144@M35";refine⟨ac (Eo rfl),fun t=> ?_⟩;refine aI (.head _) rfl ?_;show"w144@M35";subst hq0;refine⟨by trivial,A,rl,ll,rs,T,hrs,hTo,?_⟩;show"less"
theorem yb {A rl ll:Addr} (hS:Std Γ) (hk:6<Γ.k) (hn:n≤20) (hA:Arcs aa A n T rs) (hTo:Tour n T):
 WX Γ (E4 Γ.w.params L C) (aY Γ.w.params 3) (cR C.arcs A::(L,ab (nR "rights" rl::nR "lefts" ll::("rows",u_rows)::RL))::lL rl []::lL ll []::aa) fun f o=>f= .next ∧∃R r0 r1,Less (cR C.arcs A::(L,ab (nR "rights" rl::nR "lefts" ll::nR "rows" R::RL))::lL r0 (ae (an T n))::lL r1 (ae (an T n))::lL R [.ref r0,.ref r1]::lL rl (ae (cW T n))::lL ll (ae (cW T n))::aa) o:=by
 refine W.hide fun q0 hq0=> ?_;have hT:TopG Γ:=hS.T;refine x_Assign_Name ?_;show"w144@M35";refine⟨am (wV _) hT,?_⟩;refine ai.frame (F:=cR C.arcs A::(L,ab (nR "rights" rl::nR "lefts" ll::("rows",u_rows)::RL))::[]) (pre:=lL rl []::lL ll []::aa) (by repeat (first|exact eV|apply c_ AR|apply c_ ee)) Less.refl fun h' hs'=> ?_;refine C3 (hS.at hs') (show 5<Γ.k by omega) hA hn hTo fun R r0 r1=> ?_;simp only[EX,Ff];show"w144@M35";subst hq0;exact⟨by trivial,R,r0,r1,Less.refl⟩
end
end
section
theorem dX (p:Nat->Bool) (lo hi:Nat):lo≤hi->((bh p lo hi).1=lo∨p ((bh p lo hi).1-1)=false)∧((bh p lo hi).1=hi∨p (bh p lo hi).1=true):=
 i4 (C:=fun lo hi r=>lo≤hi->(r.1=lo∨p (r.1-1)=false)∧(r.1=hi∨p r.1=true)) (fun lo hi h h'=>⟨.inl rfl,.inl (Ga h' (HJ h))⟩)
  (fun lo hi r h hp ih _=>have a:=ih (by omega);⟨a.1,.inr (a.2.elim (fun e=>(congrArg p e).trans hp) id)⟩)
  (fun lo hi r h hp ih _=>have a:=ih (by omega);⟨.inr (a.1.elim (fun e=>(congrArg (fun x=>p (x-1)) e).trans hp) id),a.2⟩) lo hi
theorem jx {l:List α} {v d:α} (hk:k≤l.length):(bW l k v).getD i d=if i<k then l.getD i d else if i=k then v else l.getD (i-1) d:=by
 unfold bW;have hl:(l.take k).length =k:=by rw[EJ];omega
 rw[Ey,Ey,Ey,List.getElem?_append,hl];by_cases h1:i<k
 ·rw[if_pos h1,if_pos h1,GK,if_pos h1]
 ·rw[if_neg h1,if_neg h1]
  by_cases h2:i=k
  ·subst h2;rw[if_pos rfl,H5];rfl
  ·rw[if_neg h2]
   obtain⟨m,rfl⟩:∃m,i=k+m+1:=⟨i-k-1,by omega⟩;rw[show k+m+1-k=m+1 from by omega,List.getElem?_cons_succ,Gj,E9]
theorem qe (hT:Tour n T):∀k,k≤n->∀i,i+1<k->T ((an T k).getD i 0) ((an T k).getD (i+1) 0)=true:=fun z_=>by
 induction z_ with
 |zero=>intro _ i h;omega
 |succ k ih=>
  intro hk i hi;have ih:=ih (by omega);have hlen:=br T k;have hr:=(bE (fun i=>T k ((an T k).getD i 0)) 0 k (ET _)).2;have he:=dX (fun i=>T k ((an T k).getD i 0)) 0 k (ET _);rw[gT];generalize (bh (fun i=>T k ((an T k).getD i 0)) 0 k).1=q at*;rw[jx (by omega),jx (by omega)];have hlt:∀j,j<k->(an T k).getD j 0<k:=fun j hj=>fY (dO T k) (by omega);by_cases h1:i+1<q
  ·rw[if_pos (by omega),if_pos h1];exact ih i (by omega)
  by_cases h2:i+1=q
  ·rw[if_pos (by omega),if_neg h1,if_pos h2]
   rcases he.1 with h|h
   ·omega
   ·have h3:=hlt i (by omega)
    have h4:T k ((an T k).getD i 0)=false:=by rw[←h2]at h;exact h
    rw[hT.anti _ _ (by omega) (by omega) (by omega),h4];rfl
  by_cases h3:i=q
  ·rw[if_neg (by omega),if_pos h3,if_neg h1,if_neg h2]
   rcases he.2 with h|h
   ·omega
   ·rw[h3,E9];exact h
  ·rw[if_neg (by omega),if_neg h3,if_neg h1,if_neg h2,E9]
   have:=ih (i-1) (by omega);rw[show i-1+1=i from by omega]at this;exact this
theorem sn (p:Nat->Bool) (m lo hi:Nat) (h:hi-lo<2^m):(bh p lo hi).2≤m:=by
 induction m generalizing lo hi with
 |zero=>
  rw[cb,if_neg (lB (E_ h))];exact EL _
 |succ m ih=>
  rw[cb];by_cases hlt:lo<hi
  ·rw[if_pos hlt]
   rw[Hy]at h;cases p ((lo+hi)/2)with
   |true=>exact F7 (ih lo ((lo+hi)/2) (by omega))
   |false=>exact F7 (ih ((lo+hi)/2+1) hi (by omega))
  ·rw[if_neg hlt]
   exact ET _
theorem so (T:Nat->Nat->Bool) (k:Nat):gU T k≤1+Builtin.Int.intBits (k:Int):=by
 unfold gU;have:=sn (fun i=>T k ((an T k).getD i 0)) (Builtin.Int.intBits (k:Int)) 0 k (by rw[Fw];exact fW k);omega
theorem nL (T:Nat->Nat->Bool) (k:Nat):∀n,(cW T n).count k=if k<n then gU T k else 0:=fun z_=>by
 induction z_ with
 |zero=>simp[xT]
 |succ n ih=>
  rw[nJ,List.count_append,ih,List.count_replicate];by_cases h:n=k
  ·subst h;simp
  ·rw[show(n==k)=false from by rw[beq_eq_false_iff_ne];exact h,if_neg E6]
   by_cases h2:k<n
   ·rw[if_pos h2,if_pos (by omega)];omega
   ·rw[if_neg h2,if_neg (by omega)]
theorem oW {r:α->α->Prop} (hr:∀a b,r a b->r b a->a=b):∀{a b:List α},a.Perm b->a.Pairwise r->b.Pairwise r->a=b:=by
 intro a;induction a with
 |nil=>exact fun p _ _=>(List.nil_perm.mp p).symm
 |cons x a ih=>
  intro b p ha hb;cases b with
  |nil=>exact List.perm_nil.mp p
  |cons y b=>
   obtain⟨h1,h2⟩:=G5.mp ha;obtain⟨h3,h4⟩:=G5.mp hb;have e:x=y:=(EG.mp (p.mem_iff.mp (.head _))).elim id fun m1=>(EG.mp (p.mem_iff.mpr (.head _))).elim Eq.symm fun m2=>hr _ _ (h1 _ m2) (h3 _ m1);subst e;rw[ih ((List.perm_cons x).mp p) h2 h4]
theorem gn {a b:List Int}:a.Perm b->a.Pairwise (·≤·)->b.Pairwise (·≤·)->a=b:=oW fun _ _=>Int.le_antisymm
theorem lS (n:Nat):((Et n).map fun(i:Nat)=>(i:Int)).Pairwise (·≤·):=by
 rw[G8];exact List.pairwise_lt_range.imp fun h=>by omega
end
section
noncomputable abbrev ci (l:List Nat):List Int:=l.map fun(d:Nat)=>(d:Int)
theorem bo (l:List Nat):ae l=aH (ci l):=(FC ..).symm
theorem sr (l:List Nat) (k:Nat):(ci l).count (k:Int)=l.count k:=by
 induction l with
 |nil=>rfl
 |cons a l ih=>
  rw[ci,EQ,HS,HS]
  have:(((a:Int)==(k:Int))=(a==k)):=by
   by_cases h:a=k
   ·subst h;simp
   ·rw[beq_eq_false_iff_ne.mpr h,beq_eq_false_iff_ne];omega
  rw[this,←ih]
theorem io (l:List Nat) (k:Nat):sliceL (ae l) (some (k:Int)) none=ae (l.drop k):=by
 show(ae l).drop (k:Int).toNat =_;rw[Es];exact(Hv ..).symm
theorem aj (l:List Nat):(ae l).length =l.length:=En ..
theorem su {as bs:List Nat} (h:(cB (ae as) (ae bs))[i]? =some it):∃x y:Nat,it= .tup [.int x,.int y]∧as[i]? =some x∧bs[i]? =some y:=by
 unfold cB at h;rw[Eu,Ew]at h;obtain⟨p,hp,rfl⟩:=h;obtain⟨h1,h2⟩:=G7.mp hp;unfold ae at h1 h2;rw[Eu,Ew]at h1 h2;obtain⟨x,hx,e1⟩:=h1;obtain⟨y,hy,e2⟩:=h2;exact⟨x,y,by rw[←e1,←e2],hx,hy⟩
theorem jy {a b:Addr} (ha:lL a []∈aa) (hb:lL b []∈aa) (h:K (.bool false) aa):WCmp Γ .NotEq (.ref a) (.ref b) aa K:=fZ (ns:=[]) (ms:=[]) ha hb h
theorem oX {l:List Nat} (h:l[i]? =some x):l.getD i 0=x:=by rw[Ey,h];rfl
theorem dp {target iter:Expr} {K:AF->Led->Prop} (h:WE Γ env iter aa fun a o1=>∃items,eD Γ target a o1 items fun need o2=>∃Inv:Nat->Led->Prop,Inv 0 o2∧(∀i o,Inv i o->need o)∧
 (∀i,let J:=Inv (i+1);∀it o h',items[i]? =some it->Inv i o->Sub Γ h'->ft it o (xd (Γ.at h') env target body J))∧∀o,Inv items.length o->K .next o) (hs:∀x,foldedSetIterable iter env x=pure x:=by intro _;kernel_rfl):
 WX Γ env (.For target iter body [] pos) aa K:=by
 intro A s hA hR;refine wpAny_For (W.go h hA hR fun v s1 a o1 hv hR1 hz=> ?_) hs;obtain⟨items,h1⟩:=hz;refine eD.go h1 hv hA hR1 fun itv s2 need fp J o2 hI hR2 hJ hap hz=> ?_;obtain⟨Inv,hi0,hneed,hbody,hK⟩:=hz;refine eH (fun n s'=>∃i o,n=items.length-i∧i≤items.length∧R Γ o s'∧J i s'.heap∧Apart Γ o fp s'.heap∧Inv i o) ?_ (items.length-0) ⟨0,o2,rfl,ET _,hR2,hJ,hap,hi0⟩;rintro n s3 ⟨i,o,rfl,hle,hR3,hJ3,hap3,hinv⟩;cases hit:items[i]? with
 |none=>
  refine dJ (hI.stop A s3 i o _ hA hR3 (hneed i o hinv) hap3 hJ3 hit fun s4 hR4=> ?_);have:i=items.length:=Ga hle (by simpa using hit);subst this;exact wpAny_execs_nil ⟨_,o,.next,hR4,hK _ hinv⟩
 |some it=>
  have hlt:i<items.length:=(EB.mp hit).1
  refine dJ (wpAny_mono (hI.item A s3 i it o (fun v' s4=>∃o',ItemIs o it v' o'∧R Γ o' s4∧J (i+1) s4.heap∧Apart Γ o' fp s4.heap) hA hR3 (hneed i o hinv) hap3 hJ3 hit
   fun v' o' s4 h1 h2 h3 h4=>⟨o',h1,h2,h3,h4⟩) ?_ fun _ _ x=>x)
  rintro _ s4' ⟨v',rfl,hw⟩;refine dJ (wpAny_mono hw ?_ fun _ _ x=>x);rintro _ s4 ⟨o',hit',hR4,hJ4,hap4⟩;obtain⟨a',ha',hb⟩:=ft.of hit' (hbody i it o (rest Γ o' s4) hit hinv hR4.sub_rest);refine dJ (W.go (hb v' ha') hA hR4.rest fun _ s5 _ o4 _ hR5 h5=> ?_);refine dJ (W.go h5 hA hR5 fun fl s6 fl' o5 hfl hR6 hz=> ?_);obtain⟨rfl,o6,hs6,hinv6⟩:=hz;cases hfl;obtain⟨hap6,hk6⟩:=Apart.after hap4 hR6;exact⟨items.length-(i+1),by omega,i+1,o6,rfl,hlt,(hR6.back hR4.sub_rest).sub hs6,hI.frame _ _ _ hJ4 hk6,hap6.sub hs6,hinv6⟩
noncomputable def oY (p:Params) (k:Nat):Stmt:=(Nd.s (aY p 4)).at (2+k)
noncomputable def jz (p:Params):Scope:=bS p 144 [4,2,0,1,0]
theorem yc (p:Params):(jz p).kind = .function :=by kernel_rfl
theorem yd (p:Params):∀x∈(jz p).names,x.2= .local ->(jz p).names.lookup x.1=some .local :=aJ (by kernel_rfl)
theorem ka144b {L144b:Addr} {c144b:List (Str×Addr)}:KdA (aM (jz p) (E4 p L C) L144b c144b) [("one",.local),("other",.local),("arcs",.cell)]:=⟨by kernel_rfl,by kernel_rfl⟩
noncomputable def jA (p:Params):Scope:=bS p 144 [4,3,0,0]
theorem ye (p:Params):(jA p).kind = .function :=by kernel_rfl
theorem yf (p:Params):∀x∈(jA p).names,x.2= .local ->(jA p).names.lookup x.1=some .local :=aJ (by kernel_rfl)
theorem ka144c {L144c:Addr} {c144c:List (Str×Addr)}:KdA (aM (jA p) (E4 p L C) L144c c144c) [("k",.local),("asked",.cell)]:=⟨by kernel_rfl,by kernel_rfl⟩
section
variable {RL:Loc}
theorem uN {A r q:Addr} (hT:TopG Γ) (hn:n≤20) (hA:Arcs aa A n T rs) (hTo:Tour n T) (hr:lL r (ae (an T n))∈aa) (hq:lL q (ae (cW T n))∈aa):
 WS Γ (E4 Γ.w.params L C) [oY Γ.w.params 0,oY Γ.w.params 1] (cR C.asked q::cI C.count n::cR C.arcs A::(L,ab (("rights",u_rights)::("lefts",u_lefts)::("rows",u_rows)::nR "line" r::RL))::aa) fun f o=>f= .next ∧Less (cR C.asked q::cI C.count n::cR C.arcs A::(L,ab (("rights",u_rights)::("lefts",u_lefts)::("rows",u_rows)::nR "line" r::RL))::aa) o:=by
 have hlen:=br T n;have hr2:lL r (aH (ci (an T n)))∈aa:=bo _▸hr;have hq2:lL q (aH (ci (cW T n)))∈aa:=bo _▸hq;have hz:(ae (an T n)).length ≤sizeLine:=ac (by rw[aj,hlen];omega);refine bv (fun o=>Less (cR C.asked q::cI C.count n::cR C.arcs A::(L,ab (("rights",u_rights)::("lefts",u_lefts)::("rows",u_rows)::nR "line" r::RL))::aa) o) ?_ ?_
 ·refine x_If ?_
  refine t_BoolOp ?_;refine t_Or_cons ?_;show"w144@M36";refine mK (ns:=ci (an T n)) (by show"mem") (by rw[En,hlen];omega) fun l1 ns' hp hs=> ?_;show"w144@M36";refine bP fun r1=> ?_;show"w144@M36";refine mL (b:=n) (by show"mem") (by omega) fun l2=> ?_;show"w144@M36";have he:ns'=(Et n).map fun(i:Nat)=>(i:Int):=gn (hp.trans ((fz T n).map _)) hs (lS n);subst he;refine fZ (ns:=(Et n).map fun(i:Nat)=>(i:Int)) (ms:=(Et n).map fun(i:Nat)=>(i:Int)) (by show"mem") (by show"mem") ?_;rw[decide_eq_true rfl,GT];refine wtr_bool ?_;refine if_f ?_;refine W.sub (ao:=cR C.asked q::cI C.count n::cR C.arcs A::(L,ab (("rights",u_rights)::("lefts",u_lefts)::("rows",u_rows)::nR "line" r::RL))::aa) (by show"less") ?_;show"w144@M36";refine aL (cl:=[("arcs",C.arcs)]) (loc:=[("one",none),("other",none)]) (by kernel_rfl) (yc Γ.w.params) (yd Γ.w.params) (by decide) (by simp) ?_;unfold bC;show"w144@M36";refine⟨(by decide:(0:Int)≤1),trivial,r,ae (an T n),rfl,by show"mem",hz,fun r2=> ?_⟩;rw[show sliceL (ae (an T n)) (some 1) none=ae ((an T n).drop 1)from io _ 1];show"w144@M36";refine sb .L .L (vs:=ae (an T n)) (ws:=ae ((an T n).drop 1)) (by show lL _ _∈_;show"mem") (by show lL _ _∈_;show"mem") fun zz TI TO i1 i2=> ?_;refine⟨_,nG .L .L (vs:=ae (an T n)) (ws:=ae ((an T n).drop 1)) (by show lL _ _∈_;show"mem") (by show lL _ _∈_;show"mem") ?_⟩;intro acc L2 cs2 hcs2;rw[af (cs:=cs2) hcs2];show aR _ _ 0 acc (aM (jz Γ.w.params) (E4 Γ.w.params L C) L2 [("arcs",C.arcs)]) _ _ _ ((L2,ab [("one",none),("other",none)])::lL acc []::(r2,_)::cR C.asked q::cI C.count n::cR C.arcs A::(L,ab (("rights",u_rights)::("lefts",u_lefts)::("rows",u_rows)::nR "line" r::RL))::aa) _;refine aB (fun i o=>∃x y,o=(L2,ab [("one",x),("other",y)])::lL acc []::lL r2 (ae ((an T n).drop 1))::cR C.asked q::cI C.count n::cR C.arcs A::(L,ab (("rights",u_rights)::("lefts",u_lefts)::("rows",u_rows)::nR "line" r::RL))::aa) rfl rfl ⟨none,none,rfl⟩ ?_ ?_ ?_
  ·rintro i o ⟨x,y,rfl⟩
   exact⟨by show lL _ _∈_;show"mem",by show lL _ _∈_;show"mem"⟩
  ·rintro i J it o h' hit ⟨x,y,rfl⟩ hs
   obtain⟨p,q',rfl,hp,hq'⟩:=su hit;rw[Gj,Fd]at hq'
   have hi1:i+1<n:=by
    have:=(EB.mp hq').1;omega
   have hch:=qe hTo n (EL _) i hi1;rw[oX hp,oX hq']at hch;have hpn:=dO T n _ (EF hp);have hqn:=dO T n _ (EF hq');obtain⟨ro,g1,g2⟩:=hA.at hpn;have hAt:=hA.top;intro tt;refine aI (.head _) rfl ?_;show"w144b";refine ar (vs:=rs.map AV.ref) (by show"mem") (Er _) (by omega) (by rw[Es];exact g1) ?_;show"w144b";refine ar (vs:=bB (aO T) n p) (by show"mem") (Er _) (by omega) (by rw[Es];exact bH hqn) ?_;show"w144b";rw[show(!((aO T p q')!=0))=false from by simp[aO,b2,hch]];exact⟨_,Less.skip Less.refl,_,_,rfl⟩
  ·rintro o ⟨x,y,rfl⟩
   refine⟨lL acc []::cR C.asked q::cI C.count n::cR C.arcs A::(L,ab (("rights",u_rights)::("lefts",u_lefts)::("rows",u_rows)::nR "line" r::RL))::aa,[("one",x),("other",y)],by show"less",?_⟩;show"w144@M36";refine⟨ac (Eo rfl),fun e=> ?_⟩;show"w144@M36";refine jy (.tail _ (.head _)) (.head _) ?_;show"w144@M36";refine⟨rfl,?_⟩;show"less"
 ·intro o ho
  refine W.sub ho ?_;refine s_cons ?_;refine x_If ?_;refine t_Compare ?_;refine aL (cl:=[("asked",C.asked)]) (loc:=[("k",none)]) (by kernel_rfl) (ye Γ.w.params) (yf Γ.w.params) (by decide) (by simp) ?_;unfold bC;show"w144@M36";refine bP fun rg=> ?_;refine⟨_,eD.less (bM (a:=0) (b:=n) (.head _) (by omega) (by omega) ⟨cR C.asked q::cI C.count n::cR C.arcs A::(L,ab (("rights",u_rights)::("lefts",u_lefts)::("rows",u_rows)::nR "line" r::RL))::aa,Less.skip Less.refl,?_⟩)⟩;intro acc L2 cs2 hcs2;rw[af (cs:=cs2) hcs2];show aR _ _ 0 acc (aM (jA Γ.w.params) (E4 Γ.w.params L C) L2 [("asked",C.asked)]) _ _ _ ((L2,ab [("k",none)])::lL acc []::cR C.asked q::cI C.count n::cR C.arcs A::(L,ab (("rights",u_rights)::("lefts",u_lefts)::("rows",u_rows)::nR "line" r::RL))::aa) _;refine aB (fun i o=>∃x,o=(L2,ab [("k",x)])::lL acc []::cR C.asked q::cI C.count n::cR C.arcs A::(L,ab (("rights",u_rights)::("lefts",u_lefts)::("rows",u_rows)::nR "line" r::RL))::aa) rfl rfl ⟨none,rfl⟩ (fun _ _ _=>trivial) ?_ ?_
  ·rintro k J it o h' hit ⟨x,rfl⟩ hs
   rw[Eu,Ew]at hit;obtain⟨av,hav,rfl⟩:=hit
   have hkn:k<n-0:=by
    have:=(EB.mp hav).1;rw[aG]at this;exact this
   rw[dU hkn,E7]at hav;cases hav;show WAsg _ _ _ _ _ _;show"w144c";refine cy PySem.F.slot_list_count PySem.F.type_list_count (vs:=aH (ci (cW T n))) (by show"mem") ?_;show"w144c";refine Mine.Internal.c_count (ns:=ci (cW T n)) (by show"mem") ?_;rw[sr,nL,if_pos (by omega)];show"w144c";refine jm ?_;show"w144c";refine jn ?_;show"w144c";have hb:=so T k;rw[show decide (1+(Builtin.Int.intBits (k:Int):Int)<((gU T k:Nat):Int))=false from decide_eq_false (by omega)];show"w144c";exact⟨_,Less.refl,_,rfl⟩
  ·rintro o ⟨x,rfl⟩
   refine⟨lL acc []::cR C.asked q::cI C.count n::cR C.arcs A::(L,ab (("rights",u_rights)::("lefts",u_lefts)::("rows",u_rows)::nR "line" r::RL))::aa,[("k",x)],by show"less",?_⟩;show"w144@M36";refine⟨ac (Eo rfl),fun e=> ?_⟩;show"w144@M36";refine jy (.tail _ (.head _)) (.head _) ?_;show"w144@M36";refine⟨rfl,?_⟩;show"less"
theorem yg {A R r0 r1 rl ll:Addr} (hT:TopG Γ) (hn:n≤20) (hA:Arcs aa A n T rs) (hTo:Tour n T) (hR:lL R [.ref r0,.ref r1]∈aa) (h0:lL r0 (ae (an T n))∈aa) (h1:lL r1 (ae (an T n))∈aa) (hrl:lL rl (ae (cW T n))∈aa) (hll:lL ll (ae (cW T n))∈aa):
 WX Γ (E4 Γ.w.params L C) (aY Γ.w.params 4) (cO C.asked u_asked::cI C.count n::cR C.arcs A::(L,ab (nR "rights" rl::nR "lefts" ll::nR "rows" R::("line",u_line)::RL))::aa) fun f o=>f= .next ∧∃x y,Less (cO C.asked y::cI C.count n::cR C.arcs A::(L,ab (nR "rights" rl::nR "lefts" ll::nR "rows" R::("line",x)::RL))::aa) o:=by
 refine W.hide fun q0 hq0=> ?_;refine dp ?_;show"w144@M36";refine⟨ac (Eo rfl),fun t=> ?_⟩;show"w144@M36";refine sb .L .T (vs:=[.ref r0,.ref r1]) (ws:=[.ref rl,.ref ll]) (by show lL _ _∈_;show"mem") (by show(_,bV _)∈_;show"mem") fun zz TI TO i1 i2=> ?_;refine⟨_,nG .L .T (vs:=[.ref r0,.ref r1]) (ws:=[.ref rl,.ref ll]) (by show lL _ _∈_;show"mem") (by show(_,bV _)∈_;show"mem") ?_⟩;refine⟨fun i o=>∃x y,o=(t,bV [.ref rl,.ref ll])::cO C.asked y::cI C.count n::cR C.arcs A::(L,ab (nR "rights" rl::nR "lefts" ll::nR "rows" R::("line",x)::RL))::aa,⟨_,_,rfl⟩,?_,?_,?_⟩
 ·rintro i o ⟨x,y,rfl⟩
  exact⟨by show lL _ _∈_;show"mem",by show(_,bV _)∈_;show"mem"⟩
 ·rintro i J it o h' hit ⟨x,y,rfl⟩ hs
  have main:∀r q tt,lL r (ae (an T n))∈aa->lL q (ae (cW T n))∈aa->WS (Γ.at h') (E4 Γ.w.params L C) [oY Γ.w.params 0,oY Γ.w.params 1] ((tt,bV [.ref r,.ref q])::(t,bV [.ref rl,.ref ll])::cR C.asked q::cI C.count n::cR C.arcs A::(L,ab (nR "rights" rl::nR "lefts" ll::nR "rows" R::nR "line" r::RL))::aa) fun fl o5=>fl= .next ∧∃o6,Less o6 o5∧∃x y,o6=(t,bV [.ref rl,.ref ll])::cO C.asked y::cI C.count n::cR C.arcs A::(L,ab (nR "rights" rl::nR "lefts" ll::nR "rows" R::("line",x)::RL))::aa:=by
   intro r q tt hr hq;refine W.sub (Less.skip Less.refl) ?_;refine W.frame (F:=[(t,bV [.ref rl,.ref ll])]) (pre:=cR C.asked q::cI C.count n::cR C.arcs A::(L,ab (nR "rights" rl::nR "lefts" ll::nR "rows" R::nR "line" r::RL))::aa) (c_ CF eV) Less.refl fun h2 hs2=> ?_;refine W.mono (uN ((hT.at hs).at hs2) hn hA hTo hr hq) ?_;rintro _ o ⟨rfl,ho⟩;exact⟨rfl,_,Less.take .head ho,_,_,rfl⟩
  match i,hit with
  |0,hit=>
   cases hit;intro tt;refine aI (.head _) rfl ?_;show"a144@M36";exact main r0 rl tt h0 hrl
  |1,hit=>
   cases hit;intro tt;refine aI (.head _) rfl ?_;show"a144@M36";exact main r1 ll tt h1 hll
  |i+2,hit=>cases hit
 ·rintro o ⟨x,y,rfl⟩
  subst hq0;exact⟨rfl,_,_,Less.skip Less.refl⟩
end
end
section
noncomputable def dY (w:Nat):Prop:=w=4120∨w=4121∨w=8∨w=12∨w=70
theorem Bu (x:Int):x.fmod 3=0∨x.fmod 3=1∨x.fmod 3=2:=by
 rw[GA _ (by decide)];omega
section
variable {RL:Loc}
theorem yh {tot:Int}:WX Γ (E4 Γ.w.params L C) (aY Γ.w.params 5) (cI C.total tot::(L,ab (("wide",u_wide)::RL))::aa) fun f o=>f= .next ∧∃w,dY w∧Less (cI C.total tot::(L,ab (nI "wide" (w:Nat)::RL))::aa) o:=by
 refine W.hide fun q0 hq0=> ?_;refine x_Assign_Name ?_;show"w144@M37";refine gL (by decide) ?_;show"w144@M37";by_cases h:tot.fmod 16=11
 ·rw[show(tot.fmod 16==11)=true from beq_iff_eq.mpr h]
  show"w144@M37";refine dT (by decide) (bX (by decide)) ?_;show"w144@M37";refine gL (by decide) ?_;show"w144@M37";rcases jq (tot.fdiv 16)with e|e<;>rw[e]
  ·subst hq0
   exact⟨rfl,4120,.inl rfl,Less.refl⟩
  ·subst hq0
   exact⟨rfl,4121,.inr (.inl rfl),Less.refl⟩
 ·rw[show(tot.fmod 16==11)=false from beq_eq_false_iff_ne.mpr h]
  show"w144@M37";refine⟨ac (Eo rfl),fun t=> ?_⟩;show"w144@M37";refine gL (by decide) ?_;have h3:=Bu tot;generalize tot.fmod 3=j at*;rcases h3 with e|e|e<;>subst e
  ·refine je (vs:=[.int 8,.int 12,.int 70]) (a:= .int 8) (.head _) (by decide) (by decide) rfl ?_
   show"w144@M37";subst hq0;exact⟨rfl,8,.inr (.inr (.inl rfl)),Less.skip Less.refl⟩
  ·refine je (vs:=[.int 8,.int 12,.int 70]) (a:= .int 12) (.head _) (by decide) (by decide) rfl ?_
   show"w144@M37";subst hq0;exact⟨rfl,12,.inr (.inr (.inr (.inl rfl))),Less.skip Less.refl⟩
  ·refine je (vs:=[.int 8,.int 12,.int 70]) (a:= .int 70) (.head _) (by decide) (by decide) rfl ?_
   show"w144@M37";subst hq0;exact⟨rfl,70,.inr (.inr (.inr (.inr rfl))),Less.skip Less.refl⟩
theorem yk {tot:Int} {w:Nat} (hw:dY w):WX Γ (E4 Γ.w.params L C) (aY Γ.w.params 6) (cI C.total tot::cO C.unit u_unit::(L,ab (nI "wide" (w:Nat)::("base",u_base)::RL))::aa) fun f o=>f= .next ∧∃e,e≤1∧Less (cI C.total tot::cI C.unit (2^(w-8)+e:Nat)::(L,ab (nI "wide" (w:Nat)::nI "base" (2^w:Nat)::RL))::aa) o:=by
 refine W.hide fun q0 hq0=> ?_;have hw1:8≤w∧w≤4121:=by unfold dY at hw;omega
 refine bO ?_;show"w144@M37";refine qU (Er _) (by show(2:Int)*(w:Int)≤2^27;omega) ?_;rw[Es,←kbt_cast];show"w144@M37";rw[show((w:Int)-8)=((w-8:Nat):Int)from by omega];refine qU (Er _) (by show(2:Int)*((w-8:Nat):Int)≤2^27;omega) ?_;rw[Es,←kbt_cast];show"w144@M37";refine dT (by decide) (bX (by decide)) ?_;show"w144@M37";refine gL (by decide) ?_;have h2:=jq (tot.fdiv 3);generalize (tot.fdiv 3).fmod 2=j at*
 obtain⟨e,he,rfl⟩:∃e:Nat,e≤1∧j=(e:Int):=by
  rcases h2 with h|h<;>subst h
  ·exact⟨0,by decide,rfl⟩
  ·exact⟨1,by decide,rfl⟩
 show"w144@M37";rw[←GY];refine⟨ac (Eo rfl),fun t=> ?_⟩;refine aI (.head _) rfl ?_;show"w144@M37";subst hq0;exact⟨rfl,e,he,Less.skip Less.refl⟩
theorem yl:WX Γ (E4 Γ.w.params L C) (aY Γ.w.params 7) (cO C.scores u_scores::cO C.ranked u_ranked::(L,ab (("tally",u_tally)::RL))::aa) fun f o=>f= .next ∧∃sc ta ra,Less (cR C.scores sc::cR C.ranked ra::(L,ab (nR "tally" ta::RL))::lL ra []::lL ta []::lL sc []::aa) o:=by
 refine W.hide fun q0 hq0=> ?_;refine bO ?_;show"w144@M37";refine⟨ac (Eo rfl),fun sc=> ?_⟩;show"w144@M37";refine⟨ac (Eo rfl),fun ta=> ?_⟩;show"w144@M37";refine⟨ac (Eo rfl),fun ra=> ?_⟩;show"w144@M37";refine⟨ac (Eo rfl),fun t=> ?_⟩;refine aI (.head _) rfl ?_;show"w144@M37";subst hq0;refine⟨rfl,sc,ta,ra,?_⟩;show"less"
end
end
section
noncomputable def aS (u:Nat):List Nat->List Nat
 |[]=>[]
 |_::r=>u*r.sum::aS u r
theorem sv {u:Nat}:aS u []=[]:=rfl
theorem eL {u:Nat} {r:List Nat}:aS u (d::r)=u*r.sum::aS u r:=rfl
theorem dv (u:Nat):∀l,(aS u l).length =l.length
 |[]=>rfl
 |_::r=>by rw[eL,EK,EK,dv u r]
theorem nM (u:Nat):∀(l:List Nat) (k:Nat),k<l.length->(aS u l)[k]? =some (u*(l.drop (k+1)).sum):=by
 intro l;induction l with
 |nil=>exact fun k h=>nomatch h
 |cons d r ih=>
  intro k h;cases k with
  |zero=>rfl
  |succ k=>exact ih k (H8 h)
theorem qf (w u:Nat):∀l,u*cK w l=u*l.sum+(2^w-1)*cK w (aS u l):=fun z_=>by
 induction z_ with
 |nil=>simp[jo,sv]
 |cons d r ih=>
  have ih:=ih;have hB:=Fm w;obtain⟨b,hb⟩:∃b,2^w=b+1:=⟨2^w-1,by omega⟩;rw[eJ,eL,eJ,F6];rw[hb]at ih⊢;rw[E9]at ih⊢;rw[Fe,HA u (b+1),ih,Fe u,Fe b,Fe (b+1)];rw[HA b (b+1),Ft b 1 (u*r.sum),FM];omega
theorem jB (u:Nat):∀{l:List Nat},l.sum=0->aS u l=EH l.length 0
 |[],_=>rfl
 |d::r,h=>by
  rw[F6]at h;rw[eL,jB u (l:=r) (by omega),show r.sum=0 from by omega,Hz,EK,FK]
theorem mO {u:Nat} (hu:0<u):∀l,∃ps z,aS u l=ps++EH z 0∧∀x∈ps,x≠0:=fun z_=>by
 induction z_ with
 |nil=>exact⟨[],0,rfl,fun _ h=>nomatch h⟩
 |cons d r ih=>
  by_cases h:r.sum=0
  ·exact⟨[],r.length+1,by rw[eL,jB u h,h,Hz,Ff,FK],fun _ h=>nomatch h⟩
  ·obtain⟨ps,z,e,hp⟩:=ih
   refine⟨u*r.sum::ps,z,by rw[eL,e,EX],fun x hx=> ?_⟩;rcases EG.mp hx with hx|hx
   ·rw[hx];exact Nat.mul_ne_zero (by omega) h
   ·exact hp x hx
theorem kU (w:Nat):∀z,cK w (EH z 0)=0
 |0=>rfl
 |z+1=>by rw[FK,eJ,kU w z];simp
theorem sw (w:Nat):∀ps:List Nat,(∀x∈ps,x<2^w)->dL w ps.length (cK w ps)=ps:=fun z_=>by
 induction z_ with
 |nil=>exact fun _=>rfl
 |cons d r ih=>
  intro h;have hd:=h d (.head _);rw[EK,ij,eJ,HW,GC hd,Ih _ _ (Fm w),GR hd,E7,ih fun x hx=>h x (.tail _ hx)]
theorem ym (w:Nat) (ps:List Nat):ps≠[]->(∀x∈ps,x≠0)->2^(w*(ps.length-1))≤cK w ps:=by
 induction ps with
 |nil=>exact fun h=>absurd rfl h
 |cons d r ih=>
  intro _ h;cases r with
  |nil=>
   rw[eJ,jo,Hz,G3];exact Gg (h d (.head _))
  |cons e r=>
   have ih:=ih (List.cons_ne_nil _ _) fun x hx=>h x (.tail _ hx);rw[eJ];have h2:(d::e::r).length -1=(e::r).length -1+1:=rfl;rw[h2,Fe,F0,FT,ER];exact Ep (Fl _ ih) (Gn _ _)
theorem qg {w:Nat} (hw:0<w) {ps:List Nat} (hlt:∀x∈ps,x<2^w) (hne:∀x∈ps,x≠0):b8 (cK w ps) w=ps.length:=by
 have h1:=nD w ps hlt;unfold b8;by_cases h:ps=[]
 ·subst h
  rw[show cK w []=0 from rfl,show Builtin.Int.intBits ((0:Nat):Int)=0 from rfl];exact GR (by omega)
 ·have h2:=gS (ym w ps h hne)
  have h3:=bG h1;have hl:0<ps.length:=Ht.mpr h;obtain⟨m,hm⟩:∃m,ps.length=m+1:=⟨ps.length-1,by omega⟩;rw[hm]at h2 h3⊢;rw[E9]at h2;rw[Fe,F0]at h3;generalize Builtin.Int.intBits ((cK w ps:Nat):Int)=b at*;apply Im
  ·rw[Ft,FM,ER m w];omega
  ·rw[Ft,Ft,FM,ER m w];omega
theorem lT {ps:List Nat} {z:Nat} (h:∀x∈ps,x≠0):(ps++EH z 0).filter (fun x=>decide (x≠0))=ps:=by
 rw[F_,List.filter_eq_self.mpr (fun x hx=>decide_eq_true (h x hx)),List.filter_replicate];simp
theorem nN {w u:Nat} (hw:0<w) (hu:0<u) {l:List Nat} (hs:u*l.sum<2^w):
 dL w (b8 (cK w (aS u l)) w) (cK w (aS u l))=(aS u l).filter (fun x=>decide (x≠0)):=by
 have hall:∀x∈aS u l,x<2^w:=by
  have key:∀l:List Nat,u*l.sum<2^w->∀x∈aS u l,x<2^w:=by
   intro l;induction l with
   |nil=>intro _ x h;cases h
   |cons d r ih=>
    intro h x hx;rw[F6,Fe]at h;rw[eL]at hx;rcases EG.mp hx with e|hx
    ·rw[e];omega
    ·exact ih (by omega) x hx
  exact key l hs
 obtain⟨ps,z,e,hp⟩:=mO hu l;rw[e]at hall⊢;have hlt:∀x∈ps,x<2^w:=fun x hx=>hall x (EY _ hx);rw[jp,kU,Hz,G3,qg hw hlt hp,sw w ps hlt,lT hp]
theorem nO {w u:Nat} {l:List Nat} (hs:u*l.sum<2^w-1):(u*cK w l)/(2^w-1)=cK w (aS u l)∧(u*cK w l)%(2^w-1)=u*l.sum:=by
 rw[qf w u l];refine⟨?_,?_⟩
 ·rw[Ih _ _ (by omega),GR hs,E7]
 ·rw[HW,GC hs]
noncomputable def bp (T:Nat->Nat->Bool) (n x:Nat):List Nat:=(Et n).map fun y=>if T x y then 1 else 0
theorem bf {T n x}:(bp T n x).length =n:=by simp[bp]
theorem kW (T:Nat->Nat->Bool) (n x:Nat):bB (aO T) n x=ae (bp T n x):=by
 unfold bB bp ae;rw[FC];refine GI fun y _=> ?_;show AV.int (b2 (T x y))=AV.int ((if T x y=true then 1 else 0:Nat):Int);cases T x y<;>rfl
noncomputable def score (T:Nat->Nat->Bool) (n x:Nat):Nat:=(bp T n x).sum
theorem oZ:∀{l:List Nat},(∀x∈l,x≤1)->l.sum≤l.length
 |[],_=>EL _
 |d::r,h=>by
  have:=oZ (l:=r) fun x hx=>h x (.tail _ hx);have:=h d (.head _);rw[F6,EK];omega
theorem i6 {T n x}:∀y∈bp T n x,y≤1:=by
 intro y hy;obtain⟨z,_,rfl⟩:=EP.mp hy;split<;>omega
theorem mP (hx:x<n) (hi:T x x=false):score T n x≤n-1:=by
 unfold score;have e:bp T n x=(bp T n x).take x++(bp T n x).drop x:=(FX _ _).symm;have hl:x<(bp T n x).length :=by rw[bf];exact hx
 have hx0:(bp T n x)[x]=0:=by simp[bp,hi]
 rw[e,Fz hl,hx0,List.sum_append,F6];have h1:=oZ (l:=(bp T n x).take x) fun y hy=>i6 y (F1 hy);have h2:=oZ (l:=(bp T n x).drop (x+1)) fun y hy=>i6 y (GV hy);rw[EJ,bf]at h1;rw[Fp,bf]at h2;omega
end
section
theorem jC:∀l:List Nat,(ci l).sum =(l.sum:Int)
 |[]=>rfl
 |a::l=>by
  have:=jC l;unfold ci at*;rw[EQ,F6,F6,this,GY]
theorem sy {l:List Nat} (h:l.Pairwise (·≤·)) (hij:i≤j) (hj:j<l.length):l.getD i 0≤l.getD j 0:=by
 rw[Ey,Ey,Ex (by omega),Ex hj];rcases FY hij with h1|h1
 ·exact GH.mp h i j (by omega) hj h1
 ·subst h1;exact EL _
theorem cU {l:List Nat} (h:x∈l):∃i,i<l.length∧l.getD i 0=x:=by
 obtain⟨i,hi,e⟩:=Ii.mp h;exact⟨i,hi,by rw[Ey,Ex hi];exact e⟩
theorem gX {l:List Nat} {q:Nat} (hl:l.Pairwise (·≤·)) (hq:q≤l.length) (h1:q=0∨l.getD (q-1) 0≤x) (h2:q=l.length∨x≤l.getD q 0):(bW l q x).Pairwise (·≤·):=by
 have ha:∀a∈l.take q,a≤x:=fun a ha=>by
  obtain⟨i,hi,e⟩:=cU ha;rw[EJ]at hi
  have e2:l.getD i 0=a:=by
   rw[←e,Ey,Ey,GK,if_pos (by omega)]
  have:=sy hl (i:=i) (j:=q-1) (by omega) (by omega);rcases h1 with h1|h1<;>omega
 have hb:∀a∈l.drop q,x≤a:=fun a ha=>by
  obtain⟨i,hi,e⟩:=cU ha;rw[Fp]at hi
  have e2:l.getD (q+i) 0=a:=by
   rw[←e,Ey,Ey,Gj]
  have:=sy hl (i:=q) (j:=q+i) (by omega) (by omega);rcases h2 with h2|h2<;>omega
 unfold bW;refine Hp.mpr ⟨hl.sublist (HC _ _),G5.mpr ⟨hb,hl.sublist (IN _ _)⟩,fun a ma b mb=> ?_⟩;rcases EG.mp mb with e|mb
 ·subst e;exact ha a ma
 ·exact Ep (ha a ma) (hb b mb)
theorem qh {l:List Nat} (hl:l.Pairwise (·≤·)):(bW l (bh (fun i=>decide ((x:Int)<((l.getD i 0:Nat):Int))) 0 l.length).1 x).Pairwise (·≤·):=by
 have hr:=(bE (fun i=>decide ((x:Int)<((l.getD i 0:Nat):Int))) 0 l.length (ET _)).2;have he:=dX (fun i=>decide ((x:Int)<((l.getD i 0:Nat):Int))) 0 l.length (ET _);refine gX hl hr ?_ ?_
 ·rcases he.1 with h|h
  ·exact .inl h
  ·have:=of_decide_eq_false h;exact .inr (by omega)
 ·rcases he.2 with h|h
  ·exact .inl h
  ·have:=of_decide_eq_true h;exact .inr (by omega)
theorem sz {l:List Nat} (hl:l.Pairwise (·≤·)):(bW l (bh (fun i=> !decide (((l.getD i 0:Nat):Int)<(x:Int))) 0 l.length).1 x).Pairwise (·≤·):=by
 have hr:=(bE (fun i=> !decide (((l.getD i 0:Nat):Int)<(x:Int))) 0 l.length (ET _)).2;have he:=dX (fun i=> !decide (((l.getD i 0:Nat):Int)<(x:Int))) 0 l.length (ET _);refine gX hl hr ?_ ?_
 ·rcases he.1 with h|h
  ·exact .inl h
  ·rw[IG]at h
   have:=of_decide_eq_true h;exact .inr (by omega)
 ·rcases he.2 with h|h
  ·exact .inl h
  ·rw[HH]at h
   have:=of_decide_eq_false h;exact .inr (by omega)
theorem iq {w:Nat} (hw:1≤w):Builtin.Int.intBits ((2^w-1:Nat):Int)=w:=by
 have hp:=Fm (w-1);have e:2^w=2*2^(w-1):=by rw[←Nat.pow_succ',show(w-1).succ =w from by omega]
 have h1:=bG (n:=2^w-1) (k:=w) (by omega);have h2:=gS (n:=2^w-1) (k:=w-1) (by omega);omega
theorem mQ {m:Nat} (hn:0<n) (h:a<2^(n*m)):b8 a n≤m:=by
 have:=bG h;unfold b8;rw[Nat.div_le_iff_le_mul_add_pred hn];omega
theorem ir (he:e≤1):j+1≤Builtin.Int.intBits ((2^j+e:Nat):Int)∧Builtin.Int.intBits ((2^j+e:Nat):Int)≤j+2:=by
 have hp:=Fm j;refine⟨gS (by omega),bG ?_⟩;rw[FT];omega
end
end
section
noncomputable abbrev cX (neg:Bool) (a:Nat):Int:=if neg then -(a:Int)else(a:Int)
theorem i7 (neg:Bool) (a b:Nat):cX neg a*(b:Int)=cX neg (a*b):=by
 cases neg
 ·exact(Fn a b).symm
 ·show -(a:Int)*(b:Int)= -((a*b:Nat):Int)
  rw[Fn,Int.neg_mul]
theorem gY (neg:Bool) (a:Nat):Builtin.Int.intBits (cX neg a)=Builtin.Int.intBits (a:Int):=by
 cases neg
 ·rfl
 ·show Builtin.Int.intBits (-(a:Int))=_
  unfold Builtin.Int.intBits;simp
theorem sA (k:Nat):(1:Int)-2*((k:Int).fmod 2)=cX (decide (k%2=1)) 1:=by
 rw[GA _ (by decide)];by_cases h:k%2=1
 ·rw[decide_eq_true h];show _= -((1:Nat):Int);omega
 ·rw[decide_eq_false h];show _=((1:Nat):Int);omega
noncomputable def lU (p:Params) (j k:Nat):Stmt:=(Nd.s (aY p j)).at (2+k)
noncomputable def iu (p:Params):Scope:=bS p 144 [8,4,0]
theorem yn (p:Params):(iu p).kind = .function :=by kernel_rfl
theorem yo (p:Params):∀x∈(iu p).names,x.2= .local ->(iu p).names.lookup x.1=some .local :=aJ (by kernel_rfl)
theorem ek144d {L144d:Addr} {c144d:List (Str×Addr)}:EnvOk (aM (iu p) (E4 p L C) L144d c144d):=⟨by kernel_rfl,by kernel_rfl⟩
theorem ka144d {L144d:Addr} {c144d:List (Str×Addr)}:KdA (aM (iu p) (E4 p L C) L144d c144d) [("k",.local),("sum",.globalImplicit),("arcs",.cell),("one",.cell),("unit",.cell)]:=⟨by kernel_rfl,by kernel_rfl⟩
section
variable {RL:Loc}
theorem uO {A sc ta:Addr} {rs:List Addr} {one w u e:Nat} {T:Nat->Nat->Bool}:WX Γ (E4 Γ.w.params L C) (lU Γ.w.params 8 0) (cR C.scores sc::cI C.unit u::cI C.one one::cI C.count n::cR C.arcs A::(L,ab (nI "wide" w::nI "base" (2^w:Nat)::nR "tally" ta::("turn",u_turn)::("whole",u_whole)::("left",u_left)::("behind",u_behind)::("score",u_score)::("rest",u_rest)::RL))::aa) fun f o=>f= .next ∧Less (cR C.scores sc::cI C.unit u::cI C.one one::cI C.count n::cR C.arcs A::(L,ab (nI "wide" w::nI "base" (2^w:Nat)::nR "tally" ta::("turn",some (.int (cX (decide (one%2=1)) 1)))::("whole",u_whole)::("left",u_left)::("behind",u_behind)::("score",u_score)::("rest",u_rest)::RL))::aa) o:=by
 refine W.hide fun q0 hq0=> ?_;refine x_Assign_Name ?_;show"w144@M38";refine gL (by decide) ?_;show"w144@M38";have h2:=jq (one:Int)
 refine d8 (ef (by
  generalize ((one:Nat):Int).fmod 2=j at*;rcases h2 with h|h<;>subst h<;>decide)) ?_
 show"w144@M38";rw[sA];subst hq0;exact⟨rfl,Less.refl⟩
theorem uP {A sc ta:Addr} {one w u:Nat} (hS:Std Γ) (hk:60<Γ.k) (hn:n≤8) (hA:Arcs aa A n T rs) (hone:one<n) (hTo:Tour n T) (hw:dY w) (he:e≤1) (hu:u=2^(w-8)+e):
 WX Γ (E4 Γ.w.params L C) (lU Γ.w.params 8 1) (cR C.scores sc::cI C.unit u::cI C.one one::cI C.count n::cR C.arcs A::(L,ab (nI "wide" w::nI "base" (2^w:Nat)::nR "tally" ta::("turn",some (.int (cX (decide (one%2=1)) 1)))::("whole",u_whole)::("left",u_left)::("behind",u_behind)::("score",u_score)::("rest",u_rest)::RL))::aa) fun f o=>f= .next ∧Less (cR C.scores sc::cI C.unit u::cI C.one one::cI C.count n::cR C.arcs A::(L,ab (nI "wide" w::nI "base" (2^w:Nat)::nR "tally" ta::("turn",some (.int (cX (decide (one%2=1)) 1)))::("whole",some (.int (cK w (aS u (bp T n one)):Nat)))::("left",some (.int (cX (decide (one%2=1)) (u*score T n one))))::("behind",u_behind)::("score",u_score)::("rest",u_rest)::RL))::aa) o:=by
 refine W.hide fun q0 hq0=> ?_;have hT:TopG Γ:=hS.T;have hw1:8≤w∧w≤4121:=by unfold dY at hw;omega
 obtain⟨ro,g1,g2⟩:=hA.at hone;have hAt:=hA.top;rw[kW]at g2;have hlt:∀d∈bp T n one,d<2^w:=fun d hd=>EI (i6 d hd) (Iw (by omega));have hD:=nD w _ hlt;rw[bf]at hD;have hub:=ir (j:=w-8) he;rw[←hu]at hub;have hu0:0<u:=by rw[hu];have:=Fm (w-8);omega
 have hult:u<2^(w-6):=Ev (fW u) (Gc (by decide) (by omega));have hsc:score T n one≤7:=by have:=mP hone (hTo.irr _ hone);omega
 have hus:u*score T n one<2^w-1:=by
  have e1:2^w=256*2^(w-8):=by
   rw[show(256:Nat)=2^8 from rfl,←FT];congr 1;omega
  have hp:=Fm (w-8);have:u*score T n one≤u*7:=Fl _ hsc;omega
 have hq:=nO (w:=w) (u:=u) (l:=bp T n one) hus
 have ha:u*cK w (bp T n one)<2^(w*9):=by
  have h1:u*cK w (bp T n one)<2^(w-6)*2^(w*n):=IS hult hD;refine Ev h1 ?_;rw[←FT];refine Gc (by decide) ?_;have:w*n≤w*8:=Fl _ hn;omega
 have hbD:Builtin.Int.intBits ((cK w (bp T n one):Nat):Int)≤40000:=by
  have:=bG hD;have:w*n≤4121*8:=FV (by omega) hn;omega
 refine bO ?_;show"w144@M38";refine d8 (ef (by rw[gY];have:Builtin.Int.intBits ((1:Nat):Int)=1:=rfl;omega)) ?_;rw[i7,FM];show"w144@M38";refine ar (vs:=rs.map AV.ref) (by show"mem") (Er _) (by omega) (by rw[Es];exact g1) ?_;show"w144@M38";refine⟨am (xk _) hT,?_⟩;refine Dq hS (by omega) (by omega) (by show"mem") (by rw[bf];omega) hlt ?_;refine d8 (ef (by rw[gY];omega)) ?_;rw[i7];show"w144@M38";rw[show(((2^w:Nat):Int)-1)=((2^w-1:Nat):Int)from by have:=Fm w;omega];refine d8 (ef (by rw[gY,iq (by omega)];have:Builtin.Int.intBits ((1:Nat):Int)=1:=rfl;omega)) ?_;rw[i7,FM];show"w144@M38";refine⟨am (pR _) hT,?_⟩;refine Dr (neg:=decide (one%2=1)) (a:=u*cK w (bp T n one)) (b:=2^w-1) hS (by omega) (by have:=Iw (n:=w) (by omega);omega) (by rw[iq (by omega)];omega) (by rw[iq (by omega)];exact Ep (mQ (by omega) ha) (by decide)) rfl rfl fun t=> ?_;rw[hq.1,hq.2];refine aI (.head _) rfl ?_;show"a144@M38";subst hq0;exact⟨rfl,Less.skip Less.refl⟩
theorem uQ {A sc ta:Addr} {one w u e:Nat} (hT:TopG Γ) (hn:n≤8) (hA:Arcs aa A n T rs) (hone:one<n) (hub:Builtin.Int.intBits (u:Int)≤5000):
 WX Γ (E4 Γ.w.params L C) (lU Γ.w.params 8 2) (cR C.scores sc::cI C.unit u::cI C.one one::cI C.count n::cR C.arcs A::(L,ab (nI "wide" w::nI "base" (2^w:Nat)::nR "tally" ta::("turn",some (.int (cX (decide (one%2=1)) 1)))::("whole",some (.int (cK w (aS u (bp T n one)):Nat)))::("left",some (.int (cX (decide (one%2=1)) (u*score T n one))))::("behind",u_behind)::("score",u_score)::("rest",u_rest)::RL))::aa) fun f o=>f= .next ∧∃bl,Less (cR C.scores sc::cI C.unit u::cI C.one one::cI C.count n::cR C.arcs A::(L,ab (nI "wide" w::nI "base" (2^w:Nat)::nR "tally" ta::("turn",some (.int (cX (decide (one%2=1)) 1)))::("whole",some (.int (cK w (aS u (bp T n one)):Nat)))::("left",some (.int (cX (decide (one%2=1)) (u*score T n one))))::nR "behind" bl::("score",u_score)::("rest",u_rest)::RL))::lL bl (ae (aS u (bp T n one)))::aa) o:=by
 refine W.hide fun q0 hq0=> ?_;obtain⟨ro,g1,g2⟩:=hA.at hone;have hAt:=hA.top;rw[kW]at g2;refine bq (cl:=[("unit",C.unit),("one",C.one),("arcs",C.arcs)]) (loc:=[("k",none)]) (by kernel_rfl) (yn Γ.w.params) (yo Γ.w.params) (by decide) (by simp) ?_ (by kernel_rfl);unfold bC;show"w144@M38";refine bP fun rg=> ?_;refine⟨_,eD.less (bM (a:=0) (b:=n) (.head _) (by omega) (by omega) ⟨cR C.scores sc::cI C.unit u::cI C.one one::cI C.count n::cR C.arcs A::(L,ab (nI "wide" w::nI "base" (2^w:Nat)::nR "tally" ta::("turn",some (.int (cX (decide (one%2=1)) 1)))::("whole",some (.int (cK w (aS u (bp T n one)):Nat)))::("left",some (.int (cX (decide (one%2=1)) (u*score T n one))))::("behind",u_behind)::("score",u_score)::("rest",u_rest)::RL))::aa,Less.skip Less.refl,?_⟩)⟩;intro acc L2 cs2 hcs2;rw[af (cs:=cs2) hcs2];show aR _ _ 0 acc (aM (iu Γ.w.params) (E4 Γ.w.params L C) L2 [("unit",C.unit),("one",C.one),("arcs",C.arcs)]) _ _ _ ((L2,ab [("k",none)])::lL acc []::cR C.scores sc::cI C.unit u::cI C.one one::cI C.count n::cR C.arcs A::(L,ab (nI "wide" w::nI "base" (2^w:Nat)::nR "tally" ta::("turn",some (.int (cX (decide (one%2=1)) 1)))::("whole",some (.int (cK w (aS u (bp T n one)):Nat)))::("left",some (.int (cX (decide (one%2=1)) (u*score T n one))))::("behind",u_behind)::("score",u_score)::("rest",u_rest)::RL))::aa) _;refine aB (fun i o=>∃x,o=(L2,ab [("k",x)])::lL acc (ae ((aS u (bp T n one)).take i))::cR C.scores sc::cI C.unit u::cI C.one one::cI C.count n::cR C.arcs A::(L,ab (nI "wide" w::nI "base" (2^w:Nat)::nR "tally" ta::("turn",some (.int (cX (decide (one%2=1)) 1)))::("whole",some (.int (cK w (aS u (bp T n one)):Nat)))::("left",some (.int (cX (decide (one%2=1)) (u*score T n one))))::("behind",u_behind)::("score",u_score)::("rest",u_rest)::RL))::aa) rfl rfl ⟨none,by rw[F9];rfl⟩ (fun _ _ _=>trivial) ?_ ?_
 ·rintro k J it o h' hit ⟨x,rfl⟩ hs
  have hT2:TopG (Γ.at h'):=hT.at hs;rw[Eu,Ew]at hit;obtain⟨av,hav,rfl⟩:=hit
  have hkn:k<n-0:=by
   have:=(EB.mp hav).1;rw[aG]at this;exact this
  rw[dU hkn,E7]at hav;cases hav;have hkn2:k<(bp T n one).length :=by rw[bf];omega
  show WAsg _ _ _ _ _ _;show"w144d";refine ar (vs:=rs.map AV.ref) (by show"mem") (Er _) (by omega) (by rw[Es];exact g1) ?_;show"w144d";refine⟨(by show(0:Int)≤(k:Int)+1;omega),trivial,ro,ae (bp T n one),rfl,by show"mem",ac (by rw[aj,bf];omega),fun r2=> ?_⟩;rw[show((k:Int)+1)=((k+1:Nat):Int)from rfl,io,bo ((bp T n one).drop (k+1))];show"w144d";refine mJ (.head _) ?_;rw[jC];show"w144d"
  have hs8:((bp T n one).drop (k+1)).sum ≤8:=by
   have:=oZ (l:=(bp T n one).drop (k+1)) fun y hy=>i6 y (GV hy);rw[Fp,bf]at this;omega
  refine d8 (ef (by
   have:=bG (n:=((bp T n one).drop (k+1)).sum) (k:=4) (by omega);omega)) ?_
  rw[←Fn,ER ((bp T n one).drop (k+1)).sum];refine⟨ae ((aS u (bp T n one)).take k),_,_,.tail (.tail .head),ac (by rw[aj,EJ,dv,bf];omega),Less.skip Less.refl,some (.int k),?_⟩;rw[E5,nM u _ k hkn2,cz];rfl
 ·rintro o ⟨x,rfl⟩
  rw[En,aG,Fw,Gi (by rw[dv,bf];exact EL _)];refine⟨lL acc (ae (aS u (bp T n one)))::cR C.scores sc::cI C.unit u::cI C.one one::cI C.count n::cR C.arcs A::(L,ab (nI "wide" w::nI "base" (2^w:Nat)::nR "tally" ta::("turn",some (.int (cX (decide (one%2=1)) 1)))::("whole",some (.int (cK w (aS u (bp T n one)):Nat)))::("left",some (.int (cX (decide (one%2=1)) (u*score T n one))))::("behind",u_behind)::("score",u_score)::("rest",u_rest)::RL))::aa,[("k",x)],Less.refl,?_⟩;show"o144@M38";subst hq0;refine⟨_,_,Less.refl,rfl,acc,?_⟩;show"less"
theorem uR {A sc ta:Addr} {rs:List Addr} {one w u:Nat} {bl:Addr} (hS:Std Γ) (hk:60<Γ.k) (hw:dY w) (he:e≤1) (hu:u=2^(w-8)+e) (hsc:score T n one≤7):
 WX Γ (E4 Γ.w.params L C) (lU Γ.w.params 8 3) (cR C.scores sc::cI C.unit u::cI C.one one::cI C.count n::cR C.arcs A::(L,ab (nI "wide" w::nI "base" (2^w:Nat)::nR "tally" ta::("turn",some (.int (cX (decide (one%2=1)) 1)))::("whole",some (.int (cK w (aS u (bp T n one)):Nat)))::("left",some (.int (cX (decide (one%2=1)) (u*score T n one))))::nR "behind" bl::("score",u_score)::("rest",u_rest)::RL))::aa) fun f o=>f= .next ∧Less (cR C.scores sc::cI C.unit u::cI C.one one::cI C.count n::cR C.arcs A::(L,ab (nI "wide" w::nI "base" (2^w:Nat)::nR "tally" ta::("turn",some (.int (cX (decide (one%2=1)) 1)))::("whole",some (.int (cK w (aS u (bp T n one)):Nat)))::("left",some (.int (cX (decide (one%2=1)) (u*score T n one))))::nR "behind" bl::nI "score" (score T n one:Nat)::("rest",some (.int (cX (decide (one%2=1)) 0)))::RL))::aa) o:=by
 refine W.hide fun q0 hq0=> ?_;have hT:TopG Γ:=hS.T;have hw1:8≤w∧w≤4121:=by unfold dY at hw;omega
 have hub:=ir (j:=w-8) he;rw[←hu]at hub;have hu0:0<u:=by rw[hu];have:=Fm (w-8);omega
 have hnd:u*score T n one<2^(Builtin.Int.intBits (u:Int)*4):=by
  have h1:u*score T n one<2^Builtin.Int.intBits (u:Int)*2^3:=IS (fW u) (by omega);refine Ev h1 ?_;rw[←FT];exact Gc (by decide) (by omega)
 refine bO ?_;show"w144@M38";refine d8 (ef (by rw[gY];have:Builtin.Int.intBits ((1:Nat):Int)=1:=rfl;omega)) ?_;rw[i7,FM];show"w144@M38";refine⟨am (pR _) hT,?_⟩;refine Dr (neg:=decide (one%2=1)) (a:=u*score T n one) (b:=u) hS (by omega) hu0 (by omega) (Ep (mQ (by omega) hnd) (by decide)) rfl rfl fun t=> ?_;rw[Ge _ hu0,Nat.mul_mod_right];refine aI (.head _) rfl ?_;show"a144@M38";subst hq0;exact⟨rfl,Less.skip Less.refl⟩
end
end
section
theorem sB (neg:Bool):cX neg 0=0:=by cases neg<;>rfl
noncomputable def aK (T:Nat->Nat->Bool) (n k:Nat):List Nat:=(Et k).map (score T n)
theorem b9 {T n k}:(aK T n k).length =k:=by simp[aK]
theorem iR (T:Nat->Nat->Bool) (n k:Nat):aK T n (k+1)=aK T n k++[score T n k]:=by
 unfold aK;rw[FH,Ez];rfl
theorem dQ (l:List Nat) (x:Nat):ae l++[AV.int (x:Nat)]=ae (l++[x]):=(cz l [x]).symm
noncomputable def jD (p:Params):Scope:=bS p 144 [8,6,0,1,1]
theorem yp (p:Params):(jD p).kind = .function :=by kernel_rfl
theorem yq (p:Params):∀x∈(jD p).names,x.2= .local ->(jD p).names.lookup x.1=some .local :=aJ (by kernel_rfl)
theorem ka144e {L144e:Addr} {c144e:List (Str×Addr)}:KdA (aM (jD p) (E4 p L C) L144e c144e) [("wins",.local)]:=⟨by kernel_rfl,by kernel_rfl⟩
section
variable {RL:Loc}
theorem uS {A sc ta:Addr} {rs:List Addr} {one w u e:Nat} {bl:Addr} (hS:Std Γ) (hk:60<Γ.k) (hn:n≤8) (hw:dY w) (hu0:0<u) (hus:u*score T n one<2^w) {ts:List Nat} (hts:ts=aS u (bp T n one)) (hb:lL bl (ae ts)∈aa):
 WX Γ (E4 Γ.w.params L C) (lU Γ.w.params 8 4) (cR C.scores sc::cI C.unit u::cI C.one one::cI C.count n::cR C.arcs A::(L,ab (nI "wide" w::nI "base" (2^w:Nat)::nR "tally" ta::("turn",some (.int (cX (decide (one%2=1)) 1)))::nI "whole" (cK w ts:Nat)::("left",some (.int (cX (decide (one%2=1)) (u*score T n one))))::nR "behind" bl::nI "score" (score T n one:Nat)::("rest",some (.int (cX (decide (one%2=1)) 0)))::RL))::aa) fun f o=>f= .next ∧Less (cR C.scores sc::cI C.unit u::cI C.one one::cI C.count n::cR C.arcs A::(L,ab (nI "wide" w::nI "base" (2^w:Nat)::nR "tally" ta::("turn",some (.int (cX (decide (one%2=1)) 1)))::nI "whole" (cK w ts:Nat)::("left",some (.int (cX (decide (one%2=1)) (u*score T n one))))::nR "behind" bl::nI "score" (score T n one:Nat)::("rest",some (.int (cX (decide (one%2=1)) 0)))::RL))::aa) o:=by
 refine W.hide fun q0 hq0=> ?_;have hT:TopG Γ:=hS.T;have hw1:8≤w∧w≤4121:=by unfold dY at hw;omega
 have hdig:=nN (w:=w) (u:=u) (by omega) hu0 (l:=bp T n one) hus;have hlen:=dv u (bp T n one);rw[bf,←hts]at hlen;rw[←hts]at hdig
 have hnd:b8 (cK w ts) w≤8:=by
  have h1:=congrArg Fb hdig;rw[cQ]at h1;have:=Fv (fun x=>decide (x≠0)) ts;omega
 refine x_If ?_;show"w144@M39";rw[show(cX (decide (one%2=1)) 0!=0)=false from by rw[sB];rfl];show"w144@M39";refine⟨am (xj _) hT,?_⟩;refine Dp hS (by omega) (by omega) (by omega) (by omega) fun l=> ?_;rw[show((dL w (b8 (cK w ts) w) (cK w ts)).map fun(d:Nat)=>AV.int (d:Int))=ae (dL w (b8 (cK w ts) w) (cK w ts))from rfl,hdig];refine aL (cl:=[]) (loc:=[("wins",none)]) (by kernel_rfl) (yp Γ.w.params) (yq Γ.w.params) (by decide) (by simp) ?_;unfold bC;show"w144@M39";refine⟨_,aW (vs:=ae ts) (by show"mem") ?_⟩;intro acc L2 cs2 hcs2;rw[af (cs:=cs2) hcs2];show aR _ _ 0 acc (aM (jD Γ.w.params) (E4 Γ.w.params L C) L2 []) _ _ _ ((L2,ab [("wins",none)])::lL acc []::(l,_)::cR C.scores sc::cI C.unit u::cI C.one one::cI C.count n::cR C.arcs A::(L,ab (nI "wide" w::nI "base" (2^w:Nat)::nR "tally" ta::("turn",some (.int (cX (decide (one%2=1)) 1)))::nI "whole" (cK w ts:Nat)::("left",some (.int (cX (decide (one%2=1)) (u*score T n one))))::nR "behind" bl::nI "score" (score T n one:Nat)::("rest",some (.int (cX (decide (one%2=1)) 0)))::RL))::aa) _;refine aB (fun i o=>∃x,o=(L2,ab [("wins",x)])::lL acc (ae ((ts.take i).filter (fun x=>decide (x≠0))))::lL l (ae (ts.filter (fun x=>decide (x≠0))))::cR C.scores sc::cI C.unit u::cI C.one one::cI C.count n::cR C.arcs A::(L,ab (nI "wide" w::nI "base" (2^w:Nat)::nR "tally" ta::("turn",some (.int (cX (decide (one%2=1)) 1)))::nI "whole" (cK w ts:Nat)::("left",some (.int (cX (decide (one%2=1)) (u*score T n one))))::nR "behind" bl::nI "score" (score T n one:Nat)::("rest",some (.int (cX (decide (one%2=1)) 0)))::RL))::aa) rfl rfl ⟨none,rfl⟩ ?_ ?_ ?_
 ·rintro i o ⟨x,rfl⟩;show"mem"
 ·rintro i J it o h' hit ⟨x,rfl⟩ hs
  rw[Eu,Eu,Ew]at hit;obtain⟨av,hav,rfl⟩:=hit;rw[Ew]at hav;obtain⟨d,hd,rfl⟩:=hav
  have htk:(ts.take (i+1)).filter (fun x=>decide (x≠0))=(ts.take i).filter (fun x=>decide (x≠0))++(if d=0 then []else [d]):=by
   rw[E5,hd,F_]
   congr 1
   by_cases h:d=0<;>simp[h]
  have hfl:=Fv (fun x=>decide (x≠0)) (ts.take i);have htl:(ts.take i).length ≤8:=by rw[EJ];omega
  show WAsg _ _ _ _ _ _;show"w144e";by_cases h0:d=0
  ·rw[show((d:Int)!=0)=false from by simp[h0]]
   show"w144e";refine⟨_,Less.refl,some (.int d),?_⟩;rw[htk,if_pos h0,EV]
  ·rw[show((d:Int)!=0)=true from by simp[h0]]
   show"w144e";refine⟨ae ((ts.take i).filter (fun x=>decide (x≠0))),_,_,.tail .head,ac (by rw[aj];omega),Less.refl,some (.int d),?_⟩;rw[htk,if_neg h0,cz];rfl
 ·rintro o ⟨x,rfl⟩
  rw[En,aj,EW];refine⟨lL acc (ae (ts.filter (fun x=>decide (x≠0))))::lL l (ae (ts.filter (fun x=>decide (x≠0))))::cR C.scores sc::cI C.unit u::cI C.one one::cI C.count n::cR C.arcs A::(L,ab (nI "wide" w::nI "base" (2^w:Nat)::nR "tally" ta::("turn",some (.int (cX (decide (one%2=1)) 1)))::nI "whole" (cK w ts:Nat)::("left",some (.int (cX (decide (one%2=1)) (u*score T n one))))::nR "behind" bl::nI "score" (score T n one:Nat)::("rest",some (.int (cX (decide (one%2=1)) 0)))::RL))::aa,[("wins",x)],Less.refl,?_⟩;rw[bo];refine fZ (.tail _ (.head _)) (.head _) ?_;rw[decide_eq_true rfl,GT];show"w144@M39";subst hq0;refine⟨rfl,?_⟩;show"less"
theorem uT {A sc ta:Addr} {rs:List Addr} {one w u e:Nat} {bl:Addr} {sl:List Nat} (hn:sl.length≤100):
 WX Γ (E4 Γ.w.params L C) (lU Γ.w.params 8 5) (cR C.scores sc::cI C.unit u::cI C.one one::cI C.count n::cR C.arcs A::(L,ab (nI "wide" w::nI "base" (2^w:Nat)::nR "tally" ta::("turn",some (.int (cX (decide (one%2=1)) 1)))::("whole",some (.int (cK w (aS u (bp T n one)):Nat)))::("left",some (.int (cX (decide (one%2=1)) (u*score T n one))))::nR "behind" bl::nI "score" (score T n one:Nat)::("rest",some (.int (cX (decide (one%2=1)) 0)))::RL))::lL sc (ae sl)::aa) fun f o=>f= .next ∧Less (cR C.scores sc::cI C.unit u::cI C.one one::cI C.count n::cR C.arcs A::(L,ab (nI "wide" w::nI "base" (2^w:Nat)::nR "tally" ta::("turn",some (.int (cX (decide (one%2=1)) 1)))::("whole",some (.int (cK w (aS u (bp T n one)):Nat)))::("left",some (.int (cX (decide (one%2=1)) (u*score T n one))))::nR "behind" bl::nI "score" (score T n one:Nat)::("rest",some (.int (cX (decide (one%2=1)) 0)))::RL))::lL sc (ae (sl++[score T n one]))::aa) o:=by
 refine W.hide fun q0 hq0=> ?_;refine x_Expr ?_;show"w144@M39";refine cy PySem.slot_list_append PySem.type_list_append (vs:=ae sl) (by show"mem") ?_;show"w144@M39";refine cY (vs:=ae sl) (by show"upd") (ac (by rw[aj];omega)) ?_;rw[dQ];subst hq0;exact⟨rfl,Less.refl⟩
theorem uU {A sc ta:Addr} {rs:List Addr} {one w u e:Nat} {bl:Addr} {ts:List Nat} (hT:TopG Γ) (hk:10<Γ.k) (hn:ts.length≤100) (hts:ts.Pairwise (·≤·)):
 WX Γ (E4 Γ.w.params L C) (lU Γ.w.params 8 6) (cR C.scores sc::cI C.unit u::cI C.one one::cI C.count n::cR C.arcs A::(L,ab (nI "wide" w::nI "base" (2^w:Nat)::nR "tally" ta::("turn",some (.int (cX (decide (one%2=1)) 1)))::("whole",some (.int (cK w (aS u (bp T n one)):Nat)))::("left",some (.int (cX (decide (one%2=1)) (u*score T n one))))::nR "behind" bl::nI "score" (score T n one:Nat)::("rest",some (.int (cX (decide (one%2=1)) 0)))::RL))::lL ta (ae ts)::aa) fun f o=>f= .next ∧∃ts2,ts2.Pairwise (·≤·)∧ts2.Perm (score T n one::ts)∧Less (cR C.scores sc::cI C.unit u::cI C.one one::cI C.count n::cR C.arcs A::(L,ab (nI "wide" w::nI "base" (2^w:Nat)::nR "tally" ta::("turn",some (.int (cX (decide (one%2=1)) 1)))::("whole",some (.int (cK w (aS u (bp T n one)):Nat)))::("left",some (.int (cX (decide (one%2=1)) (u*score T n one))))::nR "behind" bl::nI "score" (score T n one:Nat)::("rest",some (.int (cX (decide (one%2=1)) 0)))::RL))::lL ta (ae ts2)::aa) o:=by
 refine W.hide fun q0 hq0=> ?_;have hz:(ae ts).length ≤sizeLine:=ac (by rw[aj];omega);have hx:∀i,i<(ae ts).length ->(ae ts).getD i .none = .int (((ts.getD i 0:Nat):Int)):=fun i hi=>aQ (by rwa [aj]at hi);refine x_If ?_;show"w144@M39";refine gL (by decide) ?_;have h2:=jq (one:Int);generalize ((one:Nat):Int).fmod 2=j at*;rcases h2 with h|h<;>subst h
 ·show"w144@M39"
  rw[show((0:Int)!=0)=false from rfl];show"w144@M39";refine⟨am (pP _) hT,?_⟩;refine AU (vs:=ae ts) (xs:=fun i=>((ts.getD i 0:Nat):Int)) hT (by omega) hz hx (by show"upd") ?_;rw[aj,eK (f:=fun(d:Nat)=>AV.int (d:Int))];show"w144@M39";subst hq0;exact⟨rfl,_,qh hts,dW,Less.refl⟩
 ·show"w144@M39"
  rw[show((1:Int)!=0)=true from rfl];show"w144@M39";refine⟨am (pQ _) hT,?_⟩;refine AW (vs:=ae ts) (xs:=fun i=>((ts.getD i 0:Nat):Int)) hT (by omega) hz hx (by show"upd") ?_;rw[aj,eK (f:=fun(d:Nat)=>AV.int (d:Int))];show"w144@M39";subst hq0;exact⟨rfl,_,sz hts,dW,Less.refl⟩
end
end
section
section
variable {RL:Loc}
theorem yr {A sc ta:Addr} {w u:Nat} (hS:Std Γ) (hk:60<Γ.k) (hn:n≤8) (hA:Arcs aa A n T rs) (hTo:Tour n T) (hw:dY w) (he:e≤1) (hu:u=2^(w-8)+e):
 WX Γ (E4 Γ.w.params L C) (aY Γ.w.params 8) (cR C.scores sc::cI C.unit u::cO C.one u_one::cI C.count n::cR C.arcs A::(L,ab (nI "wide" w::nI "base" (2^w:Nat)::nR "tally" ta::("turn",u_turn)::("whole",u_whole)::("left",u_left)::("behind",u_behind)::("score",u_score)::("rest",u_rest)::RL))::lL ta []::lL sc []::aa) fun f o=>f= .next ∧∃x1 x2 x3 x4 x5 x6 x7 ts,ts.Perm (aK T n n)∧ts.Pairwise (·≤·)∧Less (cR C.scores sc::cI C.unit u::cO C.one x1::cI C.count n::cR C.arcs A::(L,ab (nI "wide" w::nI "base" (2^w:Nat)::nR "tally" ta::("turn",x2)::("whole",x3)::("left",x4)::("behind",x5)::("score",x6)::("rest",x7)::RL))::lL ta (ae ts)::lL sc (ae (aK T n n))::aa) o:=by
 refine W.hide fun q0 hq0=> ?_;have hT:TopG Γ:=hS.T;have hw1:8≤w∧w≤4121:=by unfold dY at hw;omega
 have hub:=ir (j:=w-8) he;rw[←hu]at hub;have hp8:=Fm (w-8);have hu0:0<u:=by omega
 have e256:2^w=256*2^(w-8):=by
  rw[show(256:Nat)=2^8 from rfl,←FT];congr 1;omega
 refine dp ?_;show"w144@M40";refine bP fun rg=> ?_;refine⟨_,eD.less (bM (a:=0) (b:=n) (.head _) (by omega) (by omega) ⟨_,Less.skip Less.refl,fun i o=>∃x1 x2 x3 x4 x5 x6 x7 ts,ts.Perm (aK T n i)∧ts.Pairwise (·≤·)∧o=cR C.scores sc::cI C.unit u::cO C.one x1::cI C.count n::cR C.arcs A::(L,ab (nI "wide" w::nI "base" (2^w:Nat)::nR "tally" ta::("turn",x2)::("whole",x3)::("left",x4)::("behind",x5)::("score",x6)::("rest",x7)::RL))::lL ta (ae ts)::lL sc (ae (aK T n i))::aa,⟨_,_,_,_,_,_,_,[],.nil,.nil,rfl⟩,fun _ _ _=>trivial,?_,?_⟩)⟩
 ·rintro i J it o h' hit ⟨x1,x2,x3,x4,x5,x6,x7,ts,hperm,hts,rfl⟩ hs
  have hS2:Std (Γ.at h'):=hS.at hs;have hT2:TopG (Γ.at h'):=hS2.T;rw[Eu,Ew]at hit;obtain⟨av,hav,rfl⟩:=hit
  have hin:i<n-0:=by
   have:=(EB.mp hav).1;rw[aG]at this;exact this
  rw[dU hin,E7]at hav;cases hav;have hin2:i<n:=by omega
  have hsc:score T n i≤7:=by have:=mP hin2 (hTo.irr _ hin2);omega
  have hus:u*score T n i<2^w:=by
   have:u*score T n i≤u*7:=Fl _ hsc;omega
  have htl:ts.length=i:=by have:=hperm.length_eq;rwa [b9]at this
  show WAsg _ _ _ _ _ _;show"a144@M40";have hA2:=(hA.cons (lL sc (ae (aK T n i)))).cons (lL ta (ae ts));refine bv _ (uO (rs:=rs) (e:=e) (T:=T) (sc:=sc) (ta:=ta) (A:=A) (n:=n) (w:=w) (u:=u)) fun o ho=>W.sub ho ?_;clear ho;refine bv _ (uP hS2 hk hn hA2 hin2 hTo hw he hu) fun o ho=>W.sub ho ?_;clear ho;refine bv _ (uQ (e:=e) hT2 hn hA2 hin2 (by omega)) ?_;rintro o ⟨bl,ho⟩;refine W.sub ho ?_;clear ho;refine bv _ (uR (rs:=rs) hS2 hk hw he hu hsc) fun o ho=>W.sub ho ?_;clear ho;refine bv _ (uS (rs:=rs) (e:=e) hS2 hk hn hw hu0 hus rfl (.head _)) fun o ho=>W.sub ho ?_;clear ho;refine W.sub (ao:=cR C.scores sc::cI C.unit u::cI C.one i::cI C.count n::cR C.arcs A::(L,ab (nI "wide" w::nI "base" (2^w:Nat)::nR "tally" ta::("turn",some (.int (cX (decide (i%2=1)) 1)))::("whole",some (.int (cK w (aS u (bp T n i)):Nat)))::("left",some (.int (cX (decide (i%2=1)) (u*score T n i))))::nR "behind" bl::nI "score" (score T n i:Nat)::("rest",some (.int (cX (decide (i%2=1)) 0)))::RL))::lL sc (ae (aK T n i))::lL ta (ae ts)::aa) (by show"less") ?_;refine bv _ (uT (rs:=rs) (e:=e) (by rw[b9];omega)) fun o ho=>W.sub ho ?_;clear ho;rw[←iR];refine W.sub (ao:=cR C.scores sc::cI C.unit u::cI C.one i::cI C.count n::cR C.arcs A::(L,ab (nI "wide" w::nI "base" (2^w:Nat)::nR "tally" ta::("turn",some (.int (cX (decide (i%2=1)) 1)))::("whole",some (.int (cK w (aS u (bp T n i)):Nat)))::("left",some (.int (cX (decide (i%2=1)) (u*score T n i))))::nR "behind" bl::nI "score" (score T n i:Nat)::("rest",some (.int (cX (decide (i%2=1)) 0)))::RL))::lL ta (ae ts)::lL sc (ae (aK T n (i+1)))::aa) (by show"less") ?_;refine bv _ (uU (rs:=rs) (e:=e) hT2 (show 10<Γ.k by omega) (by omega) hts) ?_;rintro o ⟨ts2,hs2,hp2,ho⟩;refine W.sub ho (s_nil ⟨rfl,_,Less.refl,_,_,_,_,_,_,_,ts2,?_,hs2,rfl⟩);rw[iR];exact hp2.trans ((hperm.cons _).trans (Gx _ _).symm)
 ·rintro o ⟨x1,x2,x3,x4,x5,x6,x7,ts,hperm,hts,rfl⟩
  rw[En,aG,Fw]at hperm⊢;subst hq0;exact⟨rfl,x1,x2,x3,x4,x5,x6,x7,ts,hperm,hts,Less.refl⟩
end
end
section
noncomputable def cg (s:Nat->Nat) (a b:Nat):Prop:=s a<s b∨(s a=s b∧a<b)
theorem mR {r:Nat->Nat->Prop} {l:List Nat} {q:Nat} (hl:l.Pairwise r) (ha:∀a∈l.take q,r a x) (hb:∀b∈l.drop q,r x b):(bW l q x).Pairwise r:=by
 unfold bW;refine Hp.mpr ⟨hl.sublist (HC _ _),G5.mpr ⟨hb,hl.sublist (IN _ _)⟩,fun a ma b mb=> ?_⟩;rcases EG.mp mb with e|mb
 ·subst e;exact ha a ma
 ·have e:l=l.take q++l.drop q:=(FX _ _).symm
  rw[e]at hl;exact(Hp.mp hl).2.2 a ma b mb
theorem eM {s:Nat->Nat} {l:List Nat} (h:l.Pairwise (cg s)) (hij:i≤j) (hj:j<l.length):s (l.getD i 0)≤s (l.getD j 0):=by
 rw[Ey,Ey,Ex (by omega),Ex hj];rcases FY hij with h1|h1
 ·have:=GH.mp h i j (by omega) hj h1
  rcases this with h|h
  ·exact ES h
  ·exact Fh h.1
 ·subst h1;exact EL _
theorem gZ {l:List Nat} {q:Nat} (h:a∈l.take q):∃i,i<q∧i<l.length∧l.getD i 0=a:=by
 obtain⟨i,hi,e⟩:=cU h;rw[EJ]at hi;refine⟨i,by omega,by omega,?_⟩;rw[←e,Ey,Ey,GK,if_pos (by omega)]
theorem g7 {l:List Nat} {q:Nat} (h:a∈l.drop q):∃i,q≤i∧i<l.length∧l.getD i 0=a:=by
 obtain⟨i,hi,e⟩:=cU h;rw[Fp]at hi;refine⟨q+i,by omega,by omega,?_⟩;rw[←e,Ey,Ey,Gj]
theorem nP {s:Nat->Nat} {l:List Nat} (hl:l.Pairwise (cg s)) (hx:∀a∈l,a<x):(bW l (bh (fun i=>decide (((s x:Nat):Int)<((s (l.getD i 0):Nat):Int))) 0 l.length).1 x).Pairwise (cg s):=by
 have hr:=(bE (fun i=>decide (((s x:Nat):Int)<((s (l.getD i 0):Nat):Int))) 0 l.length (ET _)).2;have he:=dX (fun i=>decide (((s x:Nat):Int)<((s (l.getD i 0):Nat):Int))) 0 l.length (ET _);generalize (bh (fun i=>decide (((s x:Nat):Int)<((s (l.getD i 0):Nat):Int))) 0 l.length).1=q at*;refine mR hl (fun a ha=> ?_) fun b hb=> ?_
 ·have ham:=hx a (F1 ha)
  obtain⟨i,h1,h2,rfl⟩:=gZ ha;rcases he.1 with h|h
  ·omega
  ·have h3:=of_decide_eq_false h
   have h4:=eM hl (i:=i) (j:=q-1) (by omega) (by omega);rcases FY (show s (l.getD i 0)≤s x by omega)with h5|h5
   ·exact .inl h5
   ·exact .inr ⟨h5,ham⟩
 ·obtain⟨i,h1,h2,rfl⟩:=g7 hb
  rcases he.2 with h|h
  ·omega
  ·have h3:=of_decide_eq_true h
   have h4:=eM hl (i:=q) (j:=i) h1 h2;exact .inl (by omega)
theorem qk {s:Nat->Nat} {l:List Nat} (hl:l.Pairwise (cg s)) (hx:∀a∈l,x<a):(bW l (bh (fun i=> !decide (((s (l.getD i 0):Nat):Int)<((s x:Nat):Int))) 0 l.length).1 x).Pairwise (cg s):=by
 have hr:=(bE (fun i=> !decide (((s (l.getD i 0):Nat):Int)<((s x:Nat):Int))) 0 l.length (ET _)).2;have he:=dX (fun i=> !decide (((s (l.getD i 0):Nat):Int)<((s x:Nat):Int))) 0 l.length (ET _);generalize (bh (fun i=> !decide (((s (l.getD i 0):Nat):Int)<((s x:Nat):Int))) 0 l.length).1=q at*;refine mR hl (fun a ha=> ?_) fun b hb=> ?_
 ·obtain⟨i,h1,h2,rfl⟩:=gZ ha
  rcases he.1 with h|h
  ·omega
  ·rw[IG]at h
   have h3:=of_decide_eq_true h;have h4:=eM hl (i:=i) (j:=q-1) (by omega) (by omega);exact .inl (by omega)
 ·have hbm:=hx b (GV hb)
  obtain⟨i,h1,h2,rfl⟩:=g7 hb;rcases he.2 with h|h
  ·omega
  ·rw[HH]at h
   have h3:=of_decide_eq_false h;have h4:=eM hl (i:=q) (j:=i) h1 h2;rcases FY (show s x≤s (l.getD i 0) by omega)with h5|h5
   ·exact .inl h5
   ·exact .inr ⟨h5,hbm⟩
theorem kX {r:Nat->Nat->Prop} (hr:∀a b,r a b->r b a->False) {a b:List Nat}:a.Perm b->a.Pairwise r->b.Pairwise r->a=b:=oW fun _ _ h1 h2=>(hr _ _ h1 h2).elim
theorem mT {s:Nat->Nat}:∀a b,cg s a b->cg s b a->False:=fun a b h1 h2=>by
 unfold cg at*;omega
end
section
theorem dq (h:x<n):(aK T n n)[x]? =some (score T n x):=by
 unfold aK;rw[Eu,FL h];rfl
noncomputable def jE (p:Params) (c_scores:Addr) (pm:Value) (c':Addr) (aq:Value):Obj:=kla_obj "<lambda>" "law.<locals>.<lambda>" (bi p 144 [9,2,0,3]).args (bi p 144 [9,2,0,3]).expr (bS p 144 [9,2,0,3]) [("scores",c_scores)] pm c' aq
noncomputable def gw (p:Params) (c_scores:Addr) (pm:Value) (c':Addr) (aq:Value):FuncData:=gl (jE p c_scores pm c' aq)
theorem o0:(jE p c_scores pm c' aq).data = .func (gw p c_scores pm c' aq):=rfl
theorem uV:(gw p c_scores pm c' aq).body = .expr (bi p 144 [9,2,0,3]).expr :=rfl
theorem ka144f:KdA (ah (gw p c_scores pm c' aq) f L cs) [("other",.local),("scores",.free)]:=⟨by kernel_rfl,by kernel_rfl⟩
theorem yt:(([("other",none)]:Loc).map (·.1)).Nodup :=by decide
theorem yu:∀p∈([("other",none)]:Loc),p.2=none:=bF rfl
theorem yv {a_other:AV} {K:List (Str×AV)->Led->Prop} (h:K [("other",a_other)] aa):WB Γ (gw p c_scores pm c' aq) [a_other] [] aa K:=by
 exact WB.q1 (fun _=>by kernel_rfl) .nil h
theorem uW {a_other:AV} (hT:TopG Γ) (hk:0<Γ.k) (hm:(f,bg (jE Γ.w.params c_scores pm c' aq))∈aa) (h:∀L,WE Γ.dn (ah (gw Γ.w.params c_scores pm c' aq) f L [("scores",c_scores)]) (bi Γ.w.params 144 [9,2,0,3]).expr ((L,ab [("other",some a_other)])::aa) fun a o2=>∃o3,Less o3 o2∧K a o3):ai Γ (.ref f) [a_other] [] aa K:=by
 refine cZ hk hT (cM hm o0) uV yt yu (yv fun L cs hcs=> ?_) (by kernel_rfl) (by kernel_rfl);rw[af (cs:=cs) hcs];show WBinds _ (ah (gw Γ.w.params c_scores pm c' aq) f L [("scores",c_scores)]) _ ((L,ab _)::aa) fun o1=>WE _ (ah (gw Γ.w.params c_scores pm c' aq) f L [("scores",c_scores)]) _ o1 _;refine st_local (ka144f.at 0 (by kernel_rfl)) lf (by show"upd") (by show"put") ?_;exact h L
noncomputable def qT (s:Nat->Nat):AV->Int
 | .int k=>(s k.toNat:Int)
 |_=>0
theorem uX {sc:Addr} (hT0:TopG Γ) (hn:n≤20) (h1:cR c_scores sc∈aa) (h2:lL sc (ae (aK T n n))∈aa):
 bn 1 Γ (.ref f) (gV n) (qT (score T n)) (fun _ o=>o=(f,bg (jE Γ.w.params c_scores pm c' aq))::aa):=by
 rintro h' hs c o rfl;refine⟨aV (.head _) o0,fun hc a ha=> ?_⟩;obtain⟨other,hother,rfl⟩:=ha;have hT1:TopG (Γ.to h' 1):=hT0.to hs;refine uW hT1 (Fy 0) (.head _) fun L=> ?_;have hT:TopG (Γ.to h' 1).dn :=hT1.dn;clear hT1;refine w_Subscript ?_;show"w144f";refine ar (vs:=ae (aK T n n)) (.tail _ (.tail _ h2)) (Er _) (by omega) (by rw[Es];exact cm (dq hother)) ?_;exact⟨_,Less.skip Less.refl,by simp[qT],rfl⟩
theorem Bv {s:Nat->Nat} {l:List Nat}:bh (fun i=>decide (qT s (.int x)<qT s ((ae l).getD i .none))) 0 (ae l).length =bh (fun i=>decide (((s x:Nat):Int)<((s (l.getD i 0):Nat):Int))) 0 l.length:=by
 rw[aj];refine cS _ _ fun i _ hi=> ?_;rw[aQ hi];simp[qT]
theorem w5 {s:Nat->Nat} {l:List Nat}:bh (fun i=> !decide (qT s ((ae l).getD i .none)<qT s (.int x))) 0 (ae l).length =bh (fun i=> !decide (((s (l.getD i 0):Nat):Int)<((s x:Nat):Int))) 0 l.length:=by
 rw[aj];refine cS _ _ fun i _ hi=> ?_;rw[aQ hi];simp[qT]
section
variable {RL:Loc}
theorem yw {sc ra:Addr} (hS:Std Γ) (hk:60<Γ.k) (hn:n≤8) (hsc:lL sc (ae (aK T n n))∈aa):
 WX Γ (E4 Γ.w.params L C) (aY Γ.w.params 9) (cR C.scores sc::cR C.ranked ra::cO C.one u_one::cI C.count n::(L,ab (RL))::lL ra []::aa) fun f o=>f= .next ∧∃x1 rk,rk.Perm (Et n)∧rk.Pairwise (cg (score T n))∧Less (cR C.scores sc::cR C.ranked ra::cO C.one x1::cI C.count n::(L,ab (RL))::lL ra (ae rk)::aa) o:=by
 refine W.hide fun q0 hq0=> ?_;have hT:TopG Γ:=hS.T;refine dp ?_;show"w144@M41";refine bP fun rg=> ?_;refine⟨_,eD.less (bM (a:=0) (b:=n) (.head _) (by omega) (by omega) ⟨_,Less.skip Less.refl,fun i o=>∃x1 rk,rk.Perm (Et i)∧rk.Pairwise (cg (score T n))∧o=cR C.scores sc::cR C.ranked ra::cO C.one x1::cI C.count n::(L,ab (RL))::lL ra (ae rk)::aa,⟨_,[],.nil,.nil,rfl⟩,fun _ _ _=>trivial,?_,?_⟩)⟩
 ·rintro i J it o h' hit ⟨x1,rk,hperm,hpw,rfl⟩ hs
  have hS2:Std (Γ.at h'):=hS.at hs;have hT2:TopG (Γ.at h'):=hS2.T;rw[Eu,Ew]at hit;obtain⟨av,hav,rfl⟩:=hit
  have hin:i<n-0:=by
   have:=(EB.mp hav).1;rw[aG]at this;exact this
  rw[dU hin,E7]at hav;cases hav;have hrl:rk.length=i:=by have:=hperm.length_eq;rwa [EN]at this
  have hlt:∀x∈rk,x<i:=fun x hx=>EM.mp (hperm.mem_iff.mp hx);have hst:=cT (fun j=>decide (((score T n i:Nat):Int)<((score T n (rk.getD j 0):Nat):Int))) 0 rk.length;show WAsg _ _ _ _ _ _;show"w144@M41";refine b7 (c:=143) (P:=141) (q:="law.<locals>.<lambda>") hT2 (hS2.mem _ (by show"mem")) (hS2.uniq (by show"mem")) (by kernel_rfl) (by kernel_rfl) (by kernel_rfl) (by kernel_rfl) (clos:=[("scores",C.scores)]) (by kernel_rfl) fun f pm c' aq=> ?_;show WKw _ _ _ _ ((f,bg (jE Γ.w.params C.scores pm c' aq))::_) _;show"w144@M41";refine⟨am (pP _) hT2,?_⟩
  refine wX (m:=1) (c:=0) (D:=gV n) (kv:=qT (score T n)) (vs:=ae rk) hT2 (show 2<Γ.k by omega) (ac (by rw[aj];omega)) (fun j hj=> ?_) ⟨i,by omega,rfl⟩ ?_
   (uX (f:=f) (sc:=sc) (c_scores:=C.scores) (T:=T) (pm:=pm) (c':=c') (aq:=aq) (aa:=cR C.scores sc::cR C.ranked ra::cI C.one i::cI C.count n::(L,ab (RL))::lL ra (ae rk)::aa) hT2 (by omega) (by show"mem") (by show"mem")) rfl rfl ?_ ?_
  ·rw[aj]at hj
   exact⟨_,F4 (fY hlt hj) (by omega),aQ hj⟩
  ·rintro c o rfl;show"mem"
  ·rw[Bv];omega
  rintro o ho;rw[Bv,eK (f:=fun(d:Nat)=>AV.int (d:Int))];subst ho;refine⟨_,by show"upd",?_⟩;show"w144@M41";refine⟨rfl,_,Less.skip Less.refl,_,_,?_,nP hpw hlt,rfl⟩;rw[FH];exact dW.trans ((hperm.cons i).trans (Gx i _).symm)
 ·rintro o ⟨x1,rk,hperm,hpw,rfl⟩
  rw[En,aG,Fw]at hperm;subst hq0;exact⟨rfl,x1,rk,hperm,hpw,Less.refl⟩
end
end
section
noncomputable abbrev bN (b:Bool):Nat:=if b then 1 else 0
noncomputable def i8 (T:Nat->Nat->Bool) (x:Nat):List Nat->Nat
 |[]=>0
 |y::l=>bN (T x y)+i8 T x l
theorem o_:i8 T x []=0:=rfl
theorem dB {l:List Nat}:i8 T x (y::l)=bN (T x y)+i8 T x l:=rfl
noncomputable def bI (T:Nat->Nat->Bool):List Nat->List Nat->Nat
 |[],_=>0
 |x::a,b=>i8 T x b+bI T a b
theorem i9 {b:List Nat}:bI T [] b=0:=rfl
theorem cL {a b:List Nat}:bI T (x::a) b=i8 T x b+bI T a b:=rfl
theorem pb (T:Nat->Nat->Bool) (x:Nat):∀a b,i8 T x (a++b)=i8 T x a+i8 T x b:=fun z_=>by
 induction z_ with
 |nil=>intro b;simp[o_]
 |cons y a ih=>intro b;rw[EX,dB,dB,ih b];omega
theorem qm (T:Nat->Nat->Bool):∀a b c,bI T (a++b) c=bI T a c+bI T b c:=fun z_=>by
 induction z_ with
 |nil=>intro b c;simp[i9]
 |cons y a ih=>intro b c;rw[EX,cL,cL,ih b c];omega
theorem jF (T:Nat->Nat->Bool):∀a b c,bI T a (b++c)=bI T a b+bI T a c:=fun z_=>by
 induction z_ with
 |nil=>exact fun b c=>rfl
 |cons y a ih=>intro b c;rw[cL,cL,cL,pb,ih b c];omega
theorem mU (T:Nat->Nat->Bool) (x:Nat) {a b:List Nat} (h:a.Perm b):i8 T x a=i8 T x b:=by
 induction h with
 |nil=>rfl
 |cons y _ ih=>rw[dB,dB,ih]
 |swap y z l=>rw[dB,dB,dB,dB];omega
 |trans _ _ h1 h2=>rw[h1,h2]
theorem uY (T:Nat->Nat->Bool) (x:Nat):∀l,i8 T x l=(l.map fun y=>if T x y then 1 else 0).sum :=fun z_=>by
 induction z_ with
 |nil=>exact rfl
 |cons y l ih=>rw[dB,EQ,F6,ih]
theorem cV (T:Nat->Nat->Bool) (n x:Nat):score T n x=i8 T x (Et n):=by rw[uY];rfl
theorem C4 (hT:Tour n T) (ha:a<n):∀l:List Nat,(∀x∈l,x<n∧x≠a)->i8 T a l+bI T l [a]=l.length:=fun z_=>by
 induction z_ with
 |nil=>exact fun _=>rfl
 |cons x l ih=>
  intro h;have ih:=ih fun y hy=>h y (.tail _ hy);obtain⟨h1,h2⟩:=h x (.head _);have h3:=hT.anti a x ha h1 (Ne.symm h2);rw[dB,cL,dB,o_,EK];cases h4:T x a<;>rw[h4]at h3<;>simp[h3,bN]<;>omega
theorem gz (hT:Tour n T):∀l:List Nat,l.Nodup->(∀x∈l,x<n)->2*bI T l l=l.length*(l.length-1):=fun z_=>by
 induction z_ with
 |nil=>exact fun _ _=>rfl
 |cons a l ih=>
  intro hn h;rw[E2]at hn;have ih:=ih hn.2 fun x hx=>h x (.tail _ hx);have ha:=h a (.head _);have hb:=C4 hT ha l fun x hx=>⟨h x (.tail _ hx),fun e=>hn.1 (e▸hx)⟩
  have e:bI T (a::l) (a::l)=i8 T a l+bI T l [a]+bI T l l:=by
   rw[cL,dB,hT.irr a ha,show a::l=[a]++l from rfl,jF];simp[bN];omega
  rw[e,hb,Fe,ih,EK,E9];generalize l.length=m;cases m with
  |zero=>rfl
  |succ m=>
   have e1:(m+1+1)*(m+1)=(m+1)*m+(m+1)*2:=by rw[ER,←Fe]
   rw[E9,e1];omega
theorem nQ (T:Nat->Nat->Bool) (n:Nat) {r:List Nat} (hr:r.Perm (Et n)):∀l:List Nat,(l.map (score T n)).sum =bI T l r:=fun z_=>by
 induction z_ with
 |nil=>exact rfl
 |cons x l ih=>rw[EQ,F6,ih,cL,cV,mU T x hr]
theorem yx (hT:Tour n T) {r:List Nat} (hr:r.Perm (Et n)) (k:Nat):
 2*((r.take k).map (score T n)).sum =(r.take k).length *((r.take k).length -1)+2*bI T (r.take k) (r.drop k):=by
 have hnd:r.Nodup:=hr.nodup_iff.mpr Gf;have hlt:∀x∈r,x<n:=fun x hx=>EM.mp (hr.mem_iff.mp hx);have e:=nQ T n hr (r.take k);rw[e]
 have e2:bI T (r.take k) r=bI T (r.take k) (r.take k)+bI T (r.take k) (r.drop k):=by
  rw[←jF,FX]
 rw[e2,Fe,gz hT _ (hnd.sublist (HC _ _)) fun x hx=>hlt x (F1 hx)]
theorem sC (T:Nat->Nat->Bool) (x:Nat):∀l,i8 T x l=0↔∀y∈l,T x y=false:=fun z_=>by
 induction z_ with
 |nil=>simp[o_]
 |cons y l ih=>
  rw[dB,Ip,ih];simp only[Ij];refine and_congr ?_ Iff.rfl;cases T x y<;>simp[bN]
theorem eZ (T:Nat->Nat->Bool):∀a b,bI T a b=0↔∀x∈a,∀y∈b,T x y=false:=fun z_=>by
 induction z_ with
 |nil=>intro b;simp[i9]
 |cons x a ih=>intro b;rw[cL,Ip,sC,ih b,Ij]
noncomputable def aN (T:Nat->Nat->Bool) (r:List Nat) (k:Nat):Nat:=bI T (r.take k) (r.drop k)
noncomputable def g8 (T:Nat->Nat->Bool) (r:List Nat) (n:Nat):List Nat:=(Et n).map fun i=>aN T r (i+1)
noncomputable def cj (T:Nat->Nat->Bool) (r:List Nat) (n:Nat):List Nat:=((Et n).filter fun i=>decide (aN T r (i+1)=0)).map (·+1)
end
section
theorem iv (l:List Nat) (k:Nat):sliceL (ae l) none (some (k:Int))=ae (l.take k):=by
 show(ae l).take (k:Int).toNat =_;rw[Es];exact(Hu ..).symm
theorem eh {l:List Nat} (h:((ae l).map Item.one)[i]? =some it):∃d,it= .one (.int (d:Nat))∧l[i]? =some d:=by
 rw[Eu,Eu,Ew]at h;obtain⟨av,hav,rfl⟩:=h;rw[Ew]at hav;obtain⟨d,hd,rfl⟩:=hav;exact⟨d,rfl,hd⟩
theorem dw (h:((gP a b).map Item.one)[i]? =some it):i<b-a∧it= .one (.int ((a+i:Nat):Int)):=by
 rw[Eu,Ew]at h;obtain⟨av,hav,rfl⟩:=h
 have hi:i<b-a:=by
  have:=(EB.mp hav).1
  rwa [aG]at this
 rw[dU hi]at hav;cases hav;exact⟨hi,rfl⟩
theorem sD (hT:Tour n T) {r:List Nat} (hr:r.Perm (Et n)) (hi:i<n):
 ((ci ((r.take (i+1)).map (score T n))).sum -((((i+1:Nat):Int))*(((i+1:Nat):Int)-1)).fdiv 2)=((aN T r (i+1):Nat):Int):=by
 have h:=yx hT hr (i+1);have hl:(r.take (i+1)).length =i+1:=by rw[EJ,hr.length_eq,EN];omega
 rw[hl,E9]at h;rw[jC,show(((i+1:Nat):Int)-1)=(i:Int)from by omega,←Fn,FF _ (by decide)];unfold aN;generalize ((r.take (i+1)).map (score T n)).sum =S at*;generalize (i+1)*i=P at*;omega
noncomputable def fF (p:Params):Scope:=bS p 144 [10,0]
theorem yy (p:Params):(fF p).kind = .function :=by kernel_rfl
theorem yz (p:Params):∀x∈(fF p).names,x.2= .local ->(fF p).names.lookup x.1=some .local :=aJ (by kernel_rfl)
theorem ek144g {L144g:Addr} {c144g:List (Str×Addr)}:EnvOk (aM (fF p) (E4 p L C) L144g c144g):=⟨by kernel_rfl,by kernel_rfl⟩
theorem ka144g {L144g:Addr} {c144g:List (Str×Addr)}:KdA (aM (fF p) (E4 p L C) L144g c144g) [("k",.local),("sum",.globalImplicit),("ranked",.cell),("scores",.cell)]:=⟨by kernel_rfl,by kernel_rfl⟩
noncomputable def jG (p:Params):Scope:=bS p 144 [10,0,0,0,1]
theorem yA (p:Params):(jG p).kind = .function :=by kernel_rfl
theorem yB (p:Params):∀x∈(jG p).names,x.2= .local ->(jG p).names.lookup x.1=some .local :=aJ (by kernel_rfl)
theorem ka144h {L1:Addr} {c1:List (Str×Addr)} {L144h:Addr} {c144h:List (Str×Addr)}:KdA (aM (jG p) (aM (fF p) (E4 p L C) L1 c1) L144h c144h) [("one",.local),("scores",.cell)]:=⟨by kernel_rfl,by kernel_rfl⟩
section
variable {RL:Loc}
theorem uZ {sc ra:Addr} {rk:List Nat} (hT:TopG Γ) (hn:n≤8) (hTo:Tour n T) (hperm:rk.Perm (Et n)) (hsc:lL sc (ae (aK T n n))∈aa) (hra:lL ra (ae rk)∈aa):
 WX Γ (E4 Γ.w.params L C) (aY Γ.w.params 10) (cR C.scores sc::cR C.ranked ra::cO C.over u_over::cI C.count n::(L,ab (RL))::aa) fun f o=>f= .next ∧∃ol,Less (cR C.scores sc::cR C.ranked ra::cR C.over ol::cI C.count n::(L,ab (RL))::lL ol (ae (g8 T rk n))::aa) o:=by
 refine W.hide fun q0 hq0=> ?_;have hlen:rk.length=n:=by rw[hperm.length_eq,EN]
 have hlt:∀x∈rk,x<n:=fun x hx=>EM.mp (hperm.mem_iff.mp hx);refine x_Assign_Name ?_;refine aL (cl:=[("scores",C.scores),("ranked",C.ranked)]) (loc:=[("k",none)]) (by kernel_rfl) (yy Γ.w.params) (yz Γ.w.params) (by decide) (by simp) ?_;unfold bC;show"w144@M42";refine gO fun rg=> ?_;refine⟨_,eD.less (bM (a:=1) (b:=n+1) (.head _) (by omega) (by omega) ⟨cR C.scores sc::cR C.ranked ra::cO C.over u_over::cI C.count n::(L,ab (RL))::aa,Less.skip Less.refl,?_⟩)⟩;intro acc L2 cs2 hcs2;rw[af (cs:=cs2) hcs2];show aR _ _ 0 acc (aM (fF Γ.w.params) (E4 Γ.w.params L C) L2 [("scores",C.scores),("ranked",C.ranked)]) _ _ _ ((L2,ab [("k",none)])::lL acc []::cR C.scores sc::cR C.ranked ra::cO C.over u_over::cI C.count n::(L,ab (RL))::aa) _;refine aB (fun i o=>∃x,o=(L2,ab [("k",x)])::lL acc (ae ((Et i).map fun j=>aN T rk (j+1)))::cR C.scores sc::cR C.ranked ra::cO C.over u_over::cI C.count n::(L,ab (RL))::aa) rfl rfl ⟨none,rfl⟩ (fun _ _ _=>trivial) ?_ ?_
 ·rintro i J it o h' hit ⟨x,rfl⟩ hs
  have hT2:TopG (Γ.at h'):=hT.at hs;obtain⟨hi,rfl⟩:=dw hit;rw[E9]at hi;rw[Fd 1 i];show WAsg _ _ _ _ _ _;show"w144g";refine aL (cl:=[("scores",C.scores)]) (loc:=[("one",none)]) (by kernel_rfl) (yA Γ.w.params) (yB Γ.w.params) (by decide) (by simp) ?_;unfold bC;show"w144g";refine⟨trivial,Er _,ra,ae rk,rfl,by show"mem",ac (by rw[aj];omega),fun r2=> ?_⟩;rw[iv];refine⟨_,aW (vs:=ae (rk.take (i+1))) (by show"mem") ?_⟩;intro acc3 L3 cs3 hcs3;rw[af (cs:=cs3) hcs3];show aR _ _ 0 acc3 (aM (jG Γ.w.params) (aM (fF Γ.w.params) (E4 Γ.w.params L C) L2 [("scores",C.scores),("ranked",C.ranked)]) L3 [("scores",C.scores)]) _ _ _ ((L3,ab [("one",none)])::lL acc3 []::(r2,_)::(L2,_)::(acc,_)::cR C.scores sc::cR C.ranked ra::cO C.over u_over::cI C.count n::(L,ab (RL))::aa) _;refine aB (fun j o=>∃x,o=(L3,ab [("one",x)])::lL acc3 (ae (((rk.take (i+1)).take j).map (score T n)))::lL r2 (ae (rk.take (i+1)))::(L2,ab [nI "k" ((i+1:Nat):Int)])::lL acc (ae ((Et i).map fun j=>aN T rk (j+1)))::cR C.scores sc::cR C.ranked ra::cO C.over u_over::cI C.count n::(L,ab (RL))::aa) rfl rfl ⟨none,by rw[F9];rfl⟩ ?_ ?_ ?_
  ·rintro j o ⟨x,rfl⟩;show"mem"
  ·rintro j J it o h2 hit2 ⟨x,rfl⟩ hs2
   obtain⟨p,rfl,hp⟩:=eh hit2;have hpn:p<n:=hlt p (F1 (EF hp));show WAsg _ _ _ _ _ _;show"w144h";refine ar (vs:=ae (aK T n n)) (by show"mem") (Er _) (by omega) (by rw[Es];exact cm (dq hpn)) ?_;refine⟨ae (((rk.take (i+1)).take j).map (score T n)),_,_,.tail .head,ac (by rw[aj,En,EJ,EJ];omega),Less.refl,some (.int p),?_⟩;rw[E5 (l:=rk.take (i+1)) (i:=j),hp,Ez,cz];rfl
  ·rintro o ⟨x,rfl⟩
   rw[En,aj,EW];refine⟨_,_,Less.refl,?_⟩;show"w144g";rw[bo ((rk.take (i+1)).map (score T n))];refine mJ (.head _) ?_;show"w144g";have hkb:=bG (n:=i+1) (k:=5) (by omega);rw[show(((i+1:Nat):Int)-1)=(i:Int)from by omega];have hib:=bG (n:=i) (k:=5) (by omega);refine d8 (ef (by omega)) ?_;show"w144g";refine dT (by decide) (bX (by decide)) ?_;show"w144g";rw[show(i:Int)=((i+1:Nat):Int)-1 from by omega,sD hTo hperm (by omega)];refine⟨ae ((Et i).map fun j=>aN T rk (j+1)),_,_,.tail (.tail (.tail .head)),ac (by rw[aj,En,EN];omega),Less.skip (Less.skip Less.refl),some (.int ((i+1:Nat):Int)),?_⟩;rw[FH,Ez,cz];rfl
 ·rintro o ⟨x,rfl⟩
  rw[En,aG,E9];refine⟨_,_,Less.refl,?_⟩;show"w144@M42";subst hq0;exact⟨rfl,acc,by show"less"⟩
end
end
section
theorem sE (m:Nat) (x:Int):EH m (AV.int x)=aH (EH m x):=(IB ..).symm
theorem u6 (m:Nat):decide ((EH m (1:Int))=[])=decide (m=0):=by
 cases m<;>simp
theorem kY (T:Nat->Nat->Bool) (r:List Nat) (i:Nat):(((Et (i+1)).filter fun i=>decide (aN T r (i+1)=0)).map (·+1))=(((Et i).filter fun i=>decide (aN T r (i+1)=0)).map (·+1))++(if aN T r (i+1)=0 then [i+1]else []):=by
 rw[FH,F_,Ez]
 congr 1
 by_cases h:aN T r (i+1)=0<;>simp[h]
theorem sF (T:Nat->Nat->Bool) (x:Nat) {l:List Nat} (h:l[j]? =some y):i8 T x (l.take (j+1))=i8 T x (l.take j)+bN (T x y):=by
 rw[E5,h,pb];simp[dB,o_]
theorem nS (T:Nat->Nat->Bool) {l b:List Nat} (h:l[j]? =some y):bI T (l.take (j+1)) b=bI T (l.take j) b+i8 T y b:=by
 rw[E5,h,qm];simp[cL,i9]
theorem nT (T:Nat->Nat->Bool) (x:Nat):∀l,i8 T x l≤l.length
 |[]=>EL _
 |y::l=>by
  have:=nT T x l;have:bN (T x y)≤1:=by cases T x y<;>decide
  rw[dB,EK];omega
theorem sG (T:Nat->Nat->Bool):∀a b,bI T a b≤a.length*b.length:=fun z_=>by
 induction z_ with
 |nil=>intro b;simp[i9]
 |cons x a ih=>
  intro b;have h1:=ih b;have h2:=nT T x b;rw[cL,EK,Ft,FM];omega
noncomputable def gA (p:Params):Scope:=bS p 144 [11,0]
theorem yC (p:Params):(gA p).kind = .function :=by kernel_rfl
theorem yD (p:Params):∀x∈(gA p).names,x.2= .local ->(gA p).names.lookup x.1=some .local :=aJ (by kernel_rfl)
theorem ka144i {L144i:Addr} {c144i:List (Str×Addr)}:KdA (aM (gA p) (E4 p L C) L144i c144i) [("k",.cell),("arcs",.cell),("ranked",.cell)]:=⟨by kernel_rfl,by kernel_rfl⟩
noncomputable def jH (p:Params):Scope:=bS p 144 [11,0,3,0]
theorem yE (p:Params):(jH p).kind = .function :=by kernel_rfl
theorem yF (p:Params):∀x∈(jH p).names,x.2= .local ->(jH p).names.lookup x.1=some .local :=aJ (by kernel_rfl)
theorem ka144j {L1:Addr} {c1:List (Str×Addr)} {L144j:Addr} {c144j:List (Str×Addr)}:KdA (aM (jH p) (aM (gA p) (E4 p L C) L1 c1) L144j c144j) [("low",.local),("high",.local),("arcs",.cell),("k",.cell),("ranked",.cell)]:=⟨by kernel_rfl,by kernel_rfl⟩
noncomputable def jI (p:Params):Scope:=bS p 144 [12,0,1,0]
theorem yG (p:Params):(jI p).kind = .function :=by kernel_rfl
theorem yH (p:Params):∀x∈(jI p).names,x.2= .local ->(jI p).names.lookup x.1=some .local :=aJ (by kernel_rfl)
theorem ka144k {L144k:Addr} {c144k:List (Str×Addr)}:KdA (aM (jI p) (E4 p L C) L144k c144k) [("k",.local),("over",.cell)]:=⟨by kernel_rfl,by kernel_rfl⟩
section
variable {RL:Loc}
theorem u7 {A ra:Addr} {rk:List Nat} (hT:TopG Γ) (hn:n≤8) (hA:Arcs aa A n T rs) (hTo:Tour n T) (hperm:rk.Perm (Et n)) (hra:lL ra (ae rk)∈aa):
 WX Γ (E4 Γ.w.params L C) (aY Γ.w.params 11) (cR C.ranked ra::cO C.over u_over::cI C.count n::cR C.arcs A::(L,ab (("cuts",u_cuts)::RL))::aa) fun f o=>f= .next ∧∃cl,Less (cR C.ranked ra::cO C.over u_over::cI C.count n::cR C.arcs A::(L,ab (nR "cuts" cl::RL))::lL cl (ae (cj T rk n))::aa) o:=by
 refine W.hide fun q0 hq0=> ?_;have hlen:rk.length=n:=by rw[hperm.length_eq,EN]
 have hlt:∀x∈rk,x<n:=fun x hx=>EM.mp (hperm.mem_iff.mp hx);have hnd:rk.Nodup:=hperm.nodup_iff.mpr Gf;have hAt:=hA.top;refine bq (cl:=[("ranked",C.ranked),("arcs",C.arcs)]) (loc:=[]) (by kernel_rfl) (yC Γ.w.params) (yD Γ.w.params) (by decide) (by simp) ?_ (by kernel_rfl);unfold bC;show"w144@M43";refine gO fun rg=> ?_;refine⟨_,eD.less (bM (a:=1) (b:=n+1) (.head _) (by omega) (by omega) ⟨cR C.ranked ra::cO C.over u_over::cI C.count n::cR C.arcs A::(L,ab (("cuts",u_cuts)::RL))::aa,Less.skip Less.refl,?_⟩)⟩;intro acc L2 cs2 hcs2;have hcs3:cs2.map (·.1)=[("k":Str)]:=hcs2.trans (by kernel_rfl);obtain⟨ck,cs4,e4,hcs4⟩:=au hcs3;have e5:=af hcs4;clear hcs2 hcs3 hcs4;subst e5;subst e4;show aR _ _ 0 acc (aM (gA Γ.w.params) (E4 Γ.w.params L C) L2 [("k",ck),("ranked",C.ranked),("arcs",C.arcs)]) _ _ _ (cN ck::(L2,ab [])::lL acc []::cR C.ranked ra::cO C.over u_over::cI C.count n::cR C.arcs A::(L,ab (("cuts",u_cuts)::RL))::aa) _;refine aB (fun i o=>∃x,o=cO ck x::(L2,ab [])::lL acc (ae (((Et i).filter fun i=>decide (aN T rk (i+1)=0)).map (·+1)))::cR C.ranked ra::cO C.over u_over::cI C.count n::cR C.arcs A::(L,ab (("cuts",u_cuts)::RL))::aa) rfl rfl ⟨none,rfl⟩ (fun _ _ _=>trivial) ?_ ?_
 ·rintro i J it o h' hit ⟨x,rfl⟩ hs
  have hT2:TopG (Γ.at h'):=hT.at hs;obtain⟨hi,rfl⟩:=dw hit;rw[E9]at hi;rw[Fd 1 i];show WAsg _ _ _ _ _ _;show"w144i";refine aL (cl:=[("ranked",C.ranked),("k",ck),("arcs",C.arcs)]) (loc:=[("low",none),("high",none)]) (by kernel_rfl) (yE Γ.w.params) (yF Γ.w.params) (by decide) (by simp) ?_;unfold bC;show"w144i";refine⟨trivial,Er _,ra,ae rk,rfl,by show"mem",ac (by rw[aj];omega),fun r2=> ?_⟩;rw[iv];refine⟨_,aW (vs:=ae (rk.take (i+1))) (by show"mem") ?_⟩;intro acc3 L3 cs3 hcs3;rw[af (cs:=cs3) hcs3];show aR _ _ 0 acc3 (aM (jH Γ.w.params) (aM (gA Γ.w.params) (E4 Γ.w.params L C) L2 [("k",ck),("ranked",C.ranked),("arcs",C.arcs)]) L3 [("ranked",C.ranked),("k",ck),("arcs",C.arcs)]) _ _ _ ((L3,ab [("low",none),("high",none)])::lL acc3 []::(r2,_)::cI ck ((i+1:Nat):Int)::(L2,ab [])::lL acc (ae (((Et i).filter fun i=>decide (aN T rk (i+1)=0)).map (·+1)))::cR C.ranked ra::cO C.over u_over::cI C.count n::cR C.arcs A::(L,ab (("cuts",u_cuts)::RL))::aa) _;refine dk (fun a o=>∃x y,o=(L3,ab [("low",x),("high",y)])::lL acc3 (EH (bI T ((rk.take (i+1)).take a) (rk.drop (i+1))) (.int 1))::lL r2 (ae (rk.take (i+1)))::cI ck ((i+1:Nat):Int)::(L2,ab [])::lL acc (ae (((Et i).filter fun i=>decide (aN T rk (i+1)=0)).map (·+1)))::cR C.ranked ra::cO C.over u_over::cI C.count n::cR C.arcs A::(L,ab (("cuts",u_cuts)::RL))::aa) rfl rfl (by intro _;kernel_rfl) ⟨none,none,rfl⟩ ?_ ?_ ?_
  ·rintro a o ⟨x,y,rfl⟩;show"mem"
  ·rintro a J it o h2 hit2 ⟨x,y,rfl⟩ hs2
   obtain⟨low,rfl,hlow⟩:=eh hit2
   have hlow2:rk[a]? =some low:=by
    have ha:=(EB.mp hlow).1;rw[EJ]at ha
    rwa [GK,if_pos (by omega)]at hlow
   have ha:a<i+1:=by
    have ha:=(EB.mp hlow).1;rw[EJ]at ha;omega
   have hlown:=hlt low (EF hlow2);show WAsg _ _ _ _ _ _;show"w144j";refine⟨Er _,trivial,ra,ae rk,rfl,by show"mem",ac (by rw[aj];omega),fun r4=> ?_⟩;rw[io];refine⟨_,aW (vs:=ae (rk.drop (i+1))) (.head _) ?_⟩;dsimp only[J];rw[nS T hlow];have hbnd:=sG T ((rk.take (i+1)).take a) (rk.drop (i+1));have hb2:((rk.take (i+1)).take a).length *(rk.drop (i+1)).length ≤8*8:=FV (by rw[EJ,EJ];omega) (by rw[Fp];omega);generalize bI T ((rk.take (i+1)).take a) (rk.drop (i+1))=m0 at*;refine aB (fun b o=>∃y,o=lL r4 (ae (rk.drop (i+1)))::(L3,ab [nI "low" low,("high",y)])::lL acc3 (EH (m0+i8 T low ((rk.drop (i+1)).take b)) (.int 1))::lL r2 (ae (rk.take (i+1)))::cI ck ((i+1:Nat):Int)::(L2,ab [])::lL acc (ae (((Et i).filter fun i=>decide (aN T rk (i+1)=0)).map (·+1)))::cR C.ranked ra::cO C.over u_over::cI C.count n::cR C.arcs A::(L,ab (("cuts",u_cuts)::RL))::aa) rfl rfl ⟨y,by rw[F9];rfl⟩ ?_ ?_ ?_
   ·rintro b o ⟨y,rfl⟩;show"mem"
   ·rintro b J it o h3 hit3 ⟨y,rfl⟩ hs3
    obtain⟨high,rfl,hhigh⟩:=eh hit3;have hhigh2:rk[i+1+b]? =some high:=by rwa [Gj]at hhigh
    have hhn:=hlt high (EF hhigh2)
    have hne:low≠high:=fun e=>by
     have:=(G9 (by omega:a<rk.length) hnd).mp (hlow2.trans ((congrArg some e).trans hhigh2.symm));omega
    have han:=hTo.anti high low hhn hlown (Ne.symm hne);have hct:=nT T low ((rk.drop (i+1)).take b);have hctl:((rk.drop (i+1)).take b).length ≤8:=by rw[EJ,Fp];omega
    obtain⟨ro,g1,g2⟩:=hA.at hhn;show WAsg _ _ _ _ _ _;show"w144j";refine ar (vs:=rs.map AV.ref) (by show"mem") (Er _) (by omega) (by rw[Es];exact g1) ?_;show"w144j";refine ar (vs:=bB (aO T) n high) (by show"mem") (Er _) (by omega) (by rw[Es];exact bH hlown) ?_;show"w144j";dsimp only[J];rw[sF T low hhigh];cases hb:T low high with
    |true=>
     rw[hb]at han;rw[show(!((aO T high low)!=0))=true from by simp[aO,b2,han]];show"w144j";refine⟨_,_,_,.tail (.tail .head),ac (by rw[FN];omega),Less.refl,some (.int high),?_⟩;rw[←Gw];rfl
    |false=>
     rw[hb]at han;rw[show(!((aO T high low)!=0))=false from by simp[aO,b2,han]];show"w144j";exact⟨_,Less.refl,some (.int high),rfl⟩
   ·rintro o ⟨y,rfl⟩
    rw[En,aj,EW];exact⟨_,Less.skip Less.refl,_,_,rfl⟩
  ·rintro o ⟨x,y,rfl⟩
   rw[En,aj,EW];refine⟨_,_,Less.refl,?_⟩;show"w144i";refine⟨ac (Eo rfl),fun e=> ?_⟩;show"w144i";rw[sE];refine dP (ns:=EH (bI T (rk.take (i+1)) (rk.drop (i+1))) 1) (ms:=[]) (.tail _ (.head _)) (.head _) ?_;rw[u6];dsimp only[J];rw[kY];show WTr _ (.bool (decide (aN T rk (i+1)=0))) _ _
   have hfl:(((Et i).filter fun i=>decide (aN T rk (i+1)=0))).length ≤i:=by
    have:=Fv (fun i=>decide (aN T rk (i+1)=0)) (Et i)
    rwa [EN]at this
   by_cases h0:aN T rk (i+1)=0
   ·rw[decide_eq_true h0,if_pos h0]
    show"w144i";refine⟨(ae (((Et i).filter fun i=>decide (aN T rk (i+1)=0)).map (·+1))),_,_,.tail (.tail (.tail (.tail (.tail .head)))),ac (by rw[aj,En];omega),Less.skip (Less.skip (Less.skip Less.refl)),some (.int ((i+1:Nat):Int)),?_⟩;rw[dQ]
   ·rw[decide_eq_false h0,if_neg h0,EV]
    show"w144i";exact⟨_,Less.skip (Less.skip (Less.skip Less.refl)),some (.int ((i+1:Nat):Int)),rfl⟩
 ·rintro o ⟨x,rfl⟩
  rw[En,aG,E9];refine⟨cO ck x::lL acc (ae (cj T rk n))::cR C.ranked ra::cO C.over u_over::cI C.count n::cR C.arcs A::(L,ab (("cuts",u_cuts)::RL))::aa,[],Less.take (.tail .head) (Less.take .head Less.refl),?_⟩;show"w144@M43";subst hq0;exact⟨_,_,Less.refl,rfl,acc,by show"less"⟩
theorem u8 {ol cl:Addr} {rk:List Nat} (hT:TopG Γ) (hn:n≤8) (hn1:1≤n) (nn:lL ol (ae (g8 T rk n))∈aa) (hcl:lL cl (ae (cj T rk n))∈aa):
 WX Γ (E4 Γ.w.params L C) (aY Γ.w.params 12) (cO C.ranked u_ranked::cR C.over ol::cI C.count n::cO C.arcs u_arcs::(L,ab (nR "cuts" cl::RL))::aa) fun f o=>f= .next ∧Less (cO C.ranked u_ranked::cR C.over ol::cI C.count n::cO C.arcs u_arcs::(L,ab (nR "cuts" cl::RL))::aa) o:=by
 refine W.hide fun q0 hq0=> ?_;have hol2:lL ol (aH (ci (g8 T rk n)))∈aa:=bo _▸nn;have hcl2:lL cl (aH (ci (cj T rk n)))∈aa:=bo _▸hcl;have hovl:(g8 T rk n).length =n:=by simp[g8]
 refine x_If ?_;show"w144@M43";refine Bi (ns:=ci (g8 T rk n)) (by show"mem") (by rw[En,hovl];omega) fun M hM hMin=> ?_
 have hM0:0≤M:=by
  obtain⟨x,_,rfl⟩:=EP.mp hM;exact Er _
 show"w144@M43";rw[show decide (M<0)=false from decide_eq_false (by omega)];show"w144@M43";refine aL (cl:=[("over",C.over)]) (loc:=[("k",none)]) (by kernel_rfl) (yG Γ.w.params) (yH Γ.w.params) (by decide) (by simp) ?_;unfold bC;show"w144@M43";refine gO fun rg=> ?_;refine⟨_,eD.less (bM (a:=1) (b:=n+1) (.head _) (by omega) (by omega) ⟨cO C.ranked u_ranked::cR C.over ol::cI C.count n::cO C.arcs u_arcs::(L,ab (nR "cuts" cl::RL))::aa,Less.skip Less.refl,?_⟩)⟩;intro acc L2 cs2 hcs2;rw[af (cs:=cs2) hcs2];show aR _ _ 0 acc (aM (jI Γ.w.params) (E4 Γ.w.params L C) L2 [("over",C.over)]) _ _ _ ((L2,ab [("k",none)])::lL acc []::cO C.ranked u_ranked::cR C.over ol::cI C.count n::cO C.arcs u_arcs::(L,ab (nR "cuts" cl::RL))::aa) _;refine aB (fun i o=>∃x,o=(L2,ab [("k",x)])::lL acc (ae (((Et i).filter fun i=>decide (aN T rk (i+1)=0)).map (·+1)))::cO C.ranked u_ranked::cR C.over ol::cI C.count n::cO C.arcs u_arcs::(L,ab (nR "cuts" cl::RL))::aa) rfl rfl ⟨none,rfl⟩ (fun _ _ _=>trivial) ?_ ?_
 ·rintro i J it o h' hit ⟨x,rfl⟩ hs
  obtain⟨hi,rfl⟩:=dw hit;rw[E9]at hi;rw[Fd 1 i];show WAsg _ _ _ _ _ _;show"w144k";rw[show(((i+1:Nat):Int)-1)=(i:Int)from by omega]
  have hg:(g8 T rk n)[i]? =some (aN T rk (i+1)):=by
   unfold g8;rw[Eu,FL hi];rfl
  refine ar (vs:=ae (g8 T rk n)) (by show"mem") (Er _) (by omega) (by rw[Es];exact cm hg) ?_;show"w144k";dsimp only[J];rw[kY]
  have hfl:(((Et i).filter fun i=>decide (aN T rk (i+1)=0))).length ≤i:=by
   have:=Fv (fun i=>decide (aN T rk (i+1)=0)) (Et i)
   rwa [EN]at this
  by_cases h0:aN T rk (i+1)=0
  ·rw[show(((aN T rk (i+1):Nat):Int)==0)=true from by rw[beq_iff_eq];omega,if_pos h0]
   show"w144k";refine⟨(ae (((Et i).filter fun i=>decide (aN T rk (i+1)=0)).map (·+1))),_,_,.tail .head,ac (by rw[aj,En];omega),Less.refl,some (.int ((i+1:Nat):Int)),?_⟩;rw[dQ]
  ·rw[show(((aN T rk (i+1):Nat):Int)==0)=false from by rw[beq_eq_false_iff_ne];omega,if_neg h0,EV]
   show"w144k";exact⟨_,Less.refl,some (.int ((i+1:Nat):Int)),rfl⟩
 ·rintro o ⟨x,rfl⟩
  rw[En,aG,E9];refine⟨lL acc (aH (ci (cj T rk n)))::cO C.ranked u_ranked::cR C.over ol::cI C.count n::cO C.arcs u_arcs::(L,ab (nR "cuts" cl::RL))::aa,[("k",x)],by rw[←bo];exact Less.refl,?_⟩;show"w144@M43";refine fZ (ns:=ci (cj T rk n)) (ms:=ci (cj T rk n)) (by show"mem") (by show"mem") ?_;rw[decide_eq_true rfl,GT];show"w144@M43";subst hq0;refine⟨rfl,?_⟩;show"less"
end
end
section
noncomputable def aE (f:Nat->Nat):List Nat->Nat
 |[]=>0
 |x::l=>f x+aE f l
theorem iw {f:Nat->Nat}:aE f []=0:=rfl
theorem bY {f:Nat->Nat} {l:List Nat}:aE f (x::l)=f x+aE f l:=rfl
theorem mV (f:Nat->Nat):∀a b,aE f (a++b)=aE f a+aE f b:=fun z_=>by
 induction z_ with
 |nil=>intro b;simp[iw]
 |cons x a ih=>intro b;rw[EX,bY,bY,ih b];omega
theorem aT {f g:Nat->Nat}:∀{l:List Nat},(∀x∈l,f x=g x)->aE f l=aE g l:=fun {z_}=>by
 induction z_ with
 |nil=>exact fun _=>rfl
 |cons x l ih=>intro h;rw[bY,bY,h x (.head _),ih fun y hy=>h y (.tail _ hy)]
theorem cE (f g:Nat->Nat):∀l,aE (fun x=>f x+g x) l=aE f l+aE g l
 |[]=>rfl
 |x::l=>by rw[bY,bY,bY,cE f g l];omega
theorem fG (c:Nat) (f:Nat->Nat):∀l,aE (fun x=>c*f x) l=c*aE f l
 |[]=>rfl
 |x::l=>by rw[bY,bY,fG c f l,Fe]
theorem eO:∀l,aE (fun _=>0) l=0
 |[]=>rfl
 |x::l=>by rw[bY,eO l]
theorem kZ (f:Nat->Nat->Nat):∀a b,aE (fun x=>aE (fun y=>f x y) b) a=aE (fun y=>aE (fun x=>f x y) a) b:=fun z_=>by
 induction z_ with
 |nil=>exact fun b=>(eO b).symm
 |cons x a ih=>
  intro b;rw[bY,ih b,←cE];rfl
theorem g9 (f:Nat->Nat):∀l,(l.map f).sum =aE f l
 |[]=>rfl
 |x::l=>by rw[EQ,F6,g9 f l,bY]
theorem fH (T:Nat->Nat->Bool) (x:Nat):∀l,i8 T x l=aE (fun y=>bN (T x y)) l
 |[]=>rfl
 |y::l=>by rw[dB,bY,fH T x l]
theorem gB (T:Nat->Nat->Bool) (b:List Nat):∀a,bI T a b=aE (fun x=>i8 T x b) a
 |[]=>rfl
 |y::l=>by rw[cL,bY,gB T b l]
theorem iS (f:Nat->Nat) (p:Nat->Bool):∀l,aE f (l.filter p)=aE (fun x=>if p x then f x else 0) l:=fun z_=>by
 induction z_ with
 |nil=>exact rfl
 |cons x l ih=>
  rw[HK];cases h:p x<;>simp[bY,iw,h,ih]
noncomputable def bT (T:Nat->Nat->Bool) (n x:Nat):Nat:=aE (fun y=>aE (fun z=>bN (T x y&&T y z&&T z x)) (Et n)) (Et n)
section
theorem w6 (hT:Tour n T) (hy:y<n):aE (fun x=>bN (T x y)) (Et n)+score T n y=n-1:=by
 rw[cV,fH,←cE]
 have e:aE (fun x=>bN (T x y)+bN (T y x)) (Et n)=aE (fun x=>if x=y then 0 else 1) (Et n):=by
  refine aT fun x hx=> ?_;have hx':=EM.mp hx;by_cases h:x=y
  ·subst h;rw[hT.irr x hx'];simp[bN]
  ·rw[if_neg h,hT.anti x y hx' hy h]
   cases T y x<;>rfl
 rw[e]
 have key:∀m,aE (fun x=>if x=y then 0 else 1) (Et m)=if y<m then m-1 else m:=by
  intro m;induction m with
  |zero=>simp[iw]
  |succ m ih=>
   rw[FH,mV,ih,bY,iw];by_cases h1:m=y
   ·subst h1;simp
   ·rw[if_neg h1]
    by_cases h2:y<m
    ·rw[if_pos h2,if_pos (by omega)];omega
    ·rw[if_neg h2,if_neg (by omega)]
 rw[key,if_pos hy]
theorem jJ (hT:Tour n T) (hy:y<n):score T n y≤n-1:=by have:=w6 hT hy;omega
theorem k6 (hT:Tour n T) (hx:x<n):2*aE (fun y=>aE (fun z=>bN (T x y&&T y z&&T x z)) (Et n)) (Et n)=score T n x*(score T n x-1):=by
 have hB:((Et n).filter (T x)).length =score T n x:=by
  rw[cV,fH]
  have:∀l:List Nat,(l.filter (T x)).length =aE (fun y=>bN (T x y)) l:=by
   intro l;induction l with
   |nil=>rfl
   |cons a l ih=>
    rw[HK,bY];cases h:T x a<;>simp[bN,ih];omega
  exact this _
 have h:=gz hT ((Et n).filter (T x)) (List.nodup_range.filter _) fun y hy=>EM.mp (Go.mp hy).1;rw[hB]at h;rw[←h]
 congr 1
 rw[gB,iS];refine aT fun y _=> ?_;cases hxy:T x y with
 |false=>simp[bN,eO]
 |true=>
  rw[if_pos rfl,fH,iS];refine aT fun z _=> ?_;cases T y z<;>cases T x z<;>rfl
theorem qo (hT:Tour n T):2*aE (bT T n) (Et n)+6*aE (fun x=>score T n x*(score T n x-1)/2) (Et n)=n*(n-1)*(n-2):=by
 have ht:∀x,x<n->aE (fun y=>aE (fun z=>bN (T x y&&T y z&&T x z)) (Et n)) (Et n)=score T n x*(score T n x-1)/2:=fun x hx=>by
  exact(Nat.div_eq_of_eq_mul_right (by decide) (k6 hT hx).symm).symm
 have h1:aE (bT T n) (Et n)+aE (fun x=>score T n x*(score T n x-1)/2) (Et n)=aE (fun y=>(n-1-score T n y)*score T n y) (Et n):=by
  have e1:aE (fun x=>score T n x*(score T n x-1)/2) (Et n)=aE (fun x=>aE (fun y=>aE (fun z=>bN (T x y&&T y z&&T x z)) (Et n)) (Et n)) (Et n):=
   aT fun x hx=>(ht x (EM.mp hx)).symm
  rw[e1,←cE]
  have e2:∀x∈Et n,bT T n x+aE (fun y=>aE (fun z=>bN (T x y&&T y z&&T x z)) (Et n)) (Et n)=aE (fun y=>bN (T x y)*score T n y) (Et n):=by
   intro x hx;have hx':=EM.mp hx;unfold bT;rw[←cE];refine aT fun y hy=> ?_;have hy':=EM.mp hy;rw[←cE,cV,fH,←fG];refine aT fun z hz=> ?_;have hz':=EM.mp hz;by_cases hxz:x=z
   ·subst hxz
    rw[hT.irr x hx'];by_cases hxy:x=y
    ·subst hxy;rw[hT.irr x hx'];rfl
    ·have:=hT.anti x y hx' hy' hxy
     cases h:T y x<;>rw[h]at this<;>simp[this,bN]
   ·have:=hT.anti x z hx' hz' hxz
    cases h:T z x<;>rw[h]at this<;>cases T x y<;>cases T y z<;>simp[this,bN]
  rw[aT e2,kZ];refine aT fun y hy=> ?_;have hy':=EM.mp hy
  have e3:aE (fun x=>bN (T x y)*score T n y) (Et n)=score T n y*aE (fun x=>bN (T x y)) (Et n):=by
   rw[←fG];exact aT fun x _=>ER _ _
  rw[e3,ER]
  congr 1
  exact Nat.eq_sub_of_add_eq (w6 hT hy')
 have h2:2*aE (score T n) (Et n)=n*(n-1):=by
  have:=gz hT (Et n) Gf fun y hy=>EM.mp hy;rw[EN,gB]at this;rw[←this]
  congr 1
  exact aT fun x _=>cV T n x
 have h3:aE (fun y=>(n-1-score T n y)*score T n y) (Et n)+2*aE (fun x=>score T n x*(score T n x-1)/2) (Et n)=(n-2)*aE (score T n) (Et n):=by
  rw[←fG,←fG,←cE];refine aT fun y hy=> ?_;have hy':=EM.mp hy;have hle:=jJ hT hy';have htr:=k6 hT hy';generalize aE (fun y_1=>aE (fun z=>bN (T y y_1&&T y_1 z&&T y z)) (Et n)) (Et n)=t at htr;have h22:2*(score T n y*(score T n y-1)/2)=score T n y*(score T n y-1):=by rw[←htr,Ge _ (by decide)]
  rw[h22];generalize score T n y=s at*;rw[ER s (s-1),←Ft];by_cases hs:s=0
  ·subst hs;simp
  ·congr 1;omega
 have h4:n*(n-1)*(n-2)=2*((n-2)*aE (score T n) (Et n)):=by
  rw[←h2,Gp,ER (aE (score T n) (Et n))]
 rw[h4,←h3];omega
end
end
section
theorem f_ {f:Nat->Nat}:∀{l:List Nat},(∀x∈l,f x≤c)->aE f l≤c*l.length:=fun {z_}=>by
 induction z_ with
 |nil=>intro _;simp[iw]
 |cons x l ih=>
  intro h;have h1:=ih fun y hy=>h y (.tail _ hy);have h2:=h x (.head _);rw[bY,EK,Fe];omega
theorem jK (f:Nat->Nat) (k:Nat):aE f (Et (k+1))=aE f (Et k)+f k:=by
 rw[FH,mV];rfl
theorem sH (b:Bool):bN b≤1:=by cases b<;>decide
theorem qp (s:Nat):((s:Int)*((s:Int)-1)).fdiv 2=((s*(s-1)/2:Nat):Int):=by
 cases s with
 |zero=>rfl
 |succ m=>
  rw[show(((m+1:Nat):Int)-1)=(m:Int)from by omega,←Fn,FF _ (by decide),E9];omega
theorem nU (h:2≤n):((n:Int)*((n:Int)-1)*((n:Int)-2))=((n*(n-1)*(n-2):Nat):Int):=by
 rw[show((n:Int)-1)=((n-1:Nat):Int)from by omega,show((n:Int)-2)=((n-2:Nat):Int)from by omega,Fn,Fn]
noncomputable def ix (p:Params):Scope:=bS p 144 [14,2,0,1,1]
theorem yI (p:Params):(ix p).kind = .function :=by kernel_rfl
theorem yJ (p:Params):∀x∈(ix p).names,x.2= .local ->(ix p).names.lookup x.1=some .local :=aJ (by kernel_rfl)
theorem ek144l {L144l:Addr} {c144l:List (Str×Addr)}:EnvOk (aM (ix p) (E4 p L C) L144l c144l):=⟨by kernel_rfl,by kernel_rfl⟩
theorem ka144l {L144l:Addr} {c144l:List (Str×Addr)}:KdA (aM (ix p) (E4 p L C) L144l c144l) [("other",.local),("last",.local),("range",.globalImplicit),("arcs",.cell),("count",.cell),("one",.cell)]:=⟨by kernel_rfl,by kernel_rfl⟩
noncomputable def jL (p:Params):Scope:=bS p 144 [15,0,1,1,1,1]
theorem yK (p:Params):(jL p).kind = .function :=by kernel_rfl
theorem yL (p:Params):∀x∈(jL p).names,x.2= .local ->(jL p).names.lookup x.1=some .local :=aJ (by kernel_rfl)
theorem ka144m {L144m:Addr} {c144m:List (Str×Addr)}:KdA (aM (jL p) (E4 p L C) L144m c144m) [("score",.local)]:=⟨by kernel_rfl,by kernel_rfl⟩
section
variable {RL:Loc}
theorem u9:WX Γ (E4 Γ.w.params L C) (aY Γ.w.params 13) (cO C.scores u_scores::cO C.one u_one::cO C.count u_count::cO C.arcs u_arcs::(L,ab (("rings",u_rings)::RL))::aa) fun f o=>f= .next ∧∃ri,Less (cO C.scores u_scores::cO C.one u_one::cO C.count u_count::cO C.arcs u_arcs::(L,ab (nR "rings" ri::RL))::lL ri []::aa) o:=by
 refine W.hide fun q0 hq0=> ?_;refine x_Assign_Name ?_;show"w144@M44";refine⟨ac (Eo rfl),fun ri=> ?_⟩;show"w144@M44";subst hq0;refine⟨rfl,ri,?_⟩;show"less"
theorem u_ {A ri:Addr} (hT:TopG Γ) (hn:n≤8) (hA:Arcs aa A n T rs):
 WX Γ (E4 Γ.w.params L C) (aY Γ.w.params 14) (cO C.scores u_scores::cO C.one u_one::cI C.count n::cR C.arcs A::(L,ab (nR "rings" ri::RL))::lL ri []::aa) fun f o=>f= .next ∧∃x1,Less (cO C.scores u_scores::cO C.one x1::cI C.count n::cR C.arcs A::(L,ab (nR "rings" ri::RL))::lL ri (ae ((Et n).map (bT T n)))::aa) o:=by
 refine W.hide fun q0 hq0=> ?_;have hAt:=hA.top;refine dp ?_;show"w144@M44";refine bP fun rg=> ?_;refine⟨_,eD.less (bM (a:=0) (b:=n) (.head _) (by omega) (by omega) ⟨_,Less.skip Less.refl,fun i o=>∃x1,o=cO C.scores u_scores::cO C.one x1::cI C.count n::cR C.arcs A::(L,ab (nR "rings" ri::RL))::lL ri (ae ((Et i).map (bT T n)))::aa,⟨_,rfl⟩,fun _ _ _=>trivial,?_,?_⟩)⟩
 ·rintro one J it o h' hit ⟨x1,rfl⟩ hs
  have hT2:TopG (Γ.at h'):=hT.at hs;obtain⟨hi,rfl⟩:=dw hit;rw[E7];have hone:one<n:=by omega
  obtain⟨ro,g1,g2⟩:=hA.at hone;show WAsg _ _ _ _ _ _;show"w144@M44";refine cy PySem.slot_list_append PySem.type_list_append (vs:=ae ((Et one).map (bT T n))) (by show"mem") ?_;show"w144@M44";refine aL (cl:=[("one",C.one),("count",C.count),("arcs",C.arcs)]) (loc:=[("other",none),("last",none)]) (by kernel_rfl) (yI Γ.w.params) (yJ Γ.w.params) (by decide) (by simp) ?_;unfold bC;show"w144@M44";refine bP fun rg2=> ?_;refine⟨_,eD.less (bM (a:=0) (b:=n) (.head _) (by omega) (by omega) ⟨cO C.scores u_scores::cI C.one one::cI C.count n::cR C.arcs A::(L,ab (nR "rings" ri::RL))::lL ri (ae ((Et one).map (bT T n)))::aa,Less.skip Less.refl,?_⟩)⟩;intro acc L2 cs2 hcs2;rw[af (cs:=cs2) hcs2];show aR _ _ 0 acc (aM (ix Γ.w.params) (E4 Γ.w.params L C) L2 [("one",C.one),("count",C.count),("arcs",C.arcs)]) _ _ _ ((L2,ab [("other",none),("last",none)])::lL acc []::cO C.scores u_scores::cI C.one one::cI C.count n::cR C.arcs A::(L,ab (nR "rings" ri::RL))::lL ri (ae ((Et one).map (bT T n)))::aa) _;refine dk (fun a o=>∃x y,o=(L2,ab [("other",x),("last",y)])::lL acc (EH (aE (fun y=>aE (fun z=>bN (T one y&&T y z&&T z one)) (Et n)) (Et a)) (.int 1))::cO C.scores u_scores::cI C.one one::cI C.count n::cR C.arcs A::(L,ab (nR "rings" ri::RL))::lL ri (ae ((Et one).map (bT T n)))::aa) rfl rfl (by intro _;kernel_rfl) ⟨none,none,rfl⟩ (fun _ _ _=>trivial) ?_ ?_
  ·rintro other J it o h2 hit2 ⟨x,y,rfl⟩ hs2
   have hT3:TopG ((Γ.at h').at h2):=hT2.at hs2;obtain⟨hi2,rfl⟩:=dw hit2;rw[E7];have hother:other<n:=by omega
   obtain⟨rt,g3,g4⟩:=hA.at hother;show WAsg _ _ _ _ _ _;show"w144l";refine bP fun rg3=> ?_
   have hb1:aE (fun y=>aE (fun z=>bN (T one y&&T y z&&T z one)) (Et n)) (Et other)≤8*other:=by
    have:=f_ (f:=(fun y=>aE (fun z=>bN (T one y&&T y z&&T z one)) (Et n))) (c:=8) (l:=Et other) fun y _=>by
     have:=f_ (f:=fun z=>bN (T one y&&T y z&&T z one)) (c:=1) (l:=Et n) fun z _=>sH _;rw[EN]at this;show aE _ _≤8;omega
    rwa [EN]at this
   dsimp only[J];rw[jK];generalize aE (fun y=>aE (fun z=>bN (T one y&&T y z&&T z one)) (Et n)) (Et other)=m0 at*;refine⟨_,eD.less (bM (a:=0) (b:=n) (.head _) (by omega) (by omega) ⟨_,Less.skip Less.refl,?_⟩)⟩;refine aB (fun b o=>∃y,o=(L2,ab [nI "other" other,("last",y)])::lL acc (EH (m0+aE (fun z=>bN (T one other&&T other z&&T z one)) (Et b)) (.int 1))::cO C.scores u_scores::cI C.one one::cI C.count n::cR C.arcs A::(L,ab (nR "rings" ri::RL))::lL ri (ae ((Et one).map (bT T n)))::aa) rfl rfl ⟨y,rfl⟩ (fun _ _ _=>trivial) ?_ ?_
   ·rintro last J it o h3 hit3 ⟨y,rfl⟩ hs3
    obtain⟨hi3,rfl⟩:=dw hit3;rw[E7];have hlast:last<n:=by omega
    obtain⟨rl,g5,g6⟩:=hA.at hlast;have hb2:=f_ (f:=fun z=>bN (T one other&&T other z&&T z one)) (c:=1) (l:=Et last) fun z _=>sH _;rw[EN]at hb2;dsimp only[J];rw[jK];have e01:∀b:Bool,(b2 b !=0)=b:=fun b=>by cases b<;>rfl
    show WAsg _ _ _ _ _ _;show"w144l";refine ar (vs:=rs.map AV.ref) (by show"mem") (Er _) (by omega) (by rw[Es];exact g1) ?_;show"w144l";refine ar (vs:=bB (aO T) n one) (by show"mem") (Er _) (by omega) (by rw[Es];exact bH hother) ?_;show"w144l";rw[show(aO T one other !=0)=T one other from e01 _];cases h1:T one other with
    |false=>
     show"w144l";exact⟨_,Less.refl,some (.int last),rfl⟩
    |true=>
     show"w144l";refine ar (vs:=rs.map AV.ref) (by show"mem") (Er _) (by omega) (by rw[Es];exact g3) ?_;show"w144l";refine ar (vs:=bB (aO T) n other) (by show"mem") (Er _) (by omega) (by rw[Es];exact bH hlast) ?_;show"w144l";rw[show(aO T other last !=0)=T other last from e01 _];cases h2':T other last with
     |false=>
      show"w144l";exact⟨_,Less.refl,some (.int last),rfl⟩
     |true=>
      show"w144l";refine ar (vs:=rs.map AV.ref) (by show"mem") (Er _) (by omega) (by rw[Es];exact g5) ?_;show"w144l";refine ar (vs:=bB (aO T) n last) (by show"mem") (Er _) (by omega) (by rw[Es];exact bH hone) ?_;show"w144l";rw[show(aO T last one !=0)=T last one from e01 _];rw[h1]at hb2;cases h3':T last one with
      |false=>
       show"w144l";exact⟨_,Less.refl,some (.int last),rfl⟩
      |true=>
       show"w144l";refine⟨_,_,_,.tail .head,ac (by rw[FN];omega),Less.refl,some (.int last),?_⟩;rw[←Gw];rfl
   ·rintro o ⟨y,rfl⟩
    rw[En,aG,Fw];exact⟨_,Less.refl,_,_,rfl⟩
  ·rintro o ⟨x,y,rfl⟩
   rw[En,aG,Fw];refine⟨_,_,Less.refl,?_⟩;show"w144@M44"
   have hb:aE (fun y=>aE (fun z=>bN (T one y&&T y z&&T z one)) (Et n)) (Et n)≤64:=by
    have:=f_ (f:=(fun y=>aE (fun z=>bN (T one y&&T y z&&T z one)) (Et n))) (c:=8) (l:=Et n) fun y _=>by
     have:=f_ (f:=fun z=>bN (T one y&&T y z&&T z one)) (c:=1) (l:=Et n) fun z _=>sH _;rw[EN]at this;show aE _ _≤8;omega
    rw[EN]at this;omega
   refine eI (vs:=EH (aE (fun y=>aE (fun z=>bN (T one y&&T y z&&T z one)) (Et n)) (Et n)) (.int 1)) (by show"mem") (ac (by rw[FN];omega)) ?_;rw[FN];show"w144@M44";refine cY (vs:=ae ((Et one).map (bT T n))) (by show"upd") (ac (by rw[aj,En,EN];omega)) ?_;show"w144@M44";refine⟨rfl,_,Less.skip Less.refl,some (.int one),?_⟩;rw[FH,Ez,cz];rfl
 ·rintro o ⟨x1,rfl⟩
  rw[En,aG,Fw];subst hq0;exact⟨rfl,x1,Less.refl⟩
theorem vd {sc ri:Addr} (hT:TopG Γ) (hn:n≤8) (hn2:2≤n) (hTo:Tour n T) (hsc:lL sc (ae (aK T n n))∈aa) (hri:lL ri (ae ((Et n).map (bT T n)))∈aa):
 WX Γ (E4 Γ.w.params L C) (aY Γ.w.params 15) (cR C.scores sc::cO C.one u_one::cI C.count n::cO C.arcs u_arcs::(L,ab (nR "rings" ri::RL))::aa) fun f o=>f= .next ∧Less (cR C.scores sc::cO C.one u_one::cI C.count n::cO C.arcs u_arcs::(L,ab (nR "rings" ri::RL))::aa) o:=by
 refine W.hide fun q0 hq0=> ?_;have hri2:lL ri (aH (ci ((Et n).map (bT T n))))∈aa:=bo _▸hri;have hbits:∀m:Nat,m≤1000->Builtin.Int.intBits (m:Int)≤10:=fun m hm=>bG (by omega);refine x_If ?_;show"w144@M44";refine mJ (by show"mem") ?_;rw[jC,g9];show"w144@M44";have hb0:=hbits n (by omega);have hb1:=hbits (n-1) (by omega);have hb2:=hbits (n-2) (by omega);have e1:((n:Int)-1)=((n-1:Nat):Int):=by omega
 have e2:((n:Int)-2)=((n-2:Nat):Int):=by omega
 refine d8 (ef (by rw[e1];omega)) ?_;show"w144@M44"
 refine d8 (ef (by
  rw[e1,e2,←Fn];have:=hbits (n*(n-1)) (Ep (FV hn (show n-1≤8 by omega)) (by decide));omega)) ?_
 show"w144@M44";refine dT (by decide) (bX (by decide)) ?_;show"w144@M44";refine aL (cl:=[]) (loc:=[("score",none)]) (by kernel_rfl) (yK Γ.w.params) (yL Γ.w.params) (by decide) (by simp) ?_;unfold bC;show"w144@M44";refine⟨_,aW (vs:=ae (aK T n n)) (by show"mem") ?_⟩;intro acc L2 cs2 hcs2;rw[af (cs:=cs2) hcs2];show aR _ _ 0 acc (aM (jL Γ.w.params) (E4 Γ.w.params L C) L2 []) _ _ _ ((L2,ab [("score",none)])::lL acc []::cR C.scores sc::cO C.one u_one::cI C.count n::cO C.arcs u_arcs::(L,ab (nR "rings" ri::RL))::aa) _;refine aB (fun i o=>∃x,o=(L2,ab [("score",x)])::lL acc (ae (((aK T n n).take i).map fun s=>s*(s-1)/2))::cR C.scores sc::cO C.one u_one::cI C.count n::cO C.arcs u_arcs::(L,ab (nR "rings" ri::RL))::aa) rfl rfl ⟨none,rfl⟩ ?_ ?_ ?_
 ·rintro i o ⟨x,rfl⟩;show"mem"
 ·rintro i J it o h' hit ⟨x,rfl⟩ hs
  obtain⟨s,rfl,hsv⟩:=eh hit
  have hs7:s≤8:=by
   have hi:=(EB.mp hsv).1;rw[b9]at hi;rw[dq hi]at hsv;cases hsv;have:=jJ hTo hi;omega
  show WAsg _ _ _ _ _ _;show"w144m";have hbs:=hbits s (by omega)
  refine d8 (ef (by
   cases s with
   |zero=>decide
   |succ m=>
    rw[show(((m+1:Nat):Int)-1)=(m:Int)from by omega];have:=hbits m (by omega);omega)) ?_
  show"w144m";refine dT (by decide) (bX (by decide)) ?_;rw[qp];refine⟨ae (((aK T n n).take i).map fun s=>s*(s-1)/2),_,_,.tail .head,ac (by rw[aj,En,EJ,b9];omega),Less.refl,some (.int s),?_⟩;rw[E5,hsv,Ez,cz];rfl
 ·rintro o ⟨x,rfl⟩
  rw[En,aj,EW,bo];refine⟨_,_,Less.refl,?_⟩;show"w144@M44";refine mJ (.head _) ?_;rw[jC,aK,FC,g9]
  have hbt:aE ((fun s=>s*(s-1)/2)∘score T n) (Et n)≤32*n:=by
   have:=f_ (f:=(fun s=>s*(s-1)/2)∘score T n) (c:=32) (l:=Et n) fun y hy=>by
    have:=jJ hTo (EM.mp hy);have h8:score T n y*(score T n y-1)≤8*8:=FV (by omega) (by omega);show score T n y*(score T n y-1)/2≤32;omega
   rwa [EN]at this
  have hbt2:=hbits (aE ((fun s=>s*(s-1)/2)∘score T n) (Et n)) (by omega);refine d8 (ef (by have:Builtin.Int.intBits (3:Int)=2:=rfl;omega)) ?_;show"w144@M44";have hrs:=qo hTo
  have hfin:(((aE (bT T n) (Et n):Nat):Int)!=((n:Int)*((n:Int)-1)*((n:Int)-2)).fdiv 2-3*((aE ((fun s=>s*(s-1)/2)∘score T n) (Et n):Nat):Int))=false:=by
   rw[nU hn2,FF _ (by decide),bne_eq_false_iff_eq];have e3:aE ((fun s=>s*(s-1)/2)∘score T n) (Et n)=aE (fun x=>score T n x*(score T n x-1)/2) (Et n):=rfl;rw[e3];exact n422 hrs
  rw[hfin];show"w144@M44";subst hq0;refine⟨rfl,?_⟩;show"less"
end
end
section
theorem gb {p q:Nat->Bool}:∀{l:List Nat},(∀x∈l,p x=true->q x=true)->(∃a∈l,q a=true∧p a=false)->l.countP p<l.countP q:=fun {z_}=>by
 induction z_ with
 |nil=>intro _ h;obtain⟨a,ha,_⟩:=h;cases ha
 |cons x l ih=>
  intro h hw;have hm:l.countP p≤l.countP q:=Ig fun y hy=>h y (.tail _ hy);rw[He,He];obtain⟨a,ha,h1,h2⟩:=hw;rcases EG.mp ha with e|ha
  ·subst e
   rw[h1,h2];simp;omega
  ·have ih:=ih (fun y hy=>h y (.tail _ hy)) ⟨a,ha,h1,h2⟩
   have:=h x (.head _);cases hp:p x<;>cases hq:q x<;>simp_all<;>omega
theorem nV {D:Nat->Bool}:∀{l:List Nat},(∀i j:Nat,i≤j->j<l.length->D (l.getD j 0)=true->D (l.getD i 0)=true)->∀i,i<l.length->(D (l.getD i 0)=true↔i<l.countP D):=fun {z_}=>by
 induction z_ with
 |nil=>intro _ i h;simp at h
 |cons a l ih=>
  intro hp i hi
  have ih:=ih (fun i j hij hj hd=>by
   have:=hp (i+1) (j+1) (by omega) (by simpa using hj);simpa using this (by simpa using hd))
  rw[He];by_cases ha:D a=true
  ·rw[if_pos ha]
   cases i with
   |zero=>simp[ha]
   |succ i=>
    have:=ih i (by simpa using hi);simp only[GJ];rw[this];omega
  ·rw[if_neg ha]
   have h0:∀j,j<(a::l).length ->D ((a::l).getD j 0)≠true:=fun j hj hd=>ha (by simpa using hp 0 j (ET _) hj hd)
   have hc:l.countP D=0:=by
    rw[Ir];intro x hx;obtain⟨j,hj,e⟩:=cU hx;have:=h0 (j+1) (by simpa using hj);rw[GJ,e]at this;exact this
   rw[hc];exact⟨fun h=>absurd h (h0 i hi),fun h=>by omega⟩
theorem gC (T:Nat->Nat->Bool) (x:Nat):∀l,i8 T x l=l.countP (T x):=fun z_=>by
 induction z_ with
 |nil=>exact rfl
 |cons y l ih=>
  rw[dB,He,ih];cases T x y<;>simp[bN];omega
section
variable {rk:List Nat}
theorem nW (hT:Tour n T) (hr:rk.Perm (Et n)) (hpw:rk.Pairwise (cg (score T n))) {D:Nat->Bool} (hdom:∀a b,a<n->b<n->D a=true->D b=false->T b a=true):aN T rk (rk.countP D)=0:=by
 have hlt:∀x∈rk,x<n:=fun x hx=>EM.mp (hr.mem_iff.mp hx);have hsc:∀x,score T n x=rk.countP (T x):=fun x=>by rw[cV,←mU T x hr,gC]
 have hlow:∀a∈rk,D a=true->score T n a<rk.countP D:=fun a ha hD=>by
  rw[hsc];refine gb (fun y hy hty=> ?_) ⟨a,ha,hD,hT.irr a (hlt a ha)⟩;cases hDy:D y with
  |true=>rfl
  |false=>
   have h1:=hdom a y (hlt a ha) (hlt y hy) hD hDy;have hne:y≠a:=fun e=>by rw[e,hD]at hDy;cases hDy
   rw[hT.anti y a (hlt y hy) (hlt a ha) hne,hty]at h1;cases h1
 have hhigh:∀b∈rk,D b=false->rk.countP D≤score T n b:=fun b hb hD=>by
  rw[hsc];exact Ig fun y hy hDy=>hdom y b (hlt y hy) (hlt b hb) hDy hD
 have hmem:∀i,i<rk.length->rk.getD i 0∈rk:=fun i hi=>by
  rw[Ey,Ex hi];exact GE hi
 have hpre:=nV (D:=D) (l:=rk) fun i j hij hj hDj=>by
  have h1:=eM hpw hij hj;have h2:=hlow _ (hmem j hj) hDj;cases hDi:D (rk.getD i 0)with
  |true=>rfl
  |false=>have:=hhigh _ (hmem i (by omega)) hDi;omega
 refine(eZ T _ _).mpr fun x hx y hy=> ?_;obtain⟨i,h1,h2,rfl⟩:=gZ hx;obtain⟨j,h3,h4,rfl⟩:=g7 hy;have hDx:=(hpre i h2).mpr h1
 have hDy:D (rk.getD j 0)=false:=by
  cases h:D (rk.getD j 0)with
  |false=>rfl
  |true=>have:=(hpre j h4).mp h;omega
 have h5:=hdom _ _ (hlt _ (hmem i h2)) (hlt _ (hmem j h4)) hDx hDy;have hne:rk.getD i 0≠rk.getD j 0:=fun e=>by rw[e,hDy]at hDx;cases hDx
 rw[hT.anti _ _ (hlt _ (hmem i h2)) (hlt _ (hmem j h4)) hne,h5];rfl
theorem jM {f:Nat->Nat}:∀{l:List Nat},0<aE f l↔∃x∈l,0<f x:=fun {z_}=>by
 induction z_ with
 |nil=>simp[iw]
 |cons x l ih=>
  have ih:=ih;rw[bY];constructor
  ·intro h
   by_cases h0:0<f x
   ·exact⟨x,.head _,h0⟩
   ·obtain⟨y,hy,h1⟩:=ih.mp (by omega)
    exact⟨y,.tail _ hy,h1⟩
  ·rintro⟨y,hy,h1⟩
   rcases EG.mp hy with e|hy
   ·subst e;omega
   ·have:=ih.mpr ⟨y,hy,h1⟩;omega
theorem sI:0<bT T n x↔∃y z,y<n∧z<n∧T x y=true∧T y z=true∧T z x=true:=by
 unfold bT;rw[jM];constructor
 ·rintro⟨y,hy,h⟩
  obtain⟨z,hz,h⟩:=jM.mp h;refine⟨y,z,EM.mp hy,EM.mp hz,?_⟩;cases h1:T x y<;>cases h2:T y z<;>cases h3:T z x<;>simp[h1,h2,h3,bN]at h⊢
 ·rintro⟨y,z,hy,hz,h1,h2,h3⟩
  refine⟨y,EM.mpr hy,jM.mpr ⟨z,EM.mpr hz,?_⟩⟩;simp[h1,h2,h3,bN]
theorem g_ (h:rk[i]? =some x) (hi:i<k):x∈rk.take k:=
 EF (i:=i) (by rw[GK,if_pos hi];exact h)
theorem lV (h:rk[i]? =some x) (hi:k≤i):x∈rk.drop k:=
 EF (i:=i-k) (by rw[Gj,show k+(i-k)=i from by omega];exact h)
theorem dR (hT:Tour n T) (hr:rk.Perm (Et n)) (hc:aN T rk k=0) (hi:rk[i]? =some a) (hj:rk[j]? =some b) (h1:i<k) (h2:k≤j):T b a=true:=by
 have hlt:∀x∈rk,x<n:=fun x hx=>EM.mp (hr.mem_iff.mp hx);have hnd:rk.Nodup:=hr.nodup_iff.mpr Gf;have h:=(eZ T _ _).mp hc a (g_ hi h1) b (lV hj h2)
 have hne:b≠a:=fun e=>by
  have:=(G9 (EB.mp hi).1 hnd).mp (hi.trans ((congrArg some e.symm).trans hj.symm));omega
 rw[hT.anti b a (hlt _ (EF hj)) (hlt _ (EF hi)) hne,h];rfl
theorem qq (hT:Tour n T) (hr:rk.Perm (Et n)) (hpw:rk.Pairwise (cg (score T n))) {prev next p:Nat} (hprev:aN T rk prev=0) (hnext:aN T rk next=0) (h1:prev≤p) (h2:p<next) (h3:next≤n) (hno:∀k,prev<k->k<next->aN T rk k≠0) (hx:rk[p]? =some x):0<bT T n x↔1<next-prev:=by
 have hlen:rk.length=n:=by rw[hr.length_eq,EN]
 have hlt:∀x∈rk,x<n:=fun x hx=>EM.mp (hr.mem_iff.mp hx);have hnd:rk.Nodup:=hr.nodup_iff.mpr Gf;have hxn:=hlt x (EF hx)
 have at_:∀y,y<n->∃i,i<n∧rk[i]? =some y:=fun y hy=>by
  obtain⟨i,hi,e⟩:=Ii.mp (hr.mem_iff.mpr (EM.mpr hy));exact⟨i,by omega,by rw[←e];exact Ex hi⟩
 have inj:∀{i j y:Nat},rk[i]? =some y->rk[j]? =some y->i=j:=fun {i j y} hi hj=>(G9 (EB.mp hi).1 hnd).mp (hi.trans hj.symm)
 have no2:∀{a b:Nat},a<n->b<n->T a b=true->T b a=true->False:=fun {a b} ha hb h4 h5=>by
  by_cases e:a=b
  ·subst e;rw[hT.irr a ha]at h4;cases h4
  ·rw[hT.anti a b ha hb e,h5]at h4;cases h4
 rw[sI];constructor
 ·rintro⟨y,z,hy,hz,hxy,hyz,hzx⟩
  obtain⟨i,hi,hiy⟩:=at_ y hy;obtain⟨j,hj,hjz⟩:=at_ z hz;rcases FI 1 (next-prev)with h|h
  ·exact h
  ·exfalso
   have hp:p=prev:=by omega
   have hi1:i≠p:=fun e=>by
    subst e;rw[hx]at hiy;cases hiy;exact no2 hxn hxn hxy hxy
   have hj1:j≠p:=fun e=>by
    subst e;rw[hx]at hjz;cases hjz;exact no2 hxn hxn hzx hzx
   have hi2:i<prev:=by
    rcases FI i prev with q|q
    ·exact q
    ·exact(no2 hxn hy hxy (dR hT hr hnext hx hiy h2 (by omega))).elim
   have hj2:next≤j:=by
    rcases FI j next with q|q
    ·exact(no2 hz hxn hzx (dR hT hr hprev hjz hx (by omega) h1)).elim
    ·exact q
   exact no2 hy hz hyz (dR hT hr hprev hiy hjz hi2 (by omega))
 ·intro hsize
  refine Classical.byContradiction fun hring=> ?_;have noring:∀y z,y<n->z<n->T x y=true->T y z=true->T z x=true->False:=fun y z hy hz a b c=>hring ⟨y,z,hy,hz,a,b,c⟩
  have finish:∀E:Nat->Bool,(∀i j a b,rk[i]? =some a->rk[j]? =some b->prev≤i->i<next->prev≤j->j<next->E a=true->E b=false->T b a=true)->
   (∃i a,rk[i]? =some a∧prev≤i∧i<next∧E a=true)->(∃i a,rk[i]? =some a∧prev≤i∧i<next∧E a=false)->False:=by
   rintro E hE ⟨iy,y,hiy,y1,y2,hEy⟩ ⟨iz,z,hiz,z1,z2,hEz⟩
   have memI:∀{k i a:Nat},rk[i]? =some a->(decide (a∈rk.take k)=true↔i<k):=fun {k i a} hia=>by
    rw[decide_eq_true_iff];constructor
    ·intro hm
     obtain⟨q,hq1,hq2,e⟩:=gZ hm
     have:rk[q]? =some a:=by
      rw[Ex hq2];rw[Ey,Ex hq2]at e;exact congrArg some e
     have:=inj hia this;omega
    ·exact g_ hia
   have cnt_k:∀k,k≤n->rk.countP (fun a=>decide (a∈rk.take k))=k:=fun k hk=>by
    have e:rk=rk.take k++rk.drop k:=(FX _ _).symm
    have c1:(rk.take k).countP (fun a=>decide (a∈rk.take k))=k:=by
     rw[List.countP_eq_length.mpr (fun a ha=>decide_eq_true ha),EJ];omega
    have c2:(rk.drop k).countP (fun a=>decide (a∈rk.take k))=0:=by
     rw[Ir];intro a ha hm;obtain⟨q,hq1,hq2,e⟩:=g7 ha
     have hq:rk[q]? =some a:=by
      rw[Ex hq2];rw[Ey,Ex hq2]at e;exact congrArg some e
     have:=(memI hq).mp hm;omega
    calc rk.countP (fun a=>decide (a∈rk.take k))=(rk.take k++rk.drop k).countP (fun a=>decide (a∈rk.take k)):=by rw[FX]
     _=k:=by rw[List.countP_append,c1,c2,G3]
   have hcut:=nW hT hr hpw (D:=fun a=>decide (a∈rk.take prev)||(decide (a∈rk.take next)&&E a)) fun a b ha hb hDa hDb=>by
    obtain⟨i,hi,hia⟩:=at_ a ha;obtain⟨j,hj,hjb⟩:=at_ b hb;rw[Ik]at hDb
    have hjp:prev≤j:=by
     rcases FI j prev with q|q
     ·have:=(memI (k:=prev) hjb).mpr q;rw[this]at hDb;cases hDb.1
     ·exact q
    rcases Iv.mp hDa with h|h
    ·exact dR hT hr hprev hia hjb ((memI hia).mp h) hjp
    ·obtain⟨h5,h6⟩:=GW.mp h
     have hin:=(memI hia).mp h5;rcases FI j next with q|q
     ·have h7:=(memI (k:=next) hjb).mpr q
      rw[h7,Hw]at hDb;rcases FI i prev with q2|q2
      ·exact dR hT hr hprev hia hjb q2 hjp
      ·exact hE i j a b hia hjb q2 hin hjp q h6 hDb.2
     ·exact dR hT hr hnext hia hjb hin q
   refine hno _ ?_ ?_ hcut
   ·have:=gb (p:=fun a=>decide (a∈rk.take prev)) (q:=fun a=>decide (a∈rk.take prev)||(decide (a∈rk.take next)&&E a)) (l:=rk) (fun a _ h=>by
     have h':decide (a∈rk.take prev)=true:=h;show(decide (a∈rk.take prev)||(decide (a∈rk.take next)&&E a))=true;rw[h'];rfl)
     ⟨y,EF hiy,by
       show(decide (y∈rk.take prev)||(decide (y∈rk.take next)&&E y))=true;rw[(memI hiy).mpr y2,hEy];simp,by
       cases h:decide (y∈rk.take prev)with
       |false=>rfl
       |true=>have:=(memI hiy).mp h;omega⟩
    rw[cnt_k prev (by omega)]at this;exact this
   ·have:=gb (p:=fun a=>decide (a∈rk.take prev)||(decide (a∈rk.take next)&&E a)) (q:=fun a=>decide (a∈rk.take next)) (l:=rk) (fun a ha h=>by
     obtain⟨i,hi,hia⟩:=at_ a (hlt a ha);rcases Iv.mp h with h|h
     ·exact(memI hia).mpr (by have:=(memI hia).mp h;omega)
     ·exact(GW.mp h).1)
     ⟨z,EF hiz,(memI hiz).mpr z2,by
       have hz1:decide (z∈rk.take prev)=false:=by
        cases h:decide (z∈rk.take prev)with
        |false=>rfl
        |true=>have:=(memI hiz).mp h;omega
       show(decide (z∈rk.take prev)||(decide (z∈rk.take next)&&E z))=false;rw[hz1,hEz];simp⟩
    rw[cnt_k next h3]at this;exact this
  by_cases hO:∃i a,rk[i]? =some a∧prev≤i∧i<next∧T x a=true
  ·refine finish (T x) (fun i j a b hia hjb i1 i2 j1 j2 hEa hEb=> ?_) hO ⟨p,x,hx,h1,h2,hT.irr x hxn⟩
   have han:=hlt a (EF hia);have hbn:=hlt b (EF hjb);by_cases hbx:b=x
   ·rw[hbx];exact hEa
   ·have hbxT:T b x=true:=by rw[hT.anti b x hbn hxn hbx,hEb];rfl
    have hab:b≠a:=fun e=>by rw[e,hEa]at hEb;cases hEb
    cases h:T b a with
    |true=>rfl
    |false=>
     have:T a b=true:=by rw[hT.anti a b han hbn (Ne.symm hab),h];rfl
     exact(noring a b han hbn hEa this hbxT).elim
  ·refine finish (fun a=>a==x) (fun i j a b hia hjb i1 i2 j1 j2 hEa hEb=> ?_) ⟨p,x,hx,h1,h2,beq_self_eq_true x⟩ ?_
   ·have ea:a=x:=beq_iff_eq.mp hEa
    have eb:b≠x:=fun e=>by rw[e,beq_self_eq_true]at hEb;cases hEb
    subst ea;have hbn:=hlt b (EF hjb);cases h:T a b with
    |true=>exact(hO ⟨j,b,hjb,j1,j2,h⟩).elim
    |false=>rw[hT.anti b a hbn hxn eb,h];rfl
   ·have hq:∃q,prev≤q∧q<next∧q≠p:=by
     by_cases e:p=prev
     ·exact⟨prev+1,by omega,by omega,by omega⟩
     ·exact⟨prev,by omega,by omega,by omega⟩
    obtain⟨q,q1,q2,q3⟩:=hq;have hqg:rk[q]? =some (rk[q]'(by omega)):=Ex (by omega)
    exact⟨q,_,hqg,q1,q2,beq_eq_false_iff_ne.mpr fun e=>q3 (inj (hqg.trans (congrArg some e)) hx)⟩
end
end
section
section
variable {rk:List Nat}
theorem dC:k∈cj T rk n↔1≤k∧k≤n∧aN T rk k=0:=by
 unfold cj;rw[EP];constructor
 ·rintro⟨i,hi,rfl⟩
  obtain⟨h1,h2⟩:=Go.mp hi;exact⟨by omega,by have:=EM.mp h1;omega,of_decide_eq_true h2⟩
 ·rintro⟨h1,h2,h3⟩
  refine⟨k-1,Go.mpr ⟨EM.mpr (by omega),decide_eq_true ?_⟩,by omega⟩;rw[show k-1+1=k from by omega];exact h3
theorem iT:(cj T rk n).Pairwise (·<·):=by
 unfold cj;rw[G8];exact(List.pairwise_lt_range.filter _).imp fun h=>by omega
theorem lW {l:List Nat} (h:l.Pairwise (·<·)) (hij:i<j) (hj:j<l.length):l.getD i 0<l.getD j 0:=by
 rw[Ey,Ey,Ex (by omega),Ex hj];exact GH.mp h i j (by omega) hj hij
theorem hG {l:List Nat} (h:i<l.length):l.getD i 0∈l:=by
 rw[Ey,Ex h];exact GE h
noncomputable def cq (cs:List Nat) (p:Nat):Nat:=(bh (fun i=>decide ((p:Int)<((cs.getD i 0:Nat):Int))) 0 1).1+(bh (fun i=>decide ((p:Int)<((cs.getD i 0:Nat):Int))) 1 cs.length).1-1
theorem pc {cs:List Nat} {p:Nat} (hs:cs.Pairwise (·<·)) (hm:n∈cs) (hmax:∀k∈cs,k≤n) (hp:p<n):
 1≤cs.length∧1≤(bh (fun i=>decide ((p:Int)<((cs.getD i 0:Nat):Int))) 1 cs.length).1∧cq cs p<cs.length∧p<cs.getD (cq cs p) 0∧(0::cs).getD (cq cs p) 0≤p∧∀k∈cs,k≤(0::cs).getD (cq cs p) 0∨cs.getD (cq cs p) 0≤k:=by
 have hlen:1≤cs.length:=Ht.mpr fun e=>by rw[e]at hm;cases hm
 unfold cq;have r1:=bE (fun i=>decide ((p:Int)<((cs.getD i 0:Nat):Int))) 0 1 (by omega);have e1:=dX (fun i=>decide ((p:Int)<((cs.getD i 0:Nat):Int))) 0 1 (by omega);have r2:=bE (fun i=>decide ((p:Int)<((cs.getD i 0:Nat):Int))) 1 cs.length hlen;have e2:=dX (fun i=>decide ((p:Int)<((cs.getD i 0:Nat):Int))) 1 cs.length hlen;generalize (bh (fun i=>decide ((p:Int)<((cs.getD i 0:Nat):Int))) 0 1).1=a at*;generalize (bh (fun i=>decide ((p:Int)<((cs.getD i 0:Nat):Int))) 1 cs.length).1=b at*;obtain⟨il,hil,hiln⟩:=cU hm
 have hlast:il=cs.length-1:=by
  rcases FI il (cs.length-1)with h|h
  ·have h1:=lW hs h (by omega)
   have h2:=hmax _ (hG (l:=cs) (i:=cs.length-1) (by omega));omega
  ·omega
 refine⟨hlen,r2.1,?_⟩
 have fin:∀q,q<cs.length->p<cs.getD q 0->(0::cs).getD q 0≤p->(∀k∈cs,k≤(0::cs).getD q 0∨cs.getD q 0≤k):=by
  intro q hq _ _ k hk;obtain⟨i,hi,rfl⟩:=cU hk;rcases FI i q with h|h
  ·left
   cases q with
   |zero=>omega
   |succ q=>
    rw[GJ];rcases FY (show i≤q by omega)with h2|h2
    ·exact ES (lW hs h2 (by omega))
    ·subst h2;exact EL _
  ·right
   rcases FY h with h2|h2
   ·exact ES (lW hs h2 hi)
   ·subst h2;exact EL _
 by_cases ha:a=0
 ·
  have h0:p<cs.getD 0 0:=by
   rcases e1.2 with h|h
   ·omega
   ·have:=of_decide_eq_true h;rw[ha]at this;omega
  have hb:b=1:=by
   rcases e2.1 with h|h
   ·exact h
   ·have h1:=of_decide_eq_false h
    rcases FI (b-1) 1 with h2|h2
    ·omega
    ·have:=lW hs (show 0<b-1 by omega) (by omega);omega
  subst hb ha;exact⟨hlen,h0,ET _,fin 0 hlen h0 (ET _)⟩
 ·have ha1:a=1:=by omega
  have h0:cs.getD 0 0≤p:=by
   rcases e1.1 with h|h
   ·omega
   ·have:=of_decide_eq_false h;rw[ha1]at this;simp only[H5]at this;omega
  have hbl:b<cs.length∧p<cs.getD b 0:=by
   rcases e2.2 with h|h
   ·exfalso
    rcases e2.1 with h1|h1
    ·rw[h1]at h
     have:il=0:=by omega
     rw[this]at hiln;omega
    ·have h2:=of_decide_eq_false h1
     rw[h,←hlast]at h2;omega
   ·have h1:=of_decide_eq_true h
    refine⟨?_,by omega⟩;rcases FI b cs.length with h2|h2
    ·exact h2
    ·rw[Ey,Ie h2]at h1
     simp at h1;omega
  have hprev:(0::cs).getD b 0≤p:=by
   obtain⟨b',rfl⟩:∃b',b=b'+1:=⟨b-1,by omega⟩;rw[GJ];rcases e2.1 with h1|h1
   ·have:b'=0:=by omega
    subst this;exact h0
   ·have:=of_decide_eq_false h1
    rw[E9]at this;omega
  rw[ha1,FE];exact⟨hbl.1,hbl.2,hprev,fin b hbl.1 hbl.2 hprev⟩
theorem sJ (hT:Tour n T) (hr:rk.Perm (Et n)) (hpw:rk.Pairwise (cg (score T n))) {p:Nat} (hp:p<n) (hx:rk[p]? =some x):
 (0<bT T n x↔1<(cj T rk n).getD (cq (cj T rk n) p) 0-(0::cj T rk n).getD (cq (cj T rk n) p) 0):=by
 have hnm:n∈cj T rk n:=dC.mpr ⟨by omega,EL _,by
  unfold aN;rw[FJ (by rw[hr.length_eq,EN];exact EL _)];exact(eZ T _ _).mpr fun _ _ _ h=>nomatch h⟩
 obtain⟨h1,h2,h3,h4,h5,h6⟩:=pc (iT (n:=n) (T:=T) (rk:=rk)) hnm (fun k hk=>(dC.mp hk).2.1) hp;have hnx:=dC.mp (hG h3);refine qq hT hr hpw ?_ hnx.2.2 h5 h4 hnx.2.1 (fun k hk1 hk2 hc=> ?_) hx
 ·cases hq:cq (cj T rk n) p with
  |zero=>rfl
  |succ q=>
   rw[GJ];exact(dC.mp (hG (by omega))).2.2
 ·have:=h6 k (dC.mpr ⟨by omega,by omega,hc⟩)
  omega
end
end
section
open PySem PySem.W PyProof.Rows Builtin Builtin.ObjectAttr
theorem w7:typeLookup (.type "function") "__getattribute__"=pure (some (.builtin "object.__getattribute__")):=by rw[typeLookup_type,builtinLookup_eq_fast];kernel_rfl
theorem ve:typeLookup (.type "function") "__getattr__"=pure none:=by rw[typeLookup_type,builtinLookup_eq_fast];kernel_rfl
theorem iU:typeLookup (.type "function") "tag"=pure none:=by rw[typeLookup_type,builtinLookup_eq_fast];kernel_rfl
theorem fI:typeLookup (.type "function") "attrib"=pure none:=by rw[typeLookup_type,builtinLookup_eq_fast];kernel_rfl
theorem hH:typeLookup (.type "function") "tail"=pure none:=by rw[typeLookup_type,builtinLookup_eq_fast];kernel_rfl
theorem fJ:typeLookup (.type "function") "inside"=pure none:=by rw[typeLookup_type,builtinLookup_eq_fast];kernel_rfl
theorem fK:typeLookup (.type "function") "append"=pure none:=by rw[typeLookup_type,builtinLookup_eq_fast];kernel_rfl
theorem dG:typeLookup (.type "function") "makeelement"=pure none:=by rw[typeLookup_type,builtinLookup_eq_fast];kernel_rfl
theorem eP:typeLookup (.type "function") "itertext"=pure none:=by rw[typeLookup_type,builtinLookup_eq_fast];kernel_rfl
theorem mW:StoreFacts "function" [.type "function",.type "object"] "object.__setattr__" "object" where
 mro:=by kernel_rfl
 slot:= .of (owner:="object") (n:="__setattr__") (by rw[typeLookup_type,builtinLookup_eq_fast];kernel_rfl) (by decide+kernel) (by decide+kernel) (by decide+kernel)
  (by first|exact .inl (by decide+kernel)|exact .inr (by decide+kernel)) (by rw[isSubtype_type];kernel_rfl)
 entry:=F.entry_object_sa
 kind:=by decide+kernel
 split:=by decide+kernel
 hasOwner:=by decide+kernel
 args:=fun a b c=>by unfold argsOk;kernel_rfl
 passes:=fun self=>by kernel_rfl
section
variable {prog:Program} {x:Addr} {name:Str} {sl:Array (Option Value)}
noncomputable abbrev k7 (fd:FuncData) (d:Option Addr) (sl:Array (Option Value)):Obj:={cls:= .type "function",dict:=d,data:= .func fd,slots:=sl}
theorem lX {d:Option Addr} (hx:s.heap.get? x=some (k7 fd d sl)):Looks (model prog w) s.heap (typeOf (.ref x)) (.type "function"):=(Looks.ld hx).andThen .now
theorem sK {d:Option Addr} {tk:Tok} {R:Result->Shared->Prop} (hx:s.heap.get? x=some (k7 fd d sl)) (hB:typeLookup (.type "function") name=pure none) (h:wpAny (model prog w) A.in1 (storeInOwnDict (.ref x) (.type "function") (.str name tk) name v false) (fun fin s'=>match fin with| .done f=>R (.ok f) s'| .again c'=>c'.quiet=true∧codeAny (model prog w) A c' R s') (fun e s'=>R (.error e) s') s):
 codeAny (model prog w) A (.call (.builtin "object.__setattr__") ⟨[.ref x,.str name tk,v],[]⟩) R s:=by
 have SF:=mW;have L:=lX (prog:=prog) (w:=w) hx;have sub:Looks (model prog w) s.heap (isInstance (.ref x) (.type "object")) true:=L.andThen (Looks.of_pure (by rw[isSubtype_type];kernel_rfl));refine codeAny_call_builtin SF.slot.plain SF.entry (@check_slot (model prog w) _ _ s "object.__setattr__" "object" "__setattr__" (.ref x) [.str name tk,v] [] _ SF.kind SF.split sub (SF.args (.ref x) (.str name tk) v) ?_);rw[osa_eq,refuse_eq];refine wpAny_bind (wpAny_bind (L.here (wpAny_bind (wpAny_of_eq SF.mro ?_))));rw[SF.passes];exact wpAny_pure (wpAny_bind (L.here (wpAny_bind (wpAny_of_eq hB (wpAny_bind (wpAny_of_eq (show storeTaker? none=pure none from rfl) h))))))
theorem mX:ownStreamTells (.ref x) (.type "function")=pure ():=by kernel_rfl
theorem yM {d:Addr} {tk:Tok} {m:Str->Option Value} {ns:List Str} {R:Fin->Shared->Prop} (hx:s.heap.get? x=some (k7 fd (some d) sl)) (hn:s.heap.Ns1 d m) (hw:Within m ns) (hsz:ns.length<100) (h:∀h',h'.Ns1 d (fun y=>if y=name then some v else m y)->Heap.SameBut d s.heap h'->R (.done (.ret .none)) {s with heap:=h',toks:=s.toks+1}):
 wpAny (model prog w) A (storeInOwnDict (.ref x) (.type "function") (.str name tk) name v false) R E s:=by
 unfold storeInOwnDict;refine wpAny_bind (wpAny_of_eq mX ?_);show wpAny _ _ (ownDictForStores (.ref x)>>=_) _ _ _;unfold ownDictForStores;simp only;unfold instanceDict;refine wpAny_bind (wpAny_bind (wpAny_loadPart hx ?_));show wpAny _ _ (pure (some d)) _ _ _;refine wpAny_pure ?_;show wpAny _ _ (storeInDict d (.str name tk) name v) _ _ _;unfold storeInDict newKeyGuard;refine wpAny_bind (wpAny_pure (wpAny_bind (wpAny_nsSet1 hn fun h' hn' hs=> ?_)));obtain⟨oD,esD,epD,hoD,hdD,hcD⟩:=hn'.count (Within.cons name v hw);have hz:(200:Nat)≤sizeLine:=by decide
 refine wpAny_bind (wpAny_lookBehind hoD (by rw[hdD];exact pastItsLine_dict (Ep hcD (by rw[EK];omega))) ?_);exact wpAny_pure (h h' hn' hs)
theorem qr {tk:Tok} {R:Fin->Shared->Prop} (hx:s.heap.get? x=some (k7 fd none sl)) (h:∀h',h'.Ns1 s.heap.objs.size (fun y=>if y=name then some v else none)->h'.get? x=some (k7 fd (some s.heap.objs.size) sl)->(∀b o,b≠x->s.heap.get? b=some o->h'.get? b=some o)->R (.done (.ret .none)) {s with heap:=h',toks:=s.toks+1}):
 wpAny (model prog w) A (storeInOwnDict (.ref x) (.type "function") (.str name tk) name v false) R E s:=by
 have hlt:=Heap.lt_size hx;unfold storeInOwnDict;refine wpAny_bind (wpAny_of_eq mX ?_);show wpAny _ _ (ownDictForStores (.ref x)>>=_) _ _ _;unfold ownDictForStores;simp only;unfold instanceDict;refine wpAny_bind (wpAny_bind (wpAny_loadPart hx ?_));have hd:typeHasDict (.type "function")=true:=by kernel_rfl
 have hx1:(s.heap.push {cls:= .type "dict",data:= .dict #[]}).get? x=some (k7 fd none sl):=Heap.get?_push_of_some _ hx
 simp only[hd,GT,Bool.or_self,E1,if_false];refine wpAny_bind (wpAny_alloc ?_);refine wpAny_bind (wpAny_update' hx1 ?_);have hfin:finalisedInACycleAlone "function"=false:=by kernel_rfl
 unfold dictMade;simp only[hfin,E1,if_false];refine wpAny_bind (wpAny_pure (wpAny_pure ?_));show wpAny _ _ (storeInDict s.heap.objs.size (.str name tk) name v) _ _ _;unfold storeInDict newKeyGuard;have hxs:x≠s.heap.objs.size:=Gh hlt
 have hgd:((s.heap.push {cls:= .type "dict",data:= .dict #[]}).update x fun o=>{cls:=o.cls,dict:=some s.heap.objs.size,data:=o.data,slots:=o.slots}).get? s.heap.objs.size=some {cls:= .type "dict",data:= .dict #[]}:=
  (Heap.get?_update_ne _ _ _ _ hxs.symm).trans (Heap.get?_push_size _ rfl)
 have hnd:((s.heap.push {cls:= .type "dict",data:= .dict #[]}).update x fun o=>{cls:=o.cls,dict:=some s.heap.objs.size,data:=o.data,slots:=o.slots}).Ns s.heap.objs.size (fun _=>none):=
  ⟨_,#[],_,hgd,rfl,fun e he=>absurd he (by simp),fun _=>rfl⟩
 refine wpAny_bind (wpAny_pure (wpAny_bind (wpAny_nsSet1 (Heap.Ns1.of_empty hnd) fun h' hn' hs=> ?_)));obtain⟨oD,esD,epD,hoD,hdD,hcD⟩:=hn'.count (Within.cons name v Within.nil);have hz:(200:Nat)≤sizeLine:=by decide
 refine wpAny_bind (wpAny_lookBehind hoD (by rw[hdD];exact pastItsLine_dict (Ep hcD (by rw[EK,GX];omega))) ?_);refine wpAny_pure (h h' hn' ?_ fun b o hb e=> ?_)
 ·exact(hs.2 x hxs).trans (Heap.get?_update_self _ hx1 rfl)
 ·exact(hs.2 b (Gh (Heap.lt_size e))).trans ((Heap.get?_update_ne _ _ _ _ hb).trans (Heap.get?_push_of_some _ e))
theorem jN:Slot "function" "__getattribute__" "object.__getattribute__":=
 .of (owner:="object") (n:="__getattribute__") (by rw[typeLookup_type,builtinLookup_eq_fast];kernel_rfl) (by decide+kernel) (by decide+kernel) (by decide+kernel)
   (by first|exact .inl (by decide+kernel)|exact .inr (by decide+kernel)) (by rw[isSubtype_type];kernel_rfl)
theorem qt {d:Addr} {tk:Tok} {m:Str->Option Value} (hx:s.heap.get? x=some (k7 fd (some d) sl)) (hn:s.heap.Ns d m) (hm:m name=some v) (hB:typeLookup (.type "function") name=pure none) (h:Q v s):
 wpAny (model prog w) A (call (.builtin "object.__getattribute__") [.ref x,.str name tk]) Q E s:=by
 refine wpAny_call_entry jN ⟨_,hx,rfl⟩ PySem.F.entry_object_getattribute ?_ (PySem.F.args_object_getattribute_2 _ _);unfold Builtin.«object.__getattribute__»;refine wpAny_bind (wpAny_of_eq (a:=(Value.ref x,[Value.str name tk])) rfl ?_);refine wpAny_bind (wpAny_of_eq (a:=name) rfl ?_);refine wpAny_bind ((lX (prog:=prog) (w:=w) hx).here ?_);unfold find;refine wpAny_bind (wpAny_bind (wpAny_of_eq hB (wpAny_bind (wpAny_of_eq (a:=none) rfl (wpAny_bind (wpAny_of_eq (a:=none) rfl ?_))))));unfold ownThenClass inOwnDict Builtin.ObjectAttr.ownDict;refine wpAny_bind (wpAny_bind (wpAny_bind (wpAny_loadPart hx ?_)));show wpAny _ _ (instanceDict x false) _ _ _;unfold instanceDict;refine wpAny_bind (wpAny_loadPart hx ?_);show wpAny _ _ (pure (some d)) _ _ _;refine wpAny_pure ?_;show wpAny _ _ (nsGet d name) _ _ _;refine wpAny_nsGet hn ?_;rw[hm];exact wpAny_bind (wpAny_rule (wpAny_pure (wpAny_pure ⟨_,rfl,h⟩)))
theorem jO {d:Addr} {ex:Bool} {m:Str->Option Value} (hx:s.heap.get? x=some (k7 fd (some d) sl)) (hn:s.heap.Ns d m) (hm:m name=some v) (hB:typeLookup (.type "function") name=pure none) (hv:handedOut v=pure v) (h:Q v {s with toks:=s.toks+1}):
 wpAny (model prog w) A (getAttr (.ref x) name ex) Q E s:=by
 unfold getAttr getAttrBy;refine wpAny_bind (wpAny_mkText (wpAny_holding ?_));refine wpAny_bind ((lX (prog:=prog) (w:=w) (s:={s with toks:=s.toks+1}) hx).here ?_);refine wpAny_bind (wpAny_of_eq w7 ?_);show wpAny _ _ (getAttrByItsOwn _ _ _ _ _ _) _ _ _;unfold getAttrByItsOwn;refine wpAny_bind (wpAny_of_eq (a:=none) rfl ?_);refine wpAny_bind (wpAny_attempt (wpAny_holding ?_));have e:callGetattribute (.ref x) (.str name s.toks) (.builtin "object.__getattribute__") ex=boundAndCalled (.builtin "object.__getattribute__") (.ref x) (.str name s.toks):=by cases ex<;>rfl
 rw[e];unfold boundAndCalled;refine wpAny_bind (wpAny_of_eq (jN.bind _) ?_);refine qt (s:={s with toks:=s.toks+1}) hx hn hm hB ?_;show wpAny _ _ (handedOut v) _ _ _;rw[hv];exact wpAny_pure h
theorem jP {d:Option Addr} {Q:Unit->Shared->Prop} (hx:s.heap.get? x=some (k7 fd d sl)) (hB:typeLookup (.type "function") name=pure none) (h:∀tk,codeAny (model prog w) A (.call (.builtin "object.__setattr__") ⟨[.ref x,.str name tk,v],[]⟩) (fun r s'=>match r with| .ok (.ret _)=>Q () s'| .ok _=>False| .error e=>E e s') {s with toks:=s.toks+1}):
 wpAny (model prog w) A (setAttr (.ref x) name v) Q E s:=by
 unfold setAttr;refine wpAny_bind (wpAny_mkText (wpAny_bind (wpAny_callSpecial?_slot (name:=Str.ofString "__setattr__") (s:={s with toks:=s.toks+1}) ⟨_,hx,rfl⟩ mW.slot ?_)));refine wpAny_call (codeAny_mono (h s.toks) fun r s' hr=> ?_);rcases r with e|(v|_|_|_)<;>first|exact hr|exact wpAny_pure hr|exact hr.elim
end
end
section
open PySem PySem.W PyProof.Rows Builtin Builtin.ObjectAttr
noncomputable def kt (loc:List (Str×AV)):OP:=fun o=>∃es ep m,o.data= .dict es ep∧StrKeys es∧UniqKeys es∧(∀name,nsFind es name=m name)∧Within m (loc.map (·.1))∧∀x a,(x,a)∈loc->∃v,m x=some v∧VR a v
theorem Bw {loc}:NF (kt loc):=by rintro o ⟨_,_,_,hd,_⟩ fd e;rw[hd]at e;cases e
theorem C5 {loc}:NC (kt loc):=by rintro o ⟨_,_,_,hd,_⟩ v e;rw[hd]at e;cases e
section
variable {own2:Led} {name:Str} {d:Addr} {sl:Array (Option Value)} {a:AV} {loc:List (Str×AV)}
theorem kt.get (hR:R Γ aa s) (hm:(d,kt loc)∈aa):∃m,s.heap.Ns1 d m∧Within m (loc.map (·.1))∧∀x a,(x,a)∈loc->∃v,m x=some v∧VR a v:=by
 obtain⟨o,ho,es,ep,m,h1,h2,h3,h4,h5,h6⟩:=hR.get hm;exact⟨m,⟨o,es,ep,ho,h1,h2,h3,h4⟩,h5,h6⟩
theorem kt.of {m:Str->Option Value} (hn:h.Ns1 d m) (hw:Within m (loc.map (·.1))) (hg:∀x a,(x,a)∈loc->∃v,m x=some v∧VR a v):∃o,h.get? d=some o∧kt loc o:=by
 obtain⟨o,es,ep,ho,h1,h2,h3,h4⟩:=hn;exact⟨o,ho,es,ep,m,h1,h2,h3,h4,hw,hg⟩
noncomputable def k9 (Γ:Cx) (a:AV) (name:Str) (ex:Bool) (aa:Led) (K:AV->Led->Prop):Prop:=∀va,VR a va->W VR Γ (getAttr va name ex) aa K
theorem w_Attr {value:Expr} (h:WE Γ env value aa fun a o1=>k9 Γ a name true o1 K) (hb:attributeBase value name env (eval value env)=eval value env:=by kernel_rfl):WE Γ env (.Attribute value name pos) aa K:=by
 intro A s hA hR;rw[arm_eval_Attribute,hb];refine wpAny_bind (W.go h hA hR fun v s1 a o1 hv hR1 h1=> ?_);refine wpAny_bind (wpAny_standAt (wpAny_bind (wpAny_holding (W.go (h1 v hv) hA hR1 fun r s2 b o2 hr hR2 hK=> ?_))));exact wpAny_bind (wpAny_letTemporaryGo (wpAny_pure ⟨b,o2,hr,hR2,hK⟩))
noncomputable def jQ (a:AV):Prop:=∀v,VR a v->handedOut v=pure v
theorem lg {k:Str}:jQ (.str k):=by intro v h;cases h;rfl
theorem eQ {k:Addr}:jQ (.ref k):=by intro v h;cases h;rfl
theorem nX:jQ .none :=by intro v h;cases h;rfl
theorem pe {ex:Bool} (hf:(f,bg (k7 fd (some d) sl))∈aa) (hd:(d,kt loc)∈aa) (hx:(name,a)∈loc) (hB:typeLookup (.type "function") name=pure none) (hp:jQ a) (h:K a aa):k9 Γ (.ref f) name ex aa K:=by
 intro va hv;cases hv;intro A s hA hR;obtain⟨o,ho,e⟩:=hR.get hf;cases e;obtain⟨m,hn,_,hg⟩:=kt.get hR hd;obtain⟨v,hm,hr⟩:=hg _ _ hx;exact jO ho hn.ns hm hB (hp v hr) ⟨a,aa,hr,hR.toks _,h⟩
theorem yN {K:Value×List AV->Led->Prop} (hf:(f,bg (k7 fd (some d) sl))∈aa) (hd:(d,kt loc)∈aa) (hx:(name,AV.val v)∈loc) (hB:typeLookup (.type "function") name=pure none) (hp:jQ (.val v)) (h:K (v,[]) aa):mu Γ (.ref f) name aa K:=by
 intro va pl hv;cases hv;intro A s hA hR;obtain⟨o,ho,e⟩:=hR.get hf;cases e;obtain⟨m,hn,_,hg⟩:=kt.get hR hd;obtain⟨v',hm,hr⟩:=hg _ _ hx;cases hr;have hT:s.TypeIs (.ref f) "function":=⟨_,ho,rfl⟩;unfold getMethod;refine wpAny_bind (wpAny_specialOf hT w7 ?_);have hcan:(Manifest.canonical "object.__getattribute__"!="object.__getattribute__")=false:=by kernel_rfl
 show wpAny _ A (if(Manifest.canonical "object.__getattribute__"!="object.__getattribute__")=true then _ else _) _ _ s;rw[hcan,if_neg E6];refine wpAny_bind (wpAny_specialOf hT ve ?_);refine wpAny_bind (wpAny_specialOf hT hB ?_);show wpAny _ A (do return(←getAttr (.ref f) name,[])) _ _ s;exact wpAny_bind (jO ho hn.ns hm hB (hp v (.val v)) (wpAny_pure ⟨(v,[]),aa,⟨rfl,.nil⟩,hR.toks _,h⟩))
noncomputable def sL (Γ:Cx) (a:AV) (name:Str) (v:AV) (aa:Led) (K:Led->Prop):Prop:=∀va vv,VR a va->VR v vv->WU Γ (setAttr va name vv) aa K
theorem x_Assign_Attr {o value:Expr} {p':Pos} {K:AF->Led->Prop} (h:WE Γ env value aa fun v o1=>WE Γ env o o1 fun a o2=>sL Γ a name v o2 fun o3=>K .next o3) (hs:swapsWith value (some (.Attribute o name p')) pos.line env=pure false:=by kernel_rfl):WX Γ env (.Assign [.Attribute o name p'] value pos) aa K:=by
 intro A s hA hR;rw[plainObj_exec_Assign_Attribute o name p' value pos hs];refine wpAny_bind (wpAny_standAt (wpAny_bind (W.go h hA hR fun vv s1 v o1 hv hR1 h1=> ?_)));rw[assign_Attribute];refine wpAny_bind (wpAny_bind (wpAny_holding (W.go h1 hA hR1 fun va s2 a o2 ha hR2 h2=> ?_)));refine wpAny_bind (wpAny_standAt (wpAny_bind (wpAny_holding (W.go (h2 _ _ ha hv) hA hR2 fun _ s3 _ o3 _ hR3 h3=> ?_))));exact wpAny_release (wpAny_pure ⟨_,o3,.next,hR3,h3⟩)
theorem yO {K:Led->Prop} (hB:typeLookup (.type "function") name=pure none) (hf:(f,bg (k7 fd none sl))∈aa) (h:∀d,∃ao,Upd f (bg (k7 fd none sl)) (bg (k7 fd (some d) sl)) aa ao∧K ((d,kt [(name,a)])::ao)):sL Γ (.ref f) name a aa K:=by
 intro va vv h1 hv;cases h1;intro A s hA hR;obtain⟨o,ho,e⟩:=hR.get hf;cases e;refine jP ho hB fun tk=>sK (s:={s with toks:=s.toks+1}) ho hB (qr (s:={s with toks:=s.toks+1}) ho fun h' hn hx hk=> ?_);obtain⟨ao,u,hK⟩:=h s.heap.objs.size;have hR1:R Γ ao {s with heap:=h',toks:=s.toks+1+1}:=hR.updO (h':=h') (t:=s.toks+1+1) u (fun b o hb e=>hk b o hb e) hx rfl ((hR.fn _ u.mem _ ho).mono (fun b o hb e=>hk b o (fun q=>hb (q▸EE (f:=(·.1)) u.mem)) e) fun _ _ _ e=>e);have hkeys:keys ao=keys aa:=u.keys
 obtain⟨od,hod,hA1⟩:=kt.of (loc:=[(name,a)]) hn (Within.cons name vv Within.nil) (fun x b hm=>by
  rcases ED.mp hm with e;cases e;exact⟨vv,if_pos rfl,hv⟩)
 have hR2:=hR.takeNew hR1 (a:=s.heap.objs.size) (P:=kt [(name,a)]) (EL _) hod hA1 Bw (fun hm=>by rw[hkeys]at hm;exact absurd (hR.lt hm) (Fa _)) (p0 hod hA1 C5);exact⟨(),_,trivial,hR2,hK⟩
theorem gc {K:Led->Prop} (hB:typeLookup (.type "function") name=pure none) (hf:(f,bg (k7 fd (some d) sl))∈aa) (hu:Upd d (kt loc) (kt ((name,a)::loc)) aa ao) (hnew:name∉loc.map (·.1)) (hl:loc.length<100) (h:K ao):sL Γ (.ref f) name a aa K:=by
 intro va vv h1 hv;cases h1;intro A s hA hR;obtain⟨o,ho,e⟩:=hR.get hf;cases e;obtain⟨m,hn,hw,hg⟩:=kt.get hR hu.mem;refine jP ho hB fun tk=>sK (s:={s with toks:=s.toks+1}) ho hB (yM (s:={s with toks:=s.toks+1}) ho hn hw (by rw[En];exact hl) fun h' hn' hs=> ?_);refine⟨(),ao,trivial,hR.upd (t:=s.toks+1+1) hu hs.extBut (kt.of hn' (by rw[EQ];exact hw.cons name vv) fun x b hm=> ?_) Bw,h⟩;rcases EG.mp hm with e|hm
 ·cases e;exact⟨vv,if_pos rfl,hv⟩
 ·obtain⟨v,hv',hr⟩:=hg _ _ hm
  refine⟨v,?_,hr⟩;rw[if_neg]
  ·exact hv'
  ·intro e
   exact hnew (EP.mpr ⟨(x,b),hm,e⟩)
end
end
section
open PySem.SeqAt
open AutoSeq1 (wpAny_loadPart')
open MeetsSeq MeetsSeq2 MeetsSeq3
noncomputable def qu (w:World) (A:Around) (s:Shared) (y x:Value):Prop:=∀(E:Value->Shared->Prop) (Q:Bool->Shared->Prop),Q true s->wpAny (model PR w) A (eqBool y x) Q E s
theorem qu.of {y x:Value} (h:EqAt A s y x true):qu w A s y x:=fun E Q=>h PR w E Q
theorem qu.rc {b:Addr} (h:∀(E:Value->Shared->Prop) (Q:Value->Shared->Prop),Q (.bool true) s->wpAny (model PR w) A (richCompare .Eq (.ref l) (.ref b)) Q E s):qu w A s (.ref l) (.ref b):=by
 by_cases e:l=b
 ·subst e;exact qu.of (EqAt.same _)
 intro E Q hq;unfold eqBool;refine wpAny_holding ?_;refine wpAny_ite_split (fun hab=>absurd (by have:=eq_of_beq hab;injection this) e) (fun _=> ?_);exact wpAny_bind (h E _ (wpAny_truthy_bool hq))
section
variable {b:Addr} {items2:Array Value} {n2:Nat} {dd dd2:Option Addr} {sl sl2:Array (Option Value)}
theorem vf (hsz:items.size=items2.size) (k:Nat):∀i:Nat,items.size-i=k->MeetsIn PR w (Builtin.«list.__eq__.loop» ⟨[.ref l,.ref b,rawInt i,rawInt 3],[]⟩)
 (fun A R s=>s.heap.get? l=some {cls:= .type "list",dict:=dd,data:= .seq items n,slots:=sl}∧s.heap.get? b=some {cls:= .type "list",dict:=dd2,data:= .seq items2 n2,slots:=sl2}∧
   (∀j (h1:j<items.size) (h2:j<items2.size),qu w A.in1 s items[j] items2[j])∧R (.ok (.ret (.bool false))) s):=by
 induction k with
 |zero=>
  intro i hk A R s h;obtain⟨hp,g,d,tk,os⟩:=s;obtain⟨hl,hb,he,h⟩:=h
  wp_walk using wpAny_loadPart' hl,wpAny_loadPart' hb
  have hi1:items[((i:Nat):Int).toNat]? =none:=by simp;omega
  have hi2:items2[((i:Nat):Int).toNat]? =none:=by simp;omega
  rw[hi1,hi2]
  wp_walk using wpAny_loadPart' hl,wpAny_loadPart' hb
  show R (.ok (.ret (.bool (items.size !=items2.size)))) _;rw[hsz];simpa using h
 |succ k ih=>
  intro i hk A R s h;obtain⟨hp,g,d,tk,os⟩:=s;obtain⟨hl,hb,he,h⟩:=h
  wp_walk using wpAny_loadPart' hl,wpAny_loadPart' hb
  have hlt:i<items.size:=by omega
  have hlt2:i<items2.size:=by omega
  have hi1:items[((i:Nat):Int).toNat]? =some items[i]:=by simp[hlt]
  have hi2:items2[((i:Nat):Int).toNat]? =some items2[i]:=by simp[hlt2]
  have hc:((i:Int)+1)=((i+1:Nat):Int):=by push_cast;rfl
  rw[hi1,hi2];refine wpAny_bind (he i hlt hlt2 _ _ ?_)
  wp_walk
  rw[hc]
  exact⟨plainId_quiet plain_eq_loop _,codeAny_builtin entry_eq_loop (by
   rw[Around.under_plainId plain_eq_loop _];exact ih (i+1) (by omega) A R _ ⟨hl,hb,he,h⟩)⟩
theorem vg (hsz:items.size=items2.size):MeetsIn PR w (Builtin.«list.__ne__» ⟨[.ref l,.ref b],[]⟩)
 (fun A R s=>s.heap.get? l=some {cls:= .type "list",dict:=dd,data:= .seq items n,slots:=sl}∧s.heap.get? b=some {cls:= .type "list",dict:=dd2,data:= .seq items2 n2,slots:=sl2}∧
   (∀j (h1:j<items.size) (h2:j<items2.size),qu w A.in1 s items[j] items2[j])∧R (.ok (.ret (.bool false))) s):=by
 intro A R s h;obtain⟨hp,g,d,tk,os⟩:=s;obtain⟨hl,hb,he,h⟩:=h;have f3:=AutoSeq1.sub_list_list;have hne:¬(items.size !=items2.size)=true:=by simp[hsz]
 wp_walk using wpAny_loadPart' hl,wpAny_loadPart' hb
 exact⟨plainId_quiet plain_eq_loop _,codeAny_builtin entry_eq_loop (by
  rw[Around.under_plainId plain_eq_loop _];exact vf hsz _ 0 rfl A R _ ⟨hl,hb,he,h⟩)⟩
theorem sM (hsz:items.size=items2.size):MeetsIn PR w (Builtin.«tuple.__eq__» ⟨[.ref l,.ref b],[]⟩)
 (fun A R s=>s.heap.get? l=some {cls:= .type "tuple",dict:=dd,data:= .seq items n,slots:=sl}∧s.heap.get? b=some {cls:= .type "tuple",dict:=dd2,data:= .seq items2 n2,slots:=sl2}∧
   (∀j (h1:j<items.size) (h2:j<items2.size),qu w A.in1 s items[j] items2[j])∧R (.ok (.ret (.bool true))) s):=by
 intro A R s h;obtain⟨hp,g,d,tk,os⟩:=s;obtain⟨hl,hb,he,h⟩:=h;have f2:=AutoSeq1.sub_tuple_tuple
 wp_walk using wpAny_loadPart' hl,wpAny_loadPart' hb,wpAny_forIn_list _ (fun rest b s'=>b.1=none∧s'=⟨hp,g,d,tk,os⟩∧∃i,rest=(items.toList.zip items2.toList).drop i) _
 case turn=>
  rintro⟨y,x⟩ rest b s' ⟨hb',rfl,i,hz⟩
  have hlt:i<(items.toList.zip items2.toList).length :=by
   rcases FI i (items.toList.zip items2.toList).length with h'|h'
   ·exact h'
   ·rw[FJ h']at hz;cases hz
  have h1:i<items.size:=by rw[HR]at hlt;simp at hlt;omega
  have h2:i<items2.size:=by omega
  rw[Fz hlt]at hz;injection hz with hyx hrest;have hy:y=items[i]:=by have:=congrArg Prod.fst hyx;simpa using this
  have hx:x=items2[i]:=by have:=congrArg Prod.snd hyx;simpa using this
  subst hy hx;refine wpAny_bind (he i h1 h2 _ _ ?_)
  wp_walk
  exact⟨rfl,rfl,i+1,hrest⟩
 case fin=>
  rintro⟨b1,b2⟩ s' ⟨hb',rfl,i,hz⟩;simp only at hb';subst hb'
  wp_walk
  simpa[Builtin.Tuple.tupleCompareSizes,hsz]using h
 case h=>
  exact⟨rfl,rfl,0,rfl⟩
end
end
section
open PySem.SeqAt
noncomputable def bj (w:World) (d:Addr) (kvs:List (Str×AV)):OP:=fun o=>(d==sysModules)=false∧∃vs,o.IsDictOf (PySem.strKind PR w) vs∧All2 KR kvs vs
theorem sN {w d kvs}:NF (bj w d kvs):=by rintro o ⟨_,vs,⟨es,ep,_,hd,_⟩,_⟩ fd e;rw[hd]at e;cases e
noncomputable def i_ (kvs:List (Str×AV)) (k:Str) (v:AV):List (Str×AV):=
 if kvs.any (fun kv=>kv.1=k)then kvs.map (fun kv=>if kv.1=k then(kv.1,v)else kv)else kvs++[(k,v)]
noncomputable def a9 (kvs more:List (Str×AV)):List (Str×AV):=more.foldl (fun acc kv=>i_ acc kv.1 kv.2) kvs
noncomputable def yP (kvs:List (Str×AV)) (k:Str):AV:=((kvs.find? fun kv=>kv.1=k).map (·.2)).getD .none
theorem yQ {k:Str}:∀{ks:List (Str×AV)} {vs:List (Str×Value)},All2 KR ks vs->ks.any (fun kv=>decide (kv.1=k))=vs.any (fun kv=>decide (kv.1=k)):=fun h=>by
 induction h with
 |nil=>rfl
 |cons h r ih=>rw[List.any_cons,List.any_cons,ih,h.1]
theorem ge:∀{ks:List (Str×AV)} {vs:List (Str×Value)},All2 KR ks vs->ks.map (·.1)=vs.map (·.1):=fun h=>by
 induction h with
 |nil=>rfl
 |cons h r ih=>rw[EQ,EQ,ih,h.1]
theorem sO:∀{ks:List (Str×AV)} {vs:List (Str×Value)} {ks':List (Str×AV)} {vs':List (Str×Value)},All2 KR ks vs->All2 KR ks' vs'->All2 KR (ks++ks') (vs++vs'):=fun h h'=>by
 induction h with
 |nil=>exact h'
 |cons h r ih=>exact .cons h ih
theorem yR {k:Str} {a:AV} (hv:VR a v):∀{ks:List (Str×AV)} {vs:List (Str×Value)},All2 KR ks vs->All2 KR (ks.map fun kv=>if kv.1=k then(kv.1,a)else kv) (vs.map fun kv=>if kv.1=k then(kv.1,v)else kv):=fun h=>by
 induction h with
 |nil=>exact .nil
 |cons h r ih=>
  rw[EQ,EQ];refine .cons ?_ ih;rw[h.1];split
  ·exact⟨rfl,hv⟩
  ·exact h
theorem lh {k:Str} {a:AV} (hv:VR a v) {vs:List (Str×Value)} (h:All2 KR ks vs):All2 KR (i_ ks k a) (stored vs k v):=by
 unfold i_ stored;rw[yQ h];split
 ·exact yR hv h
 ·exact sO h (.cons ⟨rfl,hv⟩ .nil)
theorem qv:∀{more:List (Str×AV)} {mv:List (Str×Value)} {ks:List (Str×AV)} {vs:List (Str×Value)},All2 KR more mv->All2 KR ks vs->All2 KR (a9 ks more) (merged vs mv):=fun {more mv ks vs} hm=>by
 induction hm generalizing ks vs with
 |nil=>exact id
 | @cons p q xs ys hh r ih=>
   intro h;obtain⟨x,a⟩:=p;obtain⟨y,b⟩:=q;obtain⟨rfl,hv⟩:x=y∧VR a b:=hh;exact ih (lh hv h)
theorem Bx {k:Str}:∀{ks:List (Str×AV)} {vs:List (Str×Value)},All2 KR ks vs->VR (yP ks k) ((valueAt vs k).getD .none):=fun h=>by
 induction h with
 |nil=>exact .val _
 | @cons p q xs ys hh r ih=>
   unfold yP valueAt at ih⊢;by_cases e:p.1=k
   ·rw[GP (by simpa using e),GP (by simpa using hh.1.symm.trans e)];exact hh.2
   ·rw[Hi (by simpa using e),Hi (by simpa using fun q=>e (hh.1.trans q))];exact ih
section
variable {d:Addr} {kvs:List (Str×AV)}
theorem bj.get (hR:R Γ aa s) (hm:(d,bj Γ.w d kvs)∈aa):(d==sysModules)=false∧∃vs,s.heap.DictOf (PySem.strKind PR Γ.w) d vs∧All2 KR kvs vs:=by
 obtain⟨o,ho,h1,vs,h2,h3⟩:=hR.get hm;exact⟨h1,vs,Heap.dictOf_iff.mpr ⟨o,ho,h2⟩,h3⟩
theorem bj.of {vs:List (Str×Value)} (h1:(d==sysModules)=false) (h2:h.DictOf (PySem.strKind PR w) d vs) (h3:All2 KR kvs vs):∃o,h.get? d=some o∧bj w d kvs o:=by
 obtain⟨o,ho,hd⟩:=Heap.dictOf_iff.mp h2;exact⟨o,ho,h1,vs,hd,h3⟩
theorem lj (hT:TopG Γ) (hR:R Γ aa s):(s.heap.objs.size==sysModules)=false:=by
 obtain⟨o,ho⟩:∃o,(Mine.Internal.hd.heap_1 Γ.w.params).lookup 23=some o:=⟨_,rfl⟩;have h1:s.heap.get? 23=some o:=hR.keep _ _ (hT.X _ _ ho);have h2:=Heap.lt_size h1;rw[beq_eq_false_iff_ne];intro e;rw[e]at h2;exact absurd h2 (by decide)
theorem R.newD (hT:TopG Γ) (hR:R Γ aa s) (t:Tok):R Γ ((s.heap.objs.size,bj Γ.w s.heap.objs.size [])::aa) {s with heap:=s.heap.push {cls:= .type "dict",data:= .dict #[]},toks:=t}:=
 hR.push ⟨lj hT hR,[],(by
  obtain⟨o,ho,hd⟩:=Heap.dictOf_iff.mp (Heap.DictOf.new (knd:=PySem.strKind PR Γ.w) s.heap);rw[Heap.get?_push_size _ rfl]at ho;cases ho;exact hd),.nil⟩ sN
theorem pg (hT:TopG Γ) (h:∀d,K (.ref d) ((d,bj Γ.w d [])::aa)):WE Γ env (.Dict [] [] pos) aa K:=by
 intro A s hA hR;exact wpAny_Dict_empty ⟨_,_,.val _,hR.newD hT s.toks,h _⟩
noncomputable abbrev Dt (kvs:List (Str×AV)) (vs:List (Value×Value)):Prop:=All2 (fun(a:Str×AV) (b:Value×Value)=>(∃t,b.1= .str a.1 t)∧VR a.2 b.2) kvs vs
noncomputable abbrev lY (Γ:Cx) (ps:List (Sem Value×Sem Value)) (aa:Led) (K:List (Str×AV)->Led->Prop):Prop:=W Dt Γ (evalPairs ps) aa K
theorem wpr_nil {K:List (Str×AV)->Led->Prop} (h:K [] aa):lY Γ (pairTrees [] [] env pos) aa K:=fun _ _ _ hR=>wpAny_pure ⟨[],aa,.nil,hR,h⟩
theorem mY:∀{kvs:List (Str×AV)} {vs:List (Value×Value)},Dt kvs vs->∃ws,Carries (PySem.strKind PR Γ.w) vs ws∧All2 KR kvs ws:=fun h=>by
 induction h with
 |nil=>exact⟨[],trivial,.nil⟩
 | @cons p q xs ys hh r ih=>
   obtain⟨x,a⟩:=p;obtain⟨k,v⟩:=q;obtain⟨⟨t,e⟩,hv⟩:(∃t,k= .str x t)∧VR a v:=hh;obtain⟨ws,h1,h2⟩:=ih;subst e;exact⟨(x,v)::ws,⟨strKind_is _ _ _ _,rfl,h1⟩,.cons ⟨rfl,hv⟩ h2⟩
theorem iA {keys:List (Option Expr)} {values:List Expr} (hT:TopG Γ) (h:∀d,lY Γ (pairTrees keys values env pos) ((d,bj Γ.w d [])::aa) fun kvs o=>(kvs.map (·.1)).Nodup ∧∃ao,Upd d (bj Γ.w d []) (bj Γ.w d kvs) o ao∧K (.ref d) ao) (hall:keys.all (·.isSome)=true:=by kernel_rfl) (hl:keys.length=values.length:=by kernel_rfl) (h0:(keys.length==0)=false:=by kernel_rfl) (hlen:keys.length≤15:=by exact Eo rfl):WE Γ env (.Dict keys values pos) aa K:=by
 intro A s hA hR;have hp:=pairTrees_length keys values env pos hall hl;have hne:keys≠[]:=by intro e;rw[e]at h0;cases h0
 refine wpAny_Dict_pairs (knd:=PySem.strKind PR Γ.w) (pairs:=pairTrees keys values env pos) (zip_pairTrees keys values env pos hall hl) (fun e=>hne (H1.mp (by rw[←hp,e];rfl))) (by rw[hp];exact hlen) (wpAny_mono (h _ A _ hA (hR.newD hT s.toks)) ?_ fun _ _ x=>x);rintro vs s1 ⟨kvs,o1,hv,hR1,hn,ao,hu,hK⟩;obtain⟨ws,hc,hk⟩:=mY (Γ:=Γ) hv;obtain⟨hs,vs0,hd0,hz⟩:=bj.get hR1 hu.mem;cases hz;refine⟨ws,hc,hd0,fun h' hd' hs'=>⟨_,ao,.val _,hR1.upd hu hs'.extBut (bj.of hs hd' ?_) sN,hK⟩⟩;rw[merged_nil_of_nodup ws (by rw[←ge hk];exact hn)];exact hk
theorem yS {K:Value×List AV->Led->Prop} (hm:(d,bj Γ.w d kvs)∈aa) (h:K (.builtin "dict.get",[.ref d]) aa):mu Γ (.ref d) "get" aa K:=by
 intro va pl hv;cases hv;intro A s hA hR;obtain⟨_,vs,hD,_⟩:=bj.get hR hm;exact getMethod_builtin hD.typeIs PySem.F.plainAttrs_dict PySem.F.slot_dict_get PySem.F.type_dict_get hD.mapOf.noDict ⟨(.builtin "dict.get",[.ref d]),aa,⟨rfl,.cons (.val _) .nil⟩,hR,h⟩
theorem yT {k:Str} (hm:(d,bj Γ.w d kvs)∈aa) (h:K (yP kvs k) aa):ai Γ (.builtin "dict.get") [.ref d,.str k] [] aa K:=by
 intro va kv hv hk;cases hk;obtain _|⟨h1,_|⟨h2,_|_⟩⟩:=hv;cases h1;cases h2;intro A s hA hR;obtain⟨lo,vs,hD,hr⟩:=bj.get hR hm;exact call_meetsIn PySem.F.slot_dict_get hD.typeIs PySem.F.entry_dict_get (PySem.F.args_dict_get_2 _ _) (meets_dict_get (PySem.strKind PR Γ.w) d (strKind_is _ _ _ _) lo) ⟨_,hD.mapOf,⟨_,aa,Bx hr,hR.toks _,h⟩⟩
theorem sP {k:Str} {v:AV} {K:Led->Prop} (hz:kvs.length≤100) (hu:Upd d (bj Γ.w d kvs) (bj Γ.w d (i_ kvs k v)) aa ao) (h:K ao):xf Γ (.ref d) (.str k) v aa K:=by
 intro va vi vv hva hvi hvv A s hA hR;cases hva;cases hvi;obtain⟨lo,vs,hD,hr⟩:=bj.get hR hu.mem
 have hl:vs.length≤sizeLine:=by
  have:=congrArg Fb (ge hr);rw[En,En]at this;exact ac (by omega)
 exact wpAny_setItem_pairs (hsz:=hl) (strKind_is _ _ _ _) hD fun h' hd' hs'=>⟨(),ao,trivial,hR.upd (t:=s.toks+1) hu hs'.extBut (bj.of lo hd' (lh hvv hr)) sN,h⟩
noncomputable def cr (n:Nat) (Γ:Cx) (aa:Led) (a b:AV):Prop:=∀A s,A.units+n<cLine->R Γ aa s->∀va vb,VR a va->VR b vb->qu Γ.w A s va vb
theorem cr.of {a b:AV} (h:dh n Γ aa a b):cr n Γ aa a b:=fun A s hu hR va vb h1 h2=>qu.of (h A s hu hR va vb h1 h2)
theorem vh (hu:A.units+n<cLine) (hR:R Γ aa s) {kb:List (Str×Value)}:∀(ks:List (Str×AV)) (ka kc:List (Str×Value)),(∀x∈ks,dh n Γ aa x.2 x.2)->All2 KR ks ka->All2 KR ks kc->(∀x∈kc,valueAt kb x.1=some x.2)->KeqHits A s kb ka true:=fun ks ka kc hsame h1=>by
 induction h1 generalizing kc with
 |nil=>exact fun _ _=> .nil
 | @cons p q xs ys hh r ih=>
   intro h2 hf;cases h2 with
   | @cons _ q' _ ys' hh' r'=>
   obtain⟨x,a⟩:=p;obtain⟨y,v⟩:=q;obtain⟨y',v'⟩:=q';obtain⟨rfl,hv⟩:x=y∧VR a v:=hh;obtain⟨rfl,hv'⟩:x=y'∧VR a v':=hh';exact KeqHits.hit (e:=true) (b:=true) (hf _ (.head _)) (hsame _ (.head _) A s hu hR _ _ hv hv') (ih ys' (fun z hz=>hsame z (.tail _ hz)) r' fun z hz=>hf z (.tail _ hz))
theorem sQ:∀{kb:List (Str×Value)},(kb.map (·.1)).Nodup ->∀x∈kb,valueAt kb x.1=some x.2:=fun {kb}=>by
 induction kb with
 |nil=>exact fun _ x hx=>nomatch hx
 |cons p r ih=>
  intro hn x hx;rw[EQ,E2]at hn;unfold valueAt;rcases EG.mp hx with e|hx
  ·rw[e,GP (by simp)];rfl
  ·have:¬(p.1=x.1):=fun e=>hn.1 (e▸EE (f:=(·.1)) hx)
   rw[Hi (by simpa using this)];exact ih hn.2 x hx
theorem cr.dict {b:Addr} (ha:(d,bj Γ.w d kvs)∈aa) (hb:(b,bj Γ.w b kvs)∈aa) (hs:∀x∈kvs,dh n Γ aa x.2 x.2):cr (n+1) Γ aa (.ref d) (.ref b):=by
 intro A s hu hR va vb h1 h2;cases h1;cases h2;refine qu.rc fun E Q hq=> ?_;obtain⟨l1,vs,hD,hr⟩:=bj.get hR ha;obtain⟨l2,ws,hD2,hr2⟩:=bj.get hR hb
 have hlen:vs.length=ws.length:=by
  have e1:=congrArg Fb (ge hr);have e2:=congrArg Fb (ge hr2);simp only[En]at e1 e2;omega
 have hnd:(ws.map (·.1)).Nodup :=by obtain⟨_,_,_,_,_,_,_,_,h⟩:=hD2;exact h
 exact keq_eq (r:=true) l1 l2 hD hD2 (by omega) (fun _=>vh (n:=n) (by rw[f9];omega) hR kvs vs ws hs hr hr2 (sQ hnd)) (by rw[hlen,beq_self_eq_true];exact hq)
theorem cr.each {ws:List AV} {xs ys:Array Value} (hR:R Γ aa s) (hu:A.units+n<cLine) (hv:VRs vs xs.toList) (hw:VRs ws ys.toList) (h:∀(i:Nat) (a b:AV),vs[i]? =some a->ws[i]? =some b->cr n Γ aa a b):
 ∀j (h1:j<xs.size) (h2:j<ys.size),qu Γ.w A s xs[j] ys[j]:=fun j h1 h2=>by
 have e1:=hv.size;have e2:=hw.size;have g1:vs[j]? =some vs[j]:=Ex (by omega);have g2:ws[j]? =some ws[j]:=Ex (by omega);obtain⟨x,hx,rx⟩:=hv.get g1;obtain⟨y,hy,ry⟩:=hw.get g2
 have hx':xs[j]=x:=by
  have:=(FO (xs:=xs)).symm.trans hx;rw[FA h1]at this;exact Option.some.inj this
 have hy':ys[j]=y:=by
  have:=(FO (xs:=ys)).symm.trans hy;rw[FA h2]at this;exact Option.some.inj this
 rw[hx',hy'];exact h j _ _ g1 g2 A s hu hR _ _ rx ry
theorem cr.tuple {a b:Addr} {ws:List AV} (ha:(a,bV vs)∈aa) (hb:(b,bV ws)∈aa) (hl:vs.length=ws.length) (h:∀(i:Nat) (x y:AV),vs[i]? =some x->ws[i]? =some y->cr n Γ aa x y):cr (n+1) Γ aa (.ref a) (.ref b):=by
 intro A s hu hR va vb h1 h2;cases h1;cases h2;refine qu.rc fun E Q hq=> ?_;obtain⟨xs,k,hx,hv⟩:=bV.get hR ha;obtain⟨ys,m,hy,hw⟩:=bV.get hR hb;have e1:=hv.size;have e2:=hw.size
 exact wpAny_richCompare_same_room (op:= .Eq) ⟨_,hx,rfl⟩ ⟨_,hy,rfl⟩ F.slot_tuple_eq (call_meetsIn F.slot_tuple_eq ⟨_,hx,rfl⟩ F.entry_tuple_eq (F.args_tuple_eq_2 _ _) (sM (by omega))
  ⟨hx,hy,cr.each (A:=A.in1) hR (by rw[f9];omega) hv hw h,show Value.bool true≠Value.notImplemented∧Q (.bool true) s from⟨(fun x=>nomatch x),hq⟩⟩) (by omega)
theorem e_ {a b:Addr} {ws:List AV} (ha:lL a vs∈aa) (hb:lL b ws∈aa) (hl:vs.length=ws.length) (hn:n≤100) (he:∀(i:Nat) (x y:AV),vs[i]? =some x->ws[i]? =some y->cr n Γ aa x y) (h:K (.bool false) aa):WCmp Γ .NotEq (.ref a) (.ref b) aa K:=by
 intro va vb h1 h2;cases h1;cases h2;intro A s hA hR;have hu:=hA.u (n:=n+1) (by omega);obtain⟨xs,k,hx,hv⟩:=bD.get hR ha;obtain⟨ys,m,hy,hw⟩:=bD.get hR hb;have e1:=hv.size;have e2:=hw.size
 exact wpAny_richCompare_same_room (op:= .NotEq) ⟨_,hx,rfl⟩ ⟨_,hy,rfl⟩ F.slot_list_ne (call_meetsIn F.slot_list_ne ⟨_,hx,rfl⟩ F.entry_list_ne (F.args_list_ne_2 _ _) (vg (by omega))
  ⟨hx,hy,cr.each (A:=A.in1) hR (by rw[f9];omega) hv hw he,show Value.bool false≠Value.notImplemented∧_ from⟨(fun x=>nomatch x),⟨_,aa,.val _,hR,h⟩⟩⟩) (by omega)
end
end
section
open PySem.SeqAt
section
variable {prog:Program} {d a:Addr} {kvs more:List (Str×Value)}
theorem qw {k:Str} {key:Value} {Q:Unit->Shared->Prop} (hkey:(PySem.strKind prog w).is k key=true) (hm:s.heap.DictOf (PySem.strKind prog w) d kvs) (hz:kvs.length≤sizeLine) (hQ:∀h',h'.DictOf (PySem.strKind prog w) d (stored kvs k v)->Heap.SameBut d s.heap h'->Q () {s with heap:=h'}):
 wpAny (model prog w) A (dictPut d ((PySem.strKind prog w).hash k) key v) Q E s:=by
 obtain⟨o,es,ep,ho,hc,hd,hk,hp,hn⟩:=hm;have hl:es.toList.length=kvs.length:=hp.length;have hes:es.size≤sizeLine:=by rw[←E0,hl];exact hz
 have hidx:(es.findIdx? fun e=>(PySem.strKind prog w).is k e.key)=kvs.findIdx? fun kv=>decide (kv.1=k):=by
  rw[←hp.findIdx k];obtain⟨l⟩:=es;simp
 unfold dictPut;refine wpAny_bind (wpAny_dictFind_of hkey ho hd hk ?_);cases hi:es.findIdx? fun e=>(PySem.strKind prog w).is k e.key with
 |some i=>
  refine wpAny_updateDict ho hd (hQ _ ⟨_,_,ep,Heap.get?_update_self _ ho (Obj.isFreed_of_dict (Obj.data_mapDict hd _)),hc.mapDict _,Obj.data_mapDict hd _,hk.modify _ _,?_,?_⟩ (Heap.SameBut.update ..))
  ·rw[stored,if_pos (any_of_findIdx_some (hidx▸hi))]
   have h1:(es.toList.findIdx? fun e=>(PySem.strKind prog w).is k e.key)=some i:=by rw[←hi];obtain⟨l⟩:=es;simp
   have h2:=hp.modify hn h1 v;obtain⟨l⟩:=es;simpa using h2
  ·rw[stored,if_pos (any_of_findIdx_some (hidx▸hi)),keys_map_store];exact hn
 |none=>
  have hnot:k∉kvs.map (·.1):=not_mem_of_findIdx_none (hidx▸hi)
  have hany:¬(kvs.any fun kv=>decide (kv.1=k))=true:=by
   rw[List.any_eq_true];rintro⟨kv,hkv,he⟩;exact hnot (EP.mpr ⟨kv,hkv,of_decide_eq_true he⟩)
  refine wpAny_updateDictKeys (hz:=hes) ho hd (hQ _ ⟨_,_,ep+1,Heap.get?_update_self _ ho (Obj.isFreed_of_dict (Obj.data_mapDictKeys hd _)),hc.mapDictKeys _,Obj.data_mapDictKeys hd _,hk.push hkey _,?_,?_⟩ (Heap.SameBut.update ..))
  ·rw[stored,if_neg hany]
   have h2:=hp.append hkey ((PySem.strKind prog w).hash k) v;obtain⟨l⟩:=es;simpa using h2
  ·rw[stored,if_neg hany,Ez,Gq]
   refine⟨hn,by simp,fun x hx y hy=> ?_⟩;simp only[EQ,G4,ED]at hy;subst hy;exact fun e=>hnot (e▸hx)
theorem mZ {Q:Unit->Shared->Prop} (hne:d≠a) (lo:(a==sysModules)=false) (hd:s.heap.DictOf (PySem.strKind prog w) d kvs) (ha:s.heap.DictOf (PySem.strKind prog w) a more) (hz:kvs.length+more.length≤sizeLine) (hQ:∀h',h'.DictOf (PySem.strKind prog w) d (merged kvs more)->Heap.SameBut d s.heap h'->Q () {s with heap:=h'}):
 wpAny (model prog w) A (mergeMapping d (.ref a) false) Q E s:=by
 obtain⟨od,esd,epd,hod,hcd,hdd,hkd,hpd,hnd⟩:=id hd;obtain⟨oa,es,ep,hoa,hca,hda,hka,hpa,hna⟩:=id ha;unfold mergeMapping;refine wpAny_bind (wpAny_isInstance (T:="dict") ha.typeIs PySem.F.sub_dict_dict ?_);rw[if_pos rfl];refine wpAny_bind (wpAny_specialOf ha.typeIs PySem.F.slot_dict_iter.lookup ?_);have hbe:(some (Value.builtin "dict.__iter__")==some (Value.builtin "dict.__iter__"))=true:=by kernel_rfl
 rw[hbe];refine wpAny_bind (wpAny_pure ?_);show wpAny _ _ (if(a==sysModules)=true then _ else _) _ _ _;rw[if_neg (by rw[lo];exact E6)];simp only[E1,if_false];have hlen:more.length=es.size:=by rw[←hpa.length,E0]
 have hkeys:∀e∈es,∃k t,e.key= .str k t:=fun e he=>by
  obtain⟨k,h1,_⟩:=hka e he;obtain⟨t,ht⟩:=Value.isStrOf_shape h1;exact⟨k,t,ht⟩
 have loop:wpAny (model prog w) A (do
  let l ←dictEntries a
  let epoch ←dictEpoch a
  forIn (Et l.size) PUnit.unit fun i (_:PUnit)=>(do
   let l' ←dictEntries a
   match l'[i]? with
    |some e=>do
     holding [e.key,e.val] (dictPut d e.hash e.key e.val)
     let ep' ←dictEpoch a
     if(ep' !=epoch)=true then do
        (unsupported "dict.changed-during-merge":Sem PUnit)
        pure (ForInStep.yield PUnit.unit)
      else pure (ForInStep.yield PUnit.unit)
    |_=>do
     (unsupported "dict.changed-during-merge":Sem PUnit)
     pure (ForInStep.yield PUnit.unit):Sem (ForInStep PUnit))
  pure ()) Q E s:=by
  refine wpAny_bind (wpAny_dictEntries hoa hda ?_);refine wpAny_bind (wpAny_dictEpoch hoa hda ?_);refine wpAny_bind ?_
  refine wpAny_forIn_list _
   (fun rest _ s'=>∃h' i,s'={s with heap:=h'}∧rest=(Et es.size).drop i∧i≤es.size∧h'.DictOf (PySem.strKind prog w) d (merged kvs (more.take i))∧h'.get? a=some oa∧Heap.SameBut d s.heap h')
   _ ?_ ?_ _ _ ⟨s.heap,0,rfl,rfl,ET _,by simpa[merged]using hd,hoa,Heap.SameBut.refl _ _⟩
  ·rintro x rest b s' ⟨h',i,rfl,hr,hi,hd',hoa',hs'⟩
   have hlt:i<es.size:=by
    rcases FI i es.size with h|h
    ·exact h
    ·rw[FJ (by rw[EN];exact h)]at hr;cases hr
   rw[Fz (by rw[EN];exact hlt),G6]at hr;injection hr with h1 hrest;subst h1;refine wpAny_bind (wpAny_dictEntries hoa' hda ?_);rw[FA hlt];obtain⟨kv,hkv⟩:∃kv,more[x]? =some kv:=⟨more[x]'(by rw[hlen];exact hlt),Ex _⟩
   obtain⟨k,v⟩:=kv;obtain⟨hkey,hval⟩:=hpa.get? (e:=es[x]) (by simp[hlt]) hkv;obtain⟨k',hkey',hhash⟩:=hka es[x] (Array.getElem_mem hlt);obtain rfl:k'=k:=(PySem.strKind prog w).inj _ _ _ hkey' hkey;show wpAny _ _ (holding [es[x].key,es[x].val] (dictPut d es[x].hash es[x].key es[x].val)>>=_) _ _ _;rw[hhash,hval]
   have hmx:(merged kvs (more.take x)).length ≤sizeLine:=by
    have e1:=merged_length_le kvs (more.take x);have e2:(more.take x).length ≤more.length:=by rw[EJ];omega
    omega
   refine wpAny_bind (wpAny_holding (qw hkey hd' hmx fun h'' hd'' hs''=> ?_));have hoa'':h''.get? a=some oa:=(hs''.2 a (Ne.symm hne)).trans hoa';refine wpAny_bind (wpAny_dictEpoch hoa'' hda ?_);rw[if_neg (by simp)];exact wpAny_pure ⟨h'',x+1,rfl,hrest,hlt,by rw[merged_take_succ kvs more x (k',v) hkv];exact hd'',hoa'',hs'.trans hs''⟩
  ·rintro b s' ⟨h',i,rfl,hr,hi,hd',hoa',hs'⟩
   have hin:i=es.size:=by
    rcases FI i es.size with h|h
    ·rw[Fz (by rw[EN];exact h)]at hr;cases hr
    ·exact Ga hi h
   refine wpAny_pure (hQ h' ?_ hs');rw[hin,←hlen,EW]at hd';exact hd'
 refine wpAny_bind (wpAny_dictEntries hod hdd ?_);split
 ·refine wpAny_bind (wpAny_dictEntries hoa hda ?_)
  refine wpAny_bind (MeetsSeq2.wpAny_forIn_array _ (fun rest _ s'=>s'=s∧∀e∈rest,e∈es) _ ?_ ?_ _ _ ⟨rfl,fun e he=>Array.mem_toList_iff.mp he⟩)
  ·rintro e rest b s' ⟨rfl,hm⟩
   obtain⟨k,t,hk⟩:=hkeys e (hm e (.head _));rw[hk];exact wpAny_pure ⟨rfl,fun e he=>hm e (.tail _ he)⟩
  ·rintro b s' ⟨rfl,_⟩
   exact loop
 ·exact loop
end
end
section
open PySem.SeqAt
section
variable {d:Addr} {kvs:List (Str×AV)}
noncomputable def qx (Γ:Cx) (aa:Led) (d a:Addr) (kvs:List (Str×AV)):Prop:=∀s,R Γ aa s->d≠a∧(a==sysModules)=false∧∃vs,s.heap.DictOf (PySem.strKind PR Γ.w) a vs∧All2 KR kvs vs
theorem m3 {a:Addr} {P:OP} (h:(a,bj Γ.w a kvs)∈aa):qx Γ ((d,P)::aa) d a kvs:=fun s hR=>by
 obtain⟨h1,h2⟩:=bj.get hR (.tail _ h);refine⟨fun e=> ?_,h1,h2⟩;have hn:=hR.nd;rw[EQ,E2]at hn;exact hn.1 (e▸EE (f:=(·.1)) h)
theorem sR {a:Addr} {P:OP} (hT:TopG Γ) (hm:(d,P)∈aa) (ho:(Mine.Internal.hd.heap_1 Γ.w.params).lookup a=some o) (hd:o.IsDictOf (PySem.strKind PR Γ.w) []) (ha:(a==sysModules)=false):qx Γ aa d a []:=fun s hR=>by
 have h0:=hT.X _ _ ho;refine⟨fun e=> ?_,ha,[],Heap.dictOf_iff.mpr ⟨o,hR.keep _ _ h0,hd⟩,.nil⟩;have:=hR.ap _ hm;rw[e]at this;rw[h0]at this;cases this
theorem sS {vs:List (Str×Value)} (h:All2 KR ks vs):ks.length=vs.length:=by
 have:=congrArg Fb (ge h);simpa using this
theorem lm {o1:Led} {a:Addr} {k0 k1:List (Str×AV)} {Q:Unit->Shared->Prop} (hR:R Γ o1 s) (hu:Upd d (bj Γ.w d k0) (bj Γ.w d (a9 k0 k1)) o1 ao) (hD:qx Γ o1 d a k1) (hz:k0.length+k1.length≤1000) (h:∀s',R Γ ao s'->Q () s'):wpAny (model PR Γ.w) A (mergeMapping d (.ref a) false) Q E s:=by
 obtain⟨h1,h2,vs,h3,h4⟩:=hD s hR;obtain⟨lo,ws,hd,hr⟩:=bj.get hR hu.mem;refine mZ h1 h2 hd h3 (by rw[←sS h4,←sS hr];exact ac hz) fun h' hd' hs'=>h _ ?_;exact hR.upd (t:=s.toks) hu hs'.extBut (bj.of lo hd' (qv h4 hr)) sN
theorem m4 {e1 e2:Expr} (hT:TopG Γ) (h:∀d,WE Γ env e1 ((d,bj Γ.w d [])::aa) fun x o1=>∃a1 k1 o2,x= .ref a1∧qx Γ o1 d a1 k1∧k1.length≤100∧Upd d (bj Γ.w d []) (bj Γ.w d (a9 [] k1)) o1 o2∧
 WE Γ env e2 o2 fun y o3=>∃a2 k2 o4,y= .ref a2∧qx Γ o3 d a2 k2∧k2.length≤100∧(a9 [] k1).length ≤100∧Upd d (bj Γ.w d (a9 [] k1)) (bj Γ.w d (a9 (a9 [] k1) k2)) o3 o4∧K (.ref d) o4):
 WE Γ env (.Dict [none,none] [e1,e2] pos) aa K:=by
 intro A s hA hR;rw[arm_eval_Dict];refine wpAny_bind (wpAny_standAt ?_);show wpAny _ _ (dictDisplay [(none,do let x ←eval e1 env;standAt pos;pure x),(none,do let x ←eval e2 env;standAt pos;pure x)]) _ _ _;unfold dictDisplay;simp only[Gb,Gy,IZ,if_true];refine wpAny_bind (wpAny_bind (wpAny_bind (wpAny_pure ?_)));refine wpAny_bind (wpAny_alloc ?_);refine wpAny_bind (wpAny_holding (wpAny_bind (wpAny_mono (h _ A _ hA (hR.newD hT s.toks)) ?_ fun _ _ x=>x.elim)));rintro v s1 ⟨x,o1,hv,hR1,a1,k1,o2,rfl,hD1,hz1,hu1,h1⟩;cases hv;refine wpAny_bind (wpAny_standAt (wpAny_pure ?_));refine wpAny_bind (wpAny_onRaise (wpAny_tryCatch (wpAny_onRaise (wpAny_holding (lm hR1 hu1 hD1 (by rw[GX];omega) fun s2 hR2=> ?_)))))
 repeat (first|(with_reducible refine wpAny_bind ?_)|(refine wpAny_pure ?_))
 refine wpAny_holding (wpAny_bind (W.go h1 hA hR2 fun v s3 y o3 hv hR3 hz=> ?_));obtain⟨a2,k2,o4,rfl,hD2,hz2,hz3,hu2,hK⟩:=hz;cases hv;refine wpAny_bind (wpAny_standAt (wpAny_pure ?_));refine wpAny_bind (wpAny_onRaise (wpAny_tryCatch (wpAny_onRaise (wpAny_holding (lm hR3 hu2 hD2 (by omega) fun s4 hR4=> ?_)))))
 repeat (first|(with_reducible refine wpAny_bind ?_)|(refine wpAny_pure ?_))
 exact⟨_,o4,.val _,hR4,hK⟩
end
end
section
open PySem.SeqAt
theorem nY {K:Frag} {M:Model} {Q:α->Shared->Prop} (X:K.In s.heap):
 ∀(t:Sem α) (g:Addr->Sem α),peekA K ⟨M.prog,M.w.params⟩ t=some (o,g)->wpAny M A (g s.heap.objs.size) Q E {s with heap:=s.heap.push o}->wpAny M A t Q E s:=by
 intro t;induction t with
 |rule _ k ih=>intro g e q Γ p hΓ;exact ih () g e q Γ p hΓ
 |point _ k ih=>intro g e q Γ p hΓ;exact ih () g e q Γ p hΓ
 |ask k ih=>intro g e q Γ p hΓ;exact ih _ g e q Γ p hΓ
 |load a _ k ih=>
  intro g e q Γ p hΓ;simp only[peekA]at e;split at e
  ·rename_i ob ho;exact⟨ob,X _ _ ho,ih ob g e q Γ p hΓ⟩
  ·cases e
 |alloc ob k _=>
  intro g e q;obtain⟨e1,e2⟩:=Prod.mk.inj (Option.some.inj (show some (ob,k)=some (o,g)from e));subst e1;subst e2;exact wpAny_bind (m:=alloc ob) (wpAny_alloc q)
 |_=>intro g e;cases e
section
variable {prog:Program} {d:Addr}
theorem yU {es:List DictEntry} {k:Str} {Q:Unit->Shared->Prop} (hD:s.heap.get? d=some (dictOf es n)) (hs:∀e∈es,e.key.isStr k=false) (hr:∀e∈es,e.refKey=false) (h:∀h',h'.get? d=some (dictOf (es++[⟨PyData.keyHash w.params k,.str k s.toks,v⟩]) (n+1))->Heap.SameBut d s.heap h'->Q () {s with heap:=h',toks:=s.toks+1}):
 wpAny (model prog w) A (nsSet d k v) Q E s:=by
 have e1:es.any (·.key.isStr k)=false:=by rw[HE];intro e he;rw[hs e he];exact E6
 have e2:es.any (·.refKey)=false:=by rw[HE];intro e he;rw[hr e he];exact E6
 have e:Obj.putName k (PyData.keyHash w.params k) (.str k s.toks) v (dictOf es n)=dictOf (es++[⟨PyData.keyHash w.params k,.str k s.toks,v⟩]) (n+1):=by
  rw[putName_dict,putL_new hs];show dictOf _ (if es.any (·.key.isStr k)then n else n+1)=_;rw[e1,if_neg E6]
 have c:aRefKeyMayBeTheName k es.toArray=false:=by
  rw[aRefKeyMayBeTheName_at,←I1,←I1];show(!es.any (·.key.isStr k)&&es.any (·.refKey))=false;rw[e2,HU]
 unfold nsSet;refine wpAny_bind (wpAny_bind (wpAny_askSetting (wpAny_pure (wpAny_bind (wpAny_mkText (wpAny_bind (wpAny_loadPart hD ?_)))))));dsimp only;rw[c];refine wpAny_updatePart hD (h _ ?_ (Heap.SameBut.update ..));exact(Heap.get?_update_self _ hD ((congrArg Obj.isFreed e).trans rfl)).trans (congrArg some e)
theorem vj {Q:PUnit->Shared->Prop}:∀(ex:List (Str×Value)) (s:Shared) (es:List DictEntry) (n:Nat),s.heap.get? d=some (dictOf es n)->
 (∀e∈es,∀x∈ex,e.key.isStr x.1=false)->(∀e∈es,e.refKey=false)->(ex.map (·.1)).Nodup ->
 (∀h',h'.get? d=some (dictOf (es++kwEs w.params s.toks ex) (n+ex.length))->Heap.SameBut d s.heap h'->Q ⟨⟩ {s with heap:=h',toks:=s.toks+ex.length})->
 wpAny (model prog w) A (forIn ex PUnit.unit fun x _=>(nsSet d x.1 x.2>>=fun _=>pure (ForInStep.yield PUnit.unit))) Q E s:=by
 intro ex;induction ex with
 |nil=>
  intro s es n hD _ _ _ h;rw[Gy];exact wpAny_pure (h s.heap (by show _=some (dictOf (es++[]) n);rw[EV];exact hD) (Heap.SameBut.refl _ _))
 |cons x r ih=>
  intro s es n hD hs hr hn h;rw[EQ,E2]at hn;rw[Gb];refine wpAny_bind (wpAny_bind (yU hD (fun e he=>hs e he x (.head _)) hr fun h' hD' hs'=>wpAny_pure ?_));show wpAny (model prog w) A (forIn r PUnit.unit fun x _=>(nsSet d x.1 x.2>>=fun _=>pure (ForInStep.yield PUnit.unit))) Q E {s with heap:=h',toks:=s.toks+1};refine ih {s with heap:=h',toks:=s.toks+1} _ _ hD' (fun e he y hy=> ?_) (fun e he=> ?_) hn.2 fun h'' hD'' hs''=> ?_
  ·rcases E3.mp he with he|he
   ·exact hs e he y (.tail _ hy)
   ·obtain rfl:=ED.mp he
    show(x.1==y.1)=false;exact beq_eq_false_iff_ne.mpr fun q=>hn.1 (by rw[q];exact EE hy)
  ·rcases E3.mp he with he|he
   ·exact hr e he
   ·obtain rfl:=ED.mp he
    rfl
  ·have t1:s.toks+1+r.length=s.toks+(r.length+1):=by omega
   have t2:n+1+r.length=n+(r.length+1):=by omega
   show Q ⟨⟩ {s with heap:=h'',toks:=s.toks+1+r.length};rw[t1];refine h h'' ?_ (hs'.trans hs'');rw[t2,EO]at hD'';exact hD''
end
section
theorem WB.of_peekA {front:List (Str×AV)} {nm:Str} {K:List (Str×AV)->Led->Prop} (hT:TopG Γ) (hn:(ex.map (·.1)).Nodup) (h:∀vs kv,VRs as vs->All2 KR ks kv->∃fr xs g,All2 KR front fr∧All2 KR ex xs∧peekA (Mine.Internal.hd.heap_1 Γ.w.params) ⟨PR,Γ.w.params⟩ (bindArgs fd ⟨vs,kv⟩)=some (dictOf [] 0,g)∧
 ∀D,g D=(forIn xs PUnit.unit (fun x _=>(nsSet D x.1 x.2>>=fun _=>pure (ForInStep.yield PUnit.unit)))>>=fun _=>pure (fr++[(nm,Value.ref D)]))) (hK:∀D,K (front++[(nm,.ref D)]) ((D,bj Γ.w D ex)::aa)):WB Γ fd as ks aa K:=by
 intro vs kv h1 h2 A s hA hR;obtain⟨fr,xs,g,h3,h4,h5,h6⟩:=h vs kv h1 h2;have hn':(xs.map (·.1)).Nodup :=by rw[←ge h4];exact hn
 refine nY (M:=model PR Γ.w) (hT.X.keeps hR.keep) _ g h5 ?_;rw[h6];have hlt:=lj hT hR;have hg:(s.heap.push (dictOf [] 0)).get? s.heap.objs.size=some (dictOf [] 0):=Heap.get?_push_size _ rfl;refine wpAny_bind (vj xs _ [] 0 hg (fun _ he=>nomatch he) (fun _ he=>nomatch he) hn' fun h' hD' hs'=>wpAny_pure ?_);have hR1:=hR.newD hT s.toks
 have hR2:R Γ ((s.heap.objs.size,bj Γ.w s.heap.objs.size ex)::aa) {s with heap:=h',toks:=s.toks+xs.length}:=
  hR1.upd (t:=s.toks+xs.length) .head hs'.extBut ⟨_,hD',hlt,xs,kp_isDict s.toks (0+xs.length) hn',h4⟩ sN
 exact⟨_,_,sO h3 (.cons ⟨rfl,.val _⟩ .nil),hR2,hK _⟩
end
end
section
noncomputable def yV (p:Params) (pm:Value) (c':Addr) (aq:Value):Obj:=kla_obj "<lambda>" "_law_element.<locals>.<lambda>" (bi p 115 [0,0]).args (bi p 115 [0,0]).expr (bS p 115 [0,0]) [] pm c' aq
noncomputable def nZ (p:Params) (pm:Value) (c':Addr) (aq:Value):FuncData:=gl (yV p pm c' aq)
theorem ka115a:KdA (ah (nZ p pm c' aq) f L cs) []:=⟨by kernel_rfl,by kernel_rfl⟩
noncomputable def lZ (p:Params) (c_element:Addr) (pm:Value) (c':Addr) (aq:Value):Obj:=kla_obj "<lambda>" "_law_element.<locals>.<lambda>" (bi p 115 [5,0]).args (bi p 115 [5,0]).expr (bS p 115 [5,0]) [("element",c_element)] pm c' aq
noncomputable def gD (p:Params) (c_element:Addr) (pm:Value) (c':Addr) (aq:Value):FuncData:=gl (lZ p c_element pm c' aq)
theorem ph:(lZ p c_element pm c' aq).data = .func (gD p c_element pm c' aq):=rfl
theorem vm:(gD p c_element pm c' aq).body = .expr (bi p 115 [5,0]).expr :=rfl
theorem ka115b:KdA (ah (gD p c_element pm c' aq) f L cs) [("one",.local),("element",.free)]:=⟨by kernel_rfl,by kernel_rfl⟩
theorem yW:(([("one",none)]:Loc).map (·.1)).Nodup :=by decide
theorem yX:∀p∈([("one",none)]:Loc),p.2=none:=bF rfl
theorem yY {a_one:AV} {K:List (Str×AV)->Led->Prop} (h:K [("one",a_one)] aa):WB Γ (gD p c_element pm c' aq) [a_one] [] aa K:=by
 exact WB.q1 (fun _=>by kernel_rfl) .nil h
theorem vn {a_one:AV} (hT:TopG Γ) (hk:0<Γ.k) (hm:(f,bg (lZ Γ.w.params c_element pm c' aq))∈aa) (h:∀L,WE Γ.dn (ah (gD Γ.w.params c_element pm c' aq) f L [("element",c_element)]) (bi Γ.w.params 115 [5,0]).expr ((L,ab [("one",some a_one)])::aa) fun a o2=>∃o3,Less o3 o2∧K a o3):ai Γ (.ref f) [a_one] [] aa K:=by
 refine cZ hk hT (cM hm ph) vm yW yX (yY fun L cs hcs=> ?_) (by kernel_rfl) (by kernel_rfl);rw[af (cs:=cs) hcs];show WBinds _ (ah (gD Γ.w.params c_element pm c' aq) f L [("element",c_element)]) _ ((L,ab _)::aa) fun o1=>WE _ (ah (gD Γ.w.params c_element pm c' aq) f L [("element",c_element)]) _ o1 _;refine st_local (ka115b.at 0 (by kernel_rfl)) lf (by show"upd") (by show"put") ?_;exact h L
noncomputable def l0 (p:Params) (c_tag c_element:Addr) (pm:Value) (c':Addr) (aq:Value):Obj:=kla_obj "<lambda>" "_law_element.<locals>.<lambda>" (bi p 115 [7,0]).args (bi p 115 [7,0]).expr (bS p 115 [7,0]) [("tag",c_tag),("element",c_element)] pm c' aq
noncomputable def fc (p:Params) (c_tag c_element:Addr) (pm:Value) (c':Addr) (aq:Value):FuncData:=gl (l0 p c_tag c_element pm c' aq)
theorem pj {c_tag:Addr}:(l0 p c_tag c_element pm c' aq).data = .func (fc p c_tag c_element pm c' aq):=rfl
theorem vo {c_tag:Addr}:(fc p c_tag c_element pm c' aq).body = .expr (bi p 115 [7,0]).expr :=rfl
theorem ka115c {c_tag:Addr}:KdA (ah (fc p c_tag c_element pm c' aq) f L cs) [("element",.free),("tag",.free)]:=⟨by kernel_rfl,by kernel_rfl⟩
theorem yZ:(([]:Loc).map (·.1)).Nodup :=by decide
theorem y0:∀p∈([]:Loc),p.2=none:=bF rfl
theorem y_ {c_tag:Addr} {K:List (Str×AV)->Led->Prop} (h:K [] aa):WB Γ (fc p c_tag c_element pm c' aq) [] [] aa K:=by
 exact WB.q0 (by kernel_rfl) .nil h
theorem vp {c_tag:Addr} (hT:TopG Γ) (hk:0<Γ.k) (hm:(f,bg (l0 Γ.w.params c_tag c_element pm c' aq))∈aa) (h:∀L,WE Γ.dn (ah (fc Γ.w.params c_tag c_element pm c' aq) f L [("tag",c_tag),("element",c_element)]) (bi Γ.w.params 115 [7,0]).expr ((L,ab [])::aa) fun a o2=>∃o3,Less o3 o2∧K a o3):ai Γ (.ref f) [] [] aa K:=by
 refine cZ hk hT (cM hm pj) vo yZ y0 (y_ fun L cs hcs=> ?_) (by kernel_rfl) (by kernel_rfl);rw[af (cs:=cs) hcs];show WBinds _ (ah (fc Γ.w.params c_tag c_element pm c' aq) f L [("tag",c_tag),("element",c_element)]) _ ((L,ab _)::aa) fun o1=>WE _ (ah (fc Γ.w.params c_tag c_element pm c' aq) f L [("tag",c_tag),("element",c_element)]) _ o1 _;exact h L
structure El where
 (f d li fa fi ce ct at':Addr)
 fd:FuncData
 tag:Str
 tail:AV
 kids:List Addr
 (pa pi:Value)
 (ca ci:Addr)
 (va vi:Value)
noncomputable abbrev El.attrs (e:El):List (Str×AV):=[("itertext",.ref e.fi),("makeelement",.ref 115),("append",.ref e.fa),("inside",.ref e.li),("tail",e.tail),("attrib",.ref e.at'),("tag",.str e.tag)]
noncomputable abbrev El.oa (e:El) (p:Params):Obj:=lZ p e.ce e.pa e.ca e.va
noncomputable abbrev El.oi (e:El) (p:Params):Obj:=l0 p e.ct e.ce e.pi e.ci e.vi
noncomputable abbrev m5 (p:Params) (e:El):Led:=
 [(e.f,bg (k7 e.fd (some e.d) #[])),(e.d,kt e.attrs),lL e.li (e.kids.map AV.ref),(e.fa,bg (e.oa p)),(e.fi,bg (e.oi p)),cR e.ce e.f,(e.ct,h_ (some (.str e.tag)))]
theorem ek115:EnvOk (ah (ak p 115) f L cs):=⟨by kernel_rfl,by kernel_rfl⟩
theorem ka115:KdA (ah (ak p 115) f L cs) [("tag",.cell),("attrib",.local),("element",.cell),("_law_element",.globalImplicit)]:=⟨by kernel_rfl,by kernel_rfl⟩
theorem vq (p:Params):(ak p 115).body = .stmts (ay p 115):=rfl
theorem By:(([("attrib",none)]:Loc).map (·.1)).Nodup :=by decide
theorem Bz:∀p∈([("attrib",none)]:Loc),p.2=none:=bF rfl
theorem BA {a_tag a_attrib:AV} {K:List (Str×AV)->Led->Prop} (hT:TopG Γ) (h:K [("tag",a_tag),("attrib",a_attrib)] aa):WB Γ (ak Γ.w.params 115) [a_tag,a_attrib] [] aa K:=by
 exact WB.p2 hT (fun _ _=>by kernel_rfl) .nil h
theorem vr {a_tag a_attrib:AV} (hT:TopG Γ) (hk:0<Γ.k) (h:∀L c_element c_tag,WS Γ.dn (ah (ak Γ.w.params 115) 115 L [("element",c_element),("tag",c_tag)]) (ay Γ.w.params 115) (cN c_element::(c_tag,h_ (some a_tag))::(L,ab [("attrib",some a_attrib)])::aa) fun fl o2=>∃o3,Less o3 o2∧K fl.val o3):
 ai Γ (.ref 115) [a_tag,a_attrib] [] aa K:=by
 refine bA hk hT (fun s hR=>(rj _).hf hT s hR) (vq _) By Bz (BA hT.dn fun L cs hcs=> ?_) (by kernel_rfl) (by kernel_rfl);have hcs0:cs.map (·.1)=[("element":Str),("tag":Str)]:=hcs.trans (by kernel_rfl);obtain⟨c_element,cs1,e1,hcs1⟩:=au hcs0;obtain⟨c_tag,cs2,e2,hcs2⟩:=au hcs1;have e0:=af hcs2;clear hcs hcs0 hcs1 hcs2;subst e0;subst e2;subst e1;show WBinds _ (ah (ak Γ.w.params 115) 115 L [("element",c_element),("tag",c_tag)]) _ (cN c_element::cN c_tag::(L,ab _)::aa) _;refine st_cell (ka115.at 0 (by kernel_rfl)) cf (by show"cel") (by show"upd") ?_;refine st_local (ka115.at 1 (by kernel_rfl)) lf (by show"upd") (by show"put") ?_;exact h L c_element c_tag
theorem BB {tag:Str} {at':Addr} {kvs:List (Str×AV)} (hS:Std Γ) (hk:1<Γ.k) (hd:(at',bj Γ.w at' kvs)∈aa) (hK:∀e:El,e.tag=tag->e.at'=at'->e.tail=yP kvs "tail"->e.kids=[]->K (.ref e.f) (m5 Γ.w.params e++aa)):ai Γ (.ref 115) [.str tag,.ref at'] [] aa K:=by
 refine vr hS.T (by omega) fun L c_element c_tag=> ?_;have hS1:Std Γ.dn:=hS.dn;have hT:TopG Γ.dn:=hS1.T;clear hS;refine s_cons (x_Assign_Name ?_);refine b7 (c:=114) (P:=110) (q:="_law_element.<locals>.<lambda>") hT (hS1.mem _ (by show"mem")) (hS1.uniq (by show"mem")) (by kernel_rfl) (by kernel_rfl) (by kernel_rfl) (by kernel_rfl) (clos:=[]) (by kernel_rfl) fun f pm c' aq=> ?_;show WSt _ _ _ _ ((f,bg (k7 (nZ Γ.w.params pm c' aq) none #[]))::_) _
 show"w115";refine yO iU (by show"mem") fun d=>⟨_,by show"upd",?_⟩;show"w115";refine gc fI (by show"mem") (by show"upd") (by exact(show("attrib":Str)∉(["tag"]:List Str)from by decide)) (by exact Eo rfl) ?_;show"w115";refine yS (kvs:=kvs) (by show"mem") ?_;show"w115";refine yT (kvs:=kvs) (by show"mem") ?_;show"w115";refine gc hH (by show"mem") (by show"upd") (by exact(show("tail":Str)∉(["attrib","tag"]:List Str)from by decide)) (by exact Eo rfl) ?_;show"w115";refine⟨ac (Eo rfl),fun li=> ?_⟩;show"w115";refine gc fJ (by show"mem") (by show"upd") (by exact(show("inside":Str)∉(["tail","attrib","tag"]:List Str)from by decide)) (by exact Eo rfl) ?_;refine s_cons (x_Assign_Attr ?_);refine b7 (c:=114) (P:=110) (q:="_law_element.<locals>.<lambda>") hT (hS1.mem _ (by show"mem")) (hS1.uniq (by show"mem")) (by kernel_rfl) (by kernel_rfl) (by kernel_rfl) (by kernel_rfl) (clos:=[("element",c_element)]) (by kernel_rfl) fun fa pa ca va=> ?_;show"w115";refine gc fK (by show"mem") (by show"upd") (by exact(show("append":Str)∉(["inside","tail","attrib","tag"]:List Str)from by decide)) (by exact Eo rfl) ?_;show"w115";refine gc dG (by show"mem") (by show"upd") (by exact(show("makeelement":Str)∉(["append","inside","tail","attrib","tag"]:List Str)from by decide)) (by exact Eo rfl) ?_;refine s_cons (x_Assign_Attr ?_);refine b7 (c:=114) (P:=110) (q:="_law_element.<locals>.<lambda>") hT (hS1.mem _ (by show"mem")) (hS1.uniq (by show"mem")) (by kernel_rfl) (by kernel_rfl) (by kernel_rfl) (by kernel_rfl) (clos:=[("tag",c_tag),("element",c_element)]) (by kernel_rfl) fun fi pi ci vi=> ?_;show"w115";refine gc eP (by show"mem") (by show"upd") (by exact(show("itertext":Str)∉(["makeelement","append","inside","tail","attrib","tag"]:List Str)from by decide)) (by exact Eo rfl) ?_;show"w115";refine⟨_,?_,hK ⟨f,d,li,fa,fi,c_element,c_tag,at',nZ Γ.w.params pm c' aq,tag,yP kvs "tail",[],pa,pi,ca,ci,va,vi⟩ rfl rfl rfl rfl⟩;show Less ((f,_)::(d,_)::(li,_)::(fa,_)::(fi,_)::(c_element,_)::(c_tag,_)::aa) _;show"less"
end
section
theorem ka101:KdA (ah (ak p 101) f L cs) [("parent",.local),("tag",.local),("attrib",.local),("extra",.local),("element",.local)]:=⟨by kernel_rfl,by kernel_rfl⟩
structure HasE (p:Params) (aa:Led) (e:El):Prop where
 f:(e.f,bg (k7 e.fd (some e.d) #[]))∈aa
 d:(e.d,kt e.attrs)∈aa
 fa:(e.fa,bg (e.oa p))∈aa
 fi:(e.fi,bg (e.oi p))∈aa
 ce:cR e.ce e.f∈aa
 ct:(e.ct,h_ (some (.str e.tag)))∈aa
theorem HasE.of {e:El} (h:∀q∈m5 p e,q∈aa):HasE p aa e:=
 ⟨h _ (.head _),h _ (.tail _ (.head _)),h _ (.tail _ (.tail _ (.tail _ (.head _)))),h _ (.tail _ (.tail _ (.tail _ (.tail _ (.head _))))),h _ (.tail _ (.tail _ (.tail _ (.tail _ (.tail _ (.head _)))))),h _ (.tail _ (.tail _ (.tail _ (.tail _ (.tail _ (.tail _ (.head _)))))))⟩
theorem HasE.up {e:El} (h:HasE p aa e) (hs:∀q,q∈aa->q∈ao):HasE p ao e:=⟨hs _ h.f,hs _ h.d,hs _ h.fa,hs _ h.fi,hs _ h.ce,hs _ h.ct⟩
theorem HasE.cons {e:El} {q:Addr×OP} (h:HasE p aa e):HasE p (q::aa) e:=h.up fun _=> .tail _
theorem HasE.app {F:Led} {e:El} (h:HasE p aa e):HasE p (F++aa) e:=h.up fun _=>EC _
section
variable {e:El}
theorem dZ {b:Bool} (h:HasE Γ.w.params aa e) (hK:K (.ref e.li) aa):k9 Γ (.ref e.f) "inside" b aa K:=pe h.f h.d (.tail _ (.tail _ (.tail _ (.head _)))) fJ eQ hK
theorem hV {b:Bool} (h:HasE Γ.w.params aa e) (hK:K (.ref e.at') aa):k9 Γ (.ref e.f) "attrib" b aa K:=pe h.f h.d (.tail _ (.tail _ (.tail _ (.tail _ (.tail _ (.head _)))))) fI eQ hK
theorem sT {b:Bool} (h:HasE Γ.w.params aa e) (hK:K (.str e.tag) aa):k9 Γ (.ref e.f) "tag" b aa K:=pe h.f h.d (.tail _ (.tail _ (.tail _ (.tail _ (.tail _ (.tail _ (.head _))))))) iU lg hK
theorem sU {b:Bool} (h:HasE Γ.w.params aa e) (hp:jQ e.tail) (hK:K e.tail aa):k9 Γ (.ref e.f) "tail" b aa K:=pe h.f h.d (.tail _ (.tail _ (.tail _ (.tail _ (.head _))))) hH hp hK
theorem sV {K:Value×List AV->Led->Prop} (h:HasE Γ.w.params aa e) (hK:K (.ref e.fa,[]) aa):mu Γ (.ref e.f) "append" aa K:=yN h.f h.d (.tail _ (.tail _ (.head _))) fK eQ hK
theorem ku {K:Value×List AV->Led->Prop} (h:HasE Γ.w.params aa e) (hK:K (.ref 115,[]) aa):mu Γ (.ref e.f) "makeelement" aa K:=yN h.f h.d (.tail _ (.head _)) dG eQ hK
theorem jR {K:Value×List AV->Led->Prop} (h:HasE Γ.w.params aa e) (hK:K (.ref e.fi,[]) aa):mu Γ (.ref e.f) "itertext" aa K:=yN h.f h.d (.head _) eP eQ hK
theorem HasE.keepsA (h:HasE Γ.w.params aa e):bu Γ aa (.ref e.fa):=aV h.fa ph
theorem HasE.keepsI (h:HasE Γ.w.params aa e):bu Γ aa (.ref e.fi):=aV h.fi pj
theorem za {x:Addr} (hT0:TopG Γ) (hk:0<Γ.k) (hE:HasE Γ.w.params aa e) (hz:e.kids.length≤100) (hu:Upd e.li (bD (e.kids.map AV.ref)) (bD ((e.kids++[x]).map AV.ref)) aa ao) (hK:K .none ao):ai Γ (.ref e.fa) [.ref x] [] aa K:=by
 refine vn hT0 hk hE.fa fun L=> ?_;have hT:TopG Γ.dn:=hT0.dn;have hE1:HasE Γ.w.params ((L,ab [nR "one" x])::aa) e:=hE.cons;have hce:=hE1.ce;have hli:=hu.mem;refine w_MCall ?_;show"w115b";refine dZ hE1 ?_;show"w115b";refine cy PySem.slot_list_append PySem.type_list_append (vs:=e.kids.map AV.ref) (.tail _ hli) ?_;show"w115b";rw[Ez]at hu;refine cY (vs:=e.kids.map AV.ref) (.tail hu) (ac (by rw[En];omega)) ?_;exact⟨_,Less.skip Less.refl,hK⟩
noncomputable def Src (Γ:Cx) (aa:Led) (a:Addr) (k:List (Str×AV)):Prop:=(a,bj Γ.w a k)∈aa∨(a=93∧k=[])
theorem Src.cons {a:Addr} {k:List (Str×AV)} {q:Addr×OP} (h:Src Γ aa a k):Src Γ (q::aa) a k:=h.imp (.tail _) id
theorem BC (p:Params):(Mine.Internal.hd.heap_1 p).lookup 93=some {cls:= .type "dict",data:= .dict #[]}:=by kernel_rfl
theorem Src.has {a d:Addr} {P:OP} {k:List (Str×AV)} (hT:TopG Γ) (h:Src Γ aa a k):qx Γ ((d,P)::aa) d a k:=by
 rcases h with h|⟨rfl,rfl⟩
 ·exact m3 h
 ·exact sR hT (.head _) (BC _) ⟨#[],0,⟨rfl,rfl,rfl⟩,rfl,fun _ h=>by simp at h,.nil,GO⟩ (by decide)
theorem zb {D a0:Addr} {tag:Str} {k0:List (Str×AV)} (hS1:Std Γ) (hk:2<Γ.k) (hE:HasE Γ.w.params aa e) (hz:e.kids.length≤100) (hsrc:Src Γ aa a0 k0) (h0:k0.length≤100) (h1:ex.length≤100) (h2:(a9 [] k0).length ≤100) (hK:∀e2:El,e2.tag=tag->e2.tail=yP (a9 (a9 [] k0) ex) "tail"->e2.kids=[]->∃ao,Upd e.li (bD (e.kids.map AV.ref)) (bD ((e.kids++[e2.f]).map AV.ref)) aa ao∧
 K (.ref e2.f) (m5 Γ.w.params e2++(e2.at',bj Γ.w e2.at' (a9 (a9 [] k0) ex))::ao)):
 WS Γ (ah (ak Γ.w.params 101) 101 L []) (ay Γ.w.params 101) ((L,ab [nR "parent" e.f,("tag",some (.str tag)),nR "attrib" a0,nR "extra" D,("element",none)])::(D,bj Γ.w D ex)::aa) fun fl o2=>∃o3,Less o3 o2∧K fl.val o3:=by
 have hT:TopG Γ:=hS1.T;refine s_cons (x_Assign_Name ?_);refine m4 hT fun N=> ?_;show"w101";refine⟨a0,k0,_,rfl,Src.has hT (hsrc.cons.cons),h0,.head,?_⟩;show"w101";refine⟨D,ex,_,rfl,m3 (by show"mem"),h1,h2,.head,?_⟩;show"w101";refine ku hE.cons.cons.cons ?_;show"w101";refine⟨am (rj _) hT,?_⟩;refine BB hS1 (by omega) (.head _) fun e2 q1 q2 q3 q4=> ?_;subst q2;obtain⟨ao,hu,hK2⟩:=hK e2 q1 q3 q4;simp only[m5,EX,Ff]at hK2⊢;show"w101";have hE2:=hE.cons (q:=(D,bj Γ.w D ex))|>.cons (q:=(L,ab [nR "parent" e.f,("tag",some (.str tag)),nR "attrib" e2.at',nR "extra" D,nR "element" e2.f]))|>.cons (q:=(e2.at',bj Γ.w e2.at' (a9 (a9 [] k0) ex)))|>.cons (q:=(e2.ct,h_ (some (.str e2.tag))))|>.cons (q:=cR e2.ce e2.f)|>.cons (q:=(e2.fi,bg (e2.oi Γ.w.params)))|>.cons (q:=(e2.fa,bg (e2.oa Γ.w.params)))|>.cons (q:=lL e2.li (e2.kids.map AV.ref))|>.cons (q:=(e2.d,kt e2.attrs))|>.cons (q:=(e2.f,bg (k7 e2.fd (some e2.d) #[])))
 refine sV hE2 ?_;show"w101";refine⟨hE2.keepsA,?_⟩;refine za hT (by omega) hE2 hz (.tail (.tail (.tail (.tail (.tail (.tail (.tail (.tail (.tail (.tail hu)))))))))) ?_;show"w101";refine⟨_,?_,hK2⟩;show"less"
end
end
section
variable {c_pieces:Addr}
section
noncomputable abbrev gx (fr xs:List (Str×Value)) (D:Addr):Sem (List (Str×Value)):=(forIn xs PUnit.unit (fun x _=>(nsSet D x.1 x.2>>=fun _=>pure (ForInStep.yield PUnit.unit))))>>=fun _=>pure (fr++([("extra",Value.ref D)]:List (Str×Value)))
theorem vt (p:Params):(ak p 101).body = .stmts (ay p 101):=rfl
noncomputable abbrev sW:Loc:=[("parent",none),("tag",none),("attrib",none),("extra",none),("element",none)]
theorem BD:((sW).map (·.1)).Nodup :=by decide
theorem BE:∀p∈sW,p.2=none:=by simp
section
variable {pf a0:Addr} {tag x:Str} {k:Int}
noncomputable abbrev vw (pf a0:Addr) (tag:Str):List (Str×AV):=[("parent",.ref pf),("tag",.str tag),("attrib",.ref a0)]
theorem l4 (hT:TopG Γ) (hk:0<Γ.k) (hwb:∀K':List (Str×AV)->Led->Prop,(∀D,K' (vw pf a0 tag++([("extra",.ref D)]:List (Str×AV))) ((D,bj Γ.w D ex)::aa))->WB Γ.dn (ak Γ.w.params 101) as ks aa K') (h:∀L D,WS Γ.dn (ah (ak Γ.w.params 101) 101 L []) (ay Γ.w.params 101) ((L,ab [nR "parent" pf,("tag",some (.str tag)),nR "attrib" a0,nR "extra" D,("element",none)])::(D,bj Γ.w D ex)::aa) fun fl o2=>∃o3,Less o3 o2∧K fl.val o3):
 ai Γ (.ref 101) as ks aa K:=by
 refine bA hk hT (fun s hR=>(oI _).hf hT s hR) (vt _) BD BE (hwb _ fun D L cs hcs=> ?_) (by kernel_rfl) (by kernel_rfl);rw[af (cs:=cs) hcs];show WBinds _ (ah (ak Γ.w.params 101) 101 L []) _ ((L,ab _)::_) _;refine st_local (ka101.at 0 (by kernel_rfl)) lf (by show"upd") (by show"put") ?_;refine st_local (ka101.at 1 (by kernel_rfl)) lf (by show"upd") (by show"put") ?_;refine st_local (ka101.at 2 (by kernel_rfl)) lf (by show"upd") (by show"put") ?_;refine st_local (ka101.at 3 (by kernel_rfl)) lf (by show"upd") (by show"put") ?_;exact h L D
theorem BF {vs:List β} (h:All2 r [] vs):vs=[]:=iY (G:=fun vs=>vs=[]) rfl h
theorem BG {a b:α} {vs:List β} (h:All2 r [a,b] vs):∃v w,vs=[v,w]∧r a v∧r b w:=qW (G:=fun vs=>∃v w,vs=[v,w]∧r a v∧r b w) (fun v w h1 h2=>⟨v,w,rfl,h1,h2⟩) h
theorem BH {a b c:α} {vs:List β} (h:All2 r [a,b,c] vs):∃v w x,vs=[v,w,x]∧r a v∧r b w∧r c x:=qX (G:=fun vs=>∃v w x,vs=[v,w,x]∧r a v∧r b w∧r c x) (fun v w x h1 h2 h3=>⟨v,w,x,rfl,h1,h2,h3⟩) h
theorem jS {a w:Value} (h:VR (.val a) w):w=a:=by cases h;rfl
theorem l5 {x:Str} {w:Value} (h:VR (.str x) w):∃t,w= .str x t:=by cases h;exact⟨_,rfl⟩
theorem zd {x:Int} {w:Value} (h:VR (.int x) w):∃t,w= .int x t:=by cases h;exact⟨_,rfl⟩
theorem vx {K:List (Str×AV)->Led->Prop} (hT:TopG Γ) (h:∀D,K (vw pf 93 tag++([("extra",.ref D)]:List (Str×AV))) ((D,bj Γ.w D [])::aa)):WB Γ (ak Γ.w.params 101) [.ref pf,.str tag] [] aa K:=by
 refine WB.of_peekA (ex:=[]) hT GO (fun vs kv h1 h2=> ?_) h;obtain⟨v1,v2,rfl,h3,h4⟩:=BG h1;cases BF h2;cases jS h3;obtain⟨t,rfl⟩:=l5 h4;exact⟨[("parent",.ref pf),("tag",.str tag t),("attrib",.ref 93)],[],gx _ _,.cons ⟨rfl,.val _⟩ (.cons ⟨rfl,.str _ _⟩ (.cons ⟨rfl,.val _⟩ .nil)),.nil,by kernel_rfl,fun D=>rfl⟩
theorem vy {K:List (Str×AV)->Led->Prop} (hT:TopG Γ) (h:∀D,K (vw pf a0 tag++([("extra",.ref D)]:List (Str×AV))) ((D,bj Γ.w D [])::aa)):WB Γ (ak Γ.w.params 101) [.ref pf,.str tag,.ref a0] [] aa K:=by
 refine WB.of_peekA (ex:=[]) hT GO (fun vs kv h1 h2=> ?_) h;obtain⟨v1,v2,v3,rfl,h3,h4,h5⟩:=BH h1;cases BF h2;cases jS h3;cases jS h5;obtain⟨t,rfl⟩:=l5 h4;exact⟨[("parent",.ref pf),("tag",.str tag t),("attrib",.ref a0)],[],gx _ _,.cons ⟨rfl,.val _⟩ (.cons ⟨rfl,.str _ _⟩ (.cons ⟨rfl,.val _⟩ .nil)),.nil,by kernel_rfl,fun D=>rfl⟩
theorem vz {K:List (Str×AV)->Led->Prop} (hT:TopG Γ) (h:∀D,K (vw pf a0 tag++([("extra",.ref D)]:List (Str×AV))) ((D,bj Γ.w D [("tail",.str x),("at",.int k)])::aa)):WB Γ (ak Γ.w.params 101) [.ref pf,.str tag,.ref a0] [("tail",.str x),("at",.int k)] aa K:=by
 refine WB.of_peekA (ex:=[("tail",.str x),("at",.int k)]) hT (by show(["tail","at"]:List Str).Nodup;decide) (fun vs kv h1 h2=> ?_) h;obtain⟨v1,v2,v3,rfl,h3,h4,h5⟩:=BH h1;obtain⟨p,q,rfl,h6,h8⟩:=BG h2;obtain⟨n1,w1⟩:=p;obtain⟨n2,w2⟩:=q;obtain⟨h6,h7⟩:=h6;obtain⟨h8,h9⟩:=h8;cases jS h3;cases jS h5;obtain⟨t,rfl⟩:=l5 h4;obtain⟨t1,rfl⟩:=l5 h7;obtain⟨t2,rfl⟩:=zd h9;cases h6;cases h8;exact⟨[("parent",.ref pf),("tag",.str tag t),("attrib",.ref a0)],[("tail",.str x t1),("at",.int k t2)],gx _ _,.cons ⟨rfl,.val _⟩ (.cons ⟨rfl,.str _ _⟩ (.cons ⟨rfl,.val _⟩ .nil)),.cons ⟨rfl,.str _ _⟩ (.cons ⟨rfl,.int _ _⟩ .nil),by kernel_rfl,fun D=>rfl⟩
noncomputable abbrev bZ (p:Params) (e:El) (r:Led):Led:=
 (e.f,bg (k7 e.fd (some e.d) #[]))::(e.d,kt e.attrs)::lL e.li (e.kids.map AV.ref)::(e.fa,bg (e.oa p))::(e.fi,bg (e.oi p))::cR e.ce e.f::(e.ct,h_ (some (.str e.tag)))::r
noncomputable abbrev l6 (Γ:Cx) (aa:Led) (e:El) (tag:Str) (kvs:List (Str×AV)) (K:AV->Led->Prop):Prop:=∀e2:El,e2.tag=tag->e2.tail=yP kvs "tail"->e2.kids=[]->
 ∃ao,Upd e.li (bD (e.kids.map AV.ref)) (bD ((e.kids++[e2.f]).map AV.ref)) aa ao∧K (.ref e2.f) (bZ Γ.w.params e2 ((e2.at',bj Γ.w e2.at' kvs)::ao))
variable {e:El}
theorem ze (hS:Std Γ) (hk:3<Γ.k) (hE:HasE Γ.w.params aa e) (hz:e.kids.length≤100) (hK:l6 Γ aa e tag [] K):ai Γ (.ref 101) [.ref e.f,.str tag] [] aa K:=
 l4 hS.T (by omega) (fun K' h=>vx hS.T.dn h) fun L D=>zb (k0:=[]) (ex:=[]) hS.dn (show 2<Γ.k-1 by omega) hE hz (.inr ⟨rfl,rfl⟩) (ET _) (ET _) (ET _) hK
theorem zf {k0:List (Str×AV)} (hS:Std Γ) (hk:3<Γ.k) (hE:HasE Γ.w.params aa e) (hz:e.kids.length≤100) (ha:(a0,bj Γ.w a0 k0)∈aa) (h0:k0.length≤100) (h2:(a9 [] k0).length ≤100) (hK:l6 Γ aa e tag (a9 (a9 [] k0) []) K):ai Γ (.ref 101) [.ref e.f,.str tag,.ref a0] [] aa K:=
 l4 hS.T (by omega) (fun K' h=>vy hS.T.dn h) fun L D=>zb (k0:=k0) (ex:=[]) hS.dn (show 2<Γ.k-1 by omega) hE hz (.inl ha) h0 (ET _) h2 hK
theorem zg {k0:List (Str×AV)} (hS:Std Γ) (hk:3<Γ.k) (hE:HasE Γ.w.params aa e) (hz:e.kids.length≤100) (ha:(a0,bj Γ.w a0 k0)∈aa) (h0:k0.length≤100) (h2:(a9 [] k0).length ≤100) (hK:l6 Γ aa e tag (a9 (a9 [] k0) [("tail",.str x),("at",.int k)]) K):ai Γ (.ref 101) [.ref e.f,.str tag,.ref a0] [("tail",.str x),("at",.int k)] aa K:=
 l4 hS.T (by omega) (fun K' h=>vz hS.T.dn h) fun L D=>zb (k0:=k0) (ex:=[("tail",.str x),("at",.int k)]) hS.dn (show 2<Γ.k-1 by omega) hE hz (.inl ha) h0 (Eo rfl) h2 hK
end
end
section
noncomputable def jT (p:Params):Scope:=bS p 115 [7,0,0,1]
theorem zh (p:Params):(jT p).kind = .function :=by kernel_rfl
theorem zi (p:Params):∀x∈(jT p).names,x.2= .local ->(jT p).names.lookup x.1=some .local :=aJ (by kernel_rfl)
theorem ka115d {c_tag:Addr} {L115d:Addr} {c115d:List (Str×Addr)}:KdA (aM (jT p) (ah (fc p c_tag c_element pm c' aq) f L cs) L115d c115d) [("one",.local),("part",.local)]:=⟨by kernel_rfl,by kernel_rfl⟩
noncomputable abbrev cF (ts:List Str):List AV:=ts.map AV.str
theorem eo (a b:List Str):cF a++cF b=cF (a++b):=(Ez ..).symm
noncomputable abbrev zj (es:List El):List AV:=es.map fun e=> .ref e.f
noncomputable def gp (aa:Led) (p:Params) (d:Nat) (e:El) (ts:List Str):Prop:=∀(Γ:Cx) (o:Led) (K:AV->Led->Prop),Γ.w.params=p->Std Γ->d<Γ.k->(∀q∈aa,q∈o)->
 (∀r,K (.ref r) (lL r (cF ts)::o))->ai Γ (.ref e.fi) [] [] o K
theorem qy {tss:List (List α)} {ts:List α} (h:tss[a]? =some ts):(tss.take (a+1)).flatten =(tss.take a).flatten ++ts:=by
 rw[E5,h,List.flatten_append];simp
theorem gf {ts:List Str} {x:Str} (h:ts[b]? =some x):cF (ts.take (b+1))=cF (ts.take b)++[.str x]:=by
 rw[E5,h];simp
theorem l7 {ts:List Str} (h:((cF ts).map Item.one)[b]? =some it):∃x,it= .one (.str x)∧ts[b]? =some x:=by
 rw[Eu,Ew]at h;obtain⟨a,ha,rfl⟩:=h;rw[Eu,Ew]at ha;obtain⟨x,hx,rfl⟩:=ha;exact⟨x,rfl,hx⟩
theorem vA {es:List El} (h:((zj es).map Item.one)[b]? =some it):∃x,it= .one (.ref x.f)∧es[b]? =some x:=by
 rw[Eu,Ew]at h;obtain⟨a,ha,rfl⟩:=h;rw[Eu,Ew]at ha;obtain⟨x,hx,rfl⟩:=ha;exact⟨x,rfl,hx⟩
theorem m6:∀{l:List (List α)},(∀x∈l,x.length≤20)->l.flatten.length≤20*l.length:=fun {z_}=>by
 induction z_ with
 |nil=>exact fun _=>EL _
 |cons x r ih=>
  intro h;have h1:=ih fun y hy=>h y (.tail _ hy);have h2:=h x (.head _);rw[Gr,EU,EK];omega
theorem jU {e:El} {es:List El} {tss:List (List Str)} (hE:HasE p aa e) (hl:lL e.li (zj es)∈aa) (hlen:tss.length=es.length) (hz:es.length≤20) (hes:∀(i:Nat) (e':El) (ts:List Str),es[i]? =some e'->tss[i]? =some ts->HasE p aa e'∧gp aa p d e' ts) (hts:∀ts∈tss,ts.length≤20):gp aa p (d+1) e (e.tag::tss.flatten):=by
 rintro Γ o K rfl hS0 hk hsub hK;have hEo:HasE Γ.w.params o e:=hE.up hsub;have hlo:=hsub _ hl;refine vp hS0.T (by omega) hEo.fi fun L=> ?_;have hS:Std Γ.dn:=hS0.dn;have hT:TopG Γ.dn:=hS.T;have hk1:d<Γ.dn.k:=show d<Γ.k-1 by omega
 have hce:=hEo.ce;have hct:=hEo.ct;refine w_BinOp ?_;show"w115c";refine⟨ac (Eo rfl),fun t=> ?_⟩;refine aL (cl:=[]) (loc:=[("one",none),("part",none)]) (by kernel_rfl) (zh Γ.w.params) (zi Γ.w.params) (by decide) (by simp) ?_;unfold bC;show"w115c";refine dZ hEo.cons.cons ?_;refine⟨_,aW (vs:=zj es) (by show"mem") ?_⟩;intro acc L2 cs2 hcs2;rw[af (cs:=cs2) hcs2];show aR _ _ 0 acc (aM (jT Γ.w.params) (ah (fc Γ.w.params e.ct e.ce e.pi e.ci e.vi) e.fi L [("tag",e.ct),("element",e.ce)]) L2 []) _ _ _ ((L2,ab [("one",none),("part",none)])::lL acc []::lL t [.str e.tag]::(L,ab [])::o) _;refine dk (fun a o'=>∃x y,o'=(L2,ab [("one",x),("part",y)])::lL acc (cF (tss.take a).flatten)::lL t [.str e.tag]::(L,ab [])::o) rfl rfl (by intro _;kernel_rfl) ⟨none,none,rfl⟩ ?_ ?_ ?_
 ·rintro a o' ⟨x,y,rfl⟩;show"mem"
 ·rintro a J it o' h2 hit ⟨x,y,rfl⟩ hs2
  have hS2:Std (Γ.dn.at h2):=hS.at hs2;obtain⟨e',rfl,he'⟩:=vA hit;have ha:a<es.length:=(EB.mp he').1;obtain⟨ts,hta⟩:∃ts,tss[a]? =some ts:=⟨_,Ex (by omega)⟩;obtain⟨hE',hI⟩:=hes a e' ts he' hta;have hE2:HasE Γ.w.params o e':=hE'.up hsub;have htl:ts.length≤20:=hts ts (EF hta);show WAsg _ _ _ _ _ _;show"w115d";refine jR hE2.cons.cons.cons.cons ?_;show"w115d";refine⟨HasE.keepsI (Γ:=Γ.dn.at h2) hE2.cons.cons.cons.cons,?_⟩;refine hI _ _ _ rfl hS2 hk1 (fun q hq=> .tail _ (.tail _ (.tail _ (.tail _ (hsub q hq))))) fun r=> ?_;refine⟨_,aW (vs:=cF ts) (.head _) ?_⟩;dsimp only[J];rw[qy hta]
  have hb:(tss.take a).flatten.length ≤400:=by
   have:=m6 (l:=tss.take a) fun x hx=>hts x (F1 hx);rw[EJ]at this;omega
  generalize (tss.take a).flatten =pre at*;refine aB (fun b o'=>∃y,o'=lL r (cF ts)::(L2,ab [nR "one" e'.f,("part",y)])::lL acc (cF pre++cF (ts.take b))::lL t [.str e.tag]::(L,ab [])::o) rfl rfl ⟨y,by rw[F9];simp⟩ ?_ ?_ ?_
  ·rintro b o' ⟨y,rfl⟩;show"mem"
  ·rintro b J it o' h3 hit3 ⟨y,rfl⟩ hs3
   obtain⟨x3,rfl,hx3⟩:=l7 hit3;show WAsg _ _ _ _ _ _;show"w115d";refine⟨_,_,_,.tail (.tail .head),ac (by rw[EU,En,En,EJ];omega),Less.refl,some (.str x3),?_⟩;rw[gf hx3,EO]
  ·rintro o' ⟨y,rfl⟩
   rw[En,En,EW,eo];exact⟨_,Less.skip Less.refl,_,_,rfl⟩
 ·rintro o' ⟨x,y,rfl⟩
  rw[En,En,←hlen,EW];refine⟨_,_,Less.refl,?_⟩;have hb:tss.flatten.length≤400:=by have:=m6 hts;omega
  refine bt (vs:=[.str e.tag]) (ws:=cF tss.flatten) (by show"mem") (by show"mem") (ac (by simp only[En,EK,GX];omega)) fun z=> ?_;exact⟨_,by show"less",hK z⟩
end
section
noncomputable def eE (p:Params) (c_pieces:Addr) (pm:Value) (c':Addr) (aq:Value):Obj:=kla_obj "<lambda>" "law.<locals>.<lambda>" (bi p 144 [25,2,0,1]).args (bi p 144 [25,2,0,1]).expr (bS p 144 [25,2,0,1]) [("pieces",c_pieces)] pm c' aq
noncomputable def gE (p:Params) (c_pieces:Addr) (pm:Value) (c':Addr) (aq:Value):FuncData:=gl (eE p c_pieces pm c' aq)
theorem l8:(eE p c_pieces pm c' aq).data = .func (gE p c_pieces pm c' aq):=rfl
theorem vB:(gE p c_pieces pm c' aq).body = .expr (bi p 144 [25,2,0,1]).expr :=rfl
theorem ka144w:KdA (ah (gE p c_pieces pm c' aq) f L cs) [("part",.local),("pieces",.free)]:=⟨by kernel_rfl,by kernel_rfl⟩
theorem zk:(([("part",none)]:Loc).map (·.1)).Nodup :=by decide
theorem zl:∀p∈([("part",none)]:Loc),p.2=none:=bF rfl
theorem zm {a_part:AV} {K:List (Str×AV)->Led->Prop} (h:K [("part",a_part)] aa):WB Γ (gE p c_pieces pm c' aq) [a_part] [] aa K:=by
 exact WB.q1 (fun _=>by kernel_rfl) .nil h
theorem vC {a_part:AV} (hT:TopG Γ) (hk:0<Γ.k) (hm:(f,bg (eE Γ.w.params c_pieces pm c' aq))∈aa) (h:∀L,WE Γ.dn (ah (gE Γ.w.params c_pieces pm c' aq) f L [("pieces",c_pieces)]) (bi Γ.w.params 144 [25,2,0,1]).expr ((L,ab [("part",some a_part)])::aa) fun a o2=>∃o3,Less o3 o2∧K a o3):ai Γ (.ref f) [a_part] [] aa K:=by
 refine cZ hk hT (cM hm l8) vB zk zl (zm fun L cs hcs=> ?_) (by kernel_rfl) (by kernel_rfl);rw[af (cs:=cs) hcs];show WBinds _ (ah (gE Γ.w.params c_pieces pm c' aq) f L [("pieces",c_pieces)]) _ ((L,ab _)::aa) fun o1=>WE _ (ah (gE Γ.w.params c_pieces pm c' aq) f L [("pieces",c_pieces)]) _ o1 _;refine st_local (ka144w.at 0 (by kernel_rfl)) lf (by show"upd") (by show"put") ?_;exact h L
theorem ka108:KdA (ah (ak p 108) f L cs) [("write",.local),("elem",.local),("part",.local)]:=⟨by kernel_rfl,by kernel_rfl⟩
theorem vD (p:Params):(ak p 108).body = .stmts (ay p 108):=rfl
theorem BI:(([("write",none),("elem",none),("part",none)]:Loc).map (·.1)).Nodup :=by decide
theorem BJ:∀p∈([("write",none),("elem",none),("part",none)]:Loc),p.2=none:=bF rfl
theorem BK {a_write a_elem:AV} {K:List (Str×AV)->Led->Prop} (hT:TopG Γ) (h:K [("write",a_write),("elem",a_elem)] aa):WB Γ (ak Γ.w.params 108) [a_write,a_elem] [] aa K:=by
 exact WB.p2 hT (fun _ _=>by kernel_rfl) .nil h
theorem vE {a_write a_elem:AV} (hT:TopG Γ) (hk:0<Γ.k) (h:∀L,WS Γ.dn (ah (ak Γ.w.params 108) 108 L []) (ay Γ.w.params 108) ((L,ab [("write",some a_write),("elem",some a_elem),("part",none)])::aa) fun fl o2=>∃o3,Less o3 o2∧K fl.val o3):
 ai Γ (.ref 108) [a_write,a_elem] [] aa K:=by
 refine bA hk hT (fun s hR=>(wT _).hf hT s hR) (vD _) BI BJ (BK hT.dn fun L cs hcs=> ?_) (by kernel_rfl) (by kernel_rfl);rw[af (cs:=cs) hcs];show WBinds _ (ah (ak Γ.w.params 108) 108 L []) _ ((L,ab _)::aa) _;refine st_local (ka108.at 0 (by kernel_rfl)) lf (by show"upd") (by show"put") ?_;refine st_local (ka108.at 1 (by kernel_rfl)) lf (by show"upd") (by show"put") ?_;exact h L
theorem po {pl:Addr} {x:AV} (hT0:TopG Γ) (hk:0<Γ.k) (hf:(f,bg (eE Γ.w.params c_pieces pm c' aq))∈aa) (hc:cR c_pieces pl∈aa) (hz:vs.length≤1000) (hu:Upd pl (bD vs) (bD (vs++[x])) aa ao) (hK:K .none ao):ai Γ (.ref f) [x] [] aa K:=by
 refine vC hT0 hk hf fun L=> ?_;have hT:TopG Γ.dn:=hT0.dn;have hli:=hu.mem;refine w_MCall ?_;show"w144w";refine cy PySem.slot_list_append PySem.type_list_append (vs:=vs) (.tail _ hli) ?_;show"w144w";refine cY (vs:=vs) (.tail hu) (ac (by omega)) ?_;exact⟨_,Less.skip Less.refl,hK⟩
noncomputable def iB:AV->List Str
 | .str x=>[x]
 |_=>[]
noncomputable def sX (a:AV):Prop:=a= .none ∨∃x:Str,a= .str x∧(x.length:Int)<9223372036854775808∧((x.length:Int)!=0)=true
theorem C6 {e:El} {pl:Addr} {vs ts:List Str} (hS:Std Γ) (hk:d+3<Γ.k) (hE:HasE Γ.w.params aa e) (hI:gp aa Γ.w.params d e ts) (htl:sX e.tail) (hc:cR c_pieces pl∈aa) (hz:vs.length+ts.length≤900) (hK:K .none (lL pl (cF (vs++ts++iB e.tail))::(f,bg (eE Γ.w.params c_pieces pm c' aq))::aa)):
 ai Γ (.ref 108) [.ref f,.ref e.f] [] (lL pl (cF vs)::(f,bg (eE Γ.w.params c_pieces pm c' aq))::aa) K:=by
 refine vE hS.T (by omega) fun L=> ?_;have hS1:Std Γ.dn:=hS.dn;have hT:TopG Γ.dn:=hS1.T;have hk1:d+2<Γ.dn.k:=show d+2<Γ.k-1 by omega
 refine bv (fun o=>∃y,Less ((L,ab [nR "write" f,nR "elem" e.f,("part",y)])::lL pl (cF (vs++ts))::(f,bg (eE Γ.w.params c_pieces pm c' aq))::aa) o) ?_ ?_
 ·refine dp ?_
  refine w_MCall ?_;show"w108";refine jR hE.cons.cons.cons ?_;show"w108";refine⟨HasE.keepsI (Γ:=Γ.dn) hE.cons.cons.cons,?_⟩;refine hI _ _ _ rfl hS1 (by omega) (fun q hq=> .tail _ (.tail _ (.tail _ hq))) fun r=> ?_;refine⟨_,aW (vs:=cF ts) (.head _) ⟨fun i o=>∃y,o=lL r (cF ts)::(L,ab [nR "write" f,nR "elem" e.f,("part",y)])::lL pl (cF (vs++ts.take i))::(f,bg (eE Γ.w.params c_pieces pm c' aq))::aa,⟨none,by rw[F9,EV]⟩,?_,?_,?_⟩⟩
  ·rintro i o ⟨y,rfl⟩;exact .head _
  ·rintro i J it o h' hit ⟨y,rfl⟩ hs
   have hT2:TopG (Γ.dn.at h'):=hT.at hs;obtain⟨x,rfl,hx⟩:=l7 hit;show WAsg _ _ _ _ _ _;show"w108";refine⟨aV (.tail _ (.tail _ (.tail _ (.head _)))) l8,?_⟩;refine po (vs:=cF (vs++ts.take i)) hT2 (show 0<Γ.dn.k by omega) (by show"mem") (by show"mem") (by rw[En,EU,EJ];omega) (.tail (.tail .head)) ?_;show"w108";refine⟨rfl,_,Less.refl,some (.str x),?_⟩;rw[←eo,←eo,gf hx,EO]
  ·rintro o ⟨y,rfl⟩
   rw[En,En,EW];exact⟨rfl,_,Less.skip Less.refl⟩
 ·rintro o ⟨y,ho⟩
  refine W.sub ho ?_;clear ho;refine s_cons (x_If ?_);refine t_plain ?_
  have hpl:jQ e.tail:=by
   rcases htl with h|⟨x,h,_⟩
   ·rw[h];exact nX
   ·rw[h];exact lg
  show"w108";refine sU hE.cons.cons.cons hpl ?_;rcases htl with h|⟨x,h,h1,h2⟩
  ·rw[h]at hK⊢
   refine lF ?_;show"w108";rw[show iB AV.none=[]from rfl,EV]at hK;exact⟨_,Less.skip Less.refl,hK⟩
  ·have htail:=h
   rw[h]at hK⊢;refine xD h1 ?_;rw[h2];show"w108";refine sU hE.cons.cons.cons hpl ?_;show"w108";rw[htail];refine⟨aV (.tail _ (.tail _ (.head _))) l8,?_⟩;refine po (vs:=cF (vs++ts)) hT (show 0<Γ.dn.k by omega) (by show"mem") (by show"mem") (by rw[En,EU];omega) (.tail .head) ?_;show"w108";refine⟨_,Less.skip Less.refl,?_⟩;rw[show cF (vs++ts)++[AV.str x]=cF (vs++ts++iB (.str x))from eo (vs++ts) [x]];exact hK
end
section
theorem wpr_c {k v:Expr} {ks:List (Option Expr)} {vs:List Expr} {K:List (Str×AV)->Led->Prop} (h:WE Γ env k aa fun b o=>∃x,b= .str x∧WE Γ env v o fun a o1=>lY Γ (pairTrees ks vs env pos) o1 fun kvs o2=>K ((x,a)::kvs) o2):lY Γ (pairTrees (some k::ks) (v::vs) env pos) aa K:=by
 intro A s hA hR;refine pairTrees_cons_walk (W.go h hA hR fun kv s1 b o1 hb hR1 hz=> ?_);obtain⟨x,rfl,h1⟩:=hz;cases hb;refine W.go h1 hA hR1 fun vv s2 a o2 ha hR2 h2=> ?_;refine W.go h2 hA hR2 fun r s3 kvs o3 hk hR3 h3=> ?_;exact⟨_,o3,.cons ⟨⟨_,rfl⟩,ha⟩ hk,hR3,h3⟩
noncomputable def aD (k:Nat):Str:=⟨#[97+k]⟩
theorem eR (h:k<8):("abcdefgh":Str).cps[((k:Int)).toNat]? =some (97+k):=by
 rw[Es];have:∀k,k<8->("abcdefgh":Str).cps[k]? =some (97+k):=by decide+kernel
 exact this k h
noncomputable def az (T:Nat->Nat->Bool) (top i:Nat):List Nat:=(Et i).filter (T top)
noncomputable def dc (T:Nat->Nat->Bool) (n top o:Nat):Option Nat:=(az T top n).find? fun by'=>T by' o
noncomputable def bd (T:Nat->Nat->Bool) (n top one o:Nat):Bool:= !T top o&&(decide (o≠top)&&(dc T n top o==some one))
noncomputable def ax (T:Nat->Nat->Bool) (n top one i:Nat):List Nat:=(Et i).filter (bd T n top one)
theorem fL:az T top (i+1)=az T top i++(if T top i then [i]else []):=by
 unfold az;rw[FH,F_];cases h:T top i<;>simp[h]
theorem eu {one:Nat}:ax T n top one (i+1)=ax T n top one i++(if bd T n top one i then [i]else []):=by
 unfold ax;rw[FH,F_];cases h:bd T n top one i<;>simp[h]
theorem bJ:(az T top i).length ≤i:=by
 have:=Fv (T top) (Et i)
 rwa [EN]at this
theorem bb {one:Nat}:(ax T n top one i).length ≤i:=by
 have:=Fv (bd T n top one) (Et i)
 rwa [EN]at this
theorem iC (h:x∈az T top i):x<i:=EM.mp (Go.mp h).1
structure Ch where
 one:Nat
 e:El
 tp:Addr
 gs:List (Nat×El)
 kvs:List (Str×AV)
noncomputable abbrev jV (w:World) (q:Nat×El):Led:=bZ w.params q.2 [(q.2.at',bj w q.2.at' [("tail",.str "!"),("at",.int (q.1:Nat))])]
noncomputable abbrev aP (w:World) (c:Ch):Led:=(c.tp,bV [.int (c.one:Nat),.ref c.e.f])::bZ w.params c.e ((c.e.at',bj w c.e.at' c.kvs)::c.gs.flatMap (jV w))
noncomputable abbrev aA (w:World) (R:El) (chs:List Ch) (aa:Led):Led:=bZ w.params R ((R.at',bj w R.at' [("tail",.str ".")])::(chs.flatMap (aP w)++aa))
structure ChOk (c:Ch):Prop where
 tag:c.e.tag=aD c.one
 tail:c.e.tail= .none
 kids:c.e.kids=c.gs.map (·.2.f)
 gs:∀q∈c.gs,q.2.tag =aD q.1∧q.2.tail = .str "!"∧q.2.kids =[]
structure RootOk (top:Nat) (R:El) (chs:List Ch):Prop where
 tag:R.tag=aD top
 tail:R.tail= .str "."
 kids:R.kids=chs.map (·.e.f)
 ch:∀c∈chs,ChOk c
structure TreeOk (T:Nat->Nat->Bool) (n top:Nat) (R:El) (chs:List Ch):Prop where
 root:RootOk top R chs
 ones:chs.map (·.one)=az T top n
 kvs:∀c∈chs,c.kvs=([("at",.int (c.one:Nat))]:List (Str×AV))
 grp:∀c∈chs,c.gs.map (·.1)=ax T n top c.one n
theorem Less.move {X Y Z:Led}:Less (Y++(X++Z)) (X++(Y++Z)):=Less.perm (by
 rw[←EO,←EO];exact List.perm_append_comm.append_right Z)
theorem Upd.left {a:Addr} {P P':OP} {l l' G:Led} (h:Upd a P P' l l'):Upd a P P' (l++G) (l'++G):=by
 induction h with
 |head=>exact .head
 |tail _ ih=>exact .tail ih
theorem Upd.right {a:Addr} {P P':OP} {l l':Led} (h:Upd a P P' l l'):∀F:Led,Upd a P P' (F++l) (F++l')
 |[]=>h
 |_::F=> .tail (h.right F)
theorem d5 {c:Ch} (h:c∈chs) {q:Addr×OP} (hq:q∈aP w c):q∈chs.flatMap (aP w)++aa:=EY _ (GD.mpr ⟨c,h,hq⟩)
theorem BM {c:Ch} {q:Nat×El} (h:q∈c.gs) {x:Addr×OP} (hq:x∈jV w q):x∈aP w c:=by
 have:x∈c.gs.flatMap (jV w):=GD.mpr ⟨q,h,hq⟩;exact .tail _ (.tail _ (.tail _ (.tail _ (.tail _ (.tail _ (.tail _ (.tail _ (.tail _ this))))))))
theorem sY {a:Addr} {P P':OP} {pre post:List Ch} {c c':Ch} (h:Upd a P P' (aP w c) (aP w c')):
 Upd a P P' ((pre++c::post).flatMap (aP w)++aa) ((pre++c'::post).flatMap (aP w)++aa):=by
 rw[Fx,Fx,Fu,Fu];exact((h.left).right _).left
theorem n7 {F:Led} {R:El} {c:Ch}:Less (F++aA w R (chs++[c]) aa) (aP w c++(F++aA w R chs aa)):=by
 have h:=Less.move (X:=aP w c) (Y:=F++bZ w.params R ((R.at',bj w R.at' [("tail",.str ".")])::chs.flatMap (aP w))) (Z:=aa);rw[EO,EO]at h
 rw[show aA w R (chs++[c]) aa=bZ w.params R ((R.at',bj w R.at' [("tail",.str ".")])::chs.flatMap (aP w))++(aP w c++aa)from by
  show bZ w.params R (_::((chs++[c]).flatMap (aP w)++aa))=bZ w.params R (_::(chs.flatMap (aP w)++(aP w c++aa)));rw[Fx,Fu,GF,EV,EO]]
 exact h
theorem m7 {F:Led} {R:El} {pre post:List Ch} {c:Ch} {gs:List (Nat×El)} {q:Nat×El}:
 Less (F++aA w R (pre++{c with gs:=gs++[q]}::post) aa) (jV w q++(F++aA w R (pre++{c with gs:=gs}::post) aa)):=by
 have h:=Less.move (X:=jV w q) (Y:=F++bZ w.params R ((R.at',bj w R.at' [("tail",.str ".")])::(pre.flatMap (aP w)++aP w {c with gs:=gs}))) (Z:=post.flatMap (aP w)++aa);rw[EO,EO]at h
 have e:∀(X:Led) (gs':List (Nat×El)),gs'.flatMap (jV w)=gs.flatMap (jV w)++X->aA w R (pre++{c with gs:=gs'}::post) aa=
  bZ w.params R ((R.at',bj w R.at' [("tail",.str ".")])::(pre.flatMap (aP w)++aP w {c with gs:=gs}))++(X++(post.flatMap (aP w)++aa)):=fun X gs' hx=>by
  show bZ w.params R (_::((pre++{c with gs:=gs'}::post).flatMap (aP w)++aa))=bZ w.params R (_::((pre.flatMap (aP w)++aP w {c with gs:=gs})++(X++(post.flatMap (aP w)++aa))))
  have e2:aP w {c with gs:=gs'}=aP w {c with gs:=gs}++X:=by
   show(c.tp,_)::bZ w.params c.e ((c.e.at',_)::gs'.flatMap (jV w))=(c.tp,_)::bZ w.params c.e ((c.e.at',_)::(gs.flatMap (jV w)++X));rw[hx]
  rw[Fx,Fu,e2];simp only[EO]
 rw[e (jV w q) (gs++[q]) (by rw[Fx,Fu,GF,EV]),e [] gs (EV _).symm,Ff];exact h
end
section
theorem ek132:EnvOk (ah (ak p 132) f L cs):=⟨by kernel_rfl,by kernel_rfl⟩
theorem ka132:KdA (ah (ak p 132) f L cs) [("arcs",.cell),("top",.local),("plain",.local),("given",.local),("root",.local),("below",.local),("one",.local),("other",.cell),("element",.local),("over",.local),("_law_element",.globalImplicit),("range",.globalImplicit),("len",.globalImplicit),("SubElement",.globalImplicit)]:=⟨by kernel_rfl,by kernel_rfl⟩
theorem vF (p:Params):(ak p 132).body = .stmts (ay p 132):=rfl
theorem BN:(([("top",none),("plain",none),("given",none),("root",none),("below",none),("one",none),("element",none),("over",none)]:Loc).map (·.1)).Nodup :=by decide
theorem BO:∀p∈([("top",none),("plain",none),("given",none),("root",none),("below",none),("one",none),("element",none),("over",none)]:Loc),p.2=none:=bF rfl
theorem BP {a_arcs a_top a_plain a_given:AV} {K:List (Str×AV)->Led->Prop} (hT:TopG Γ) (h:K [("arcs",a_arcs),("top",a_top),("plain",a_plain),("given",a_given)] aa):WB Γ (ak Γ.w.params 132) [a_arcs,a_top,a_plain,a_given] [] aa K:=by
 exact WB.p4 hT (fun _ _ _ _=>by kernel_rfl) .nil h
theorem vG {a_arcs a_top a_plain a_given:AV} (hT:TopG Γ) (hk:0<Γ.k) (h:∀L c_other c_arcs,WS Γ.dn (ah (ak Γ.w.params 132) 132 L [("other",c_other),("arcs",c_arcs)]) (ay Γ.w.params 132) (cN c_other::(c_arcs,h_ (some a_arcs))::(L,ab [("top",some a_top),("plain",some a_plain),("given",some a_given),("root",none),("below",none),("one",none),("element",none),("over",none)])::aa) fun fl o2=>∃o3,Less o3 o2∧K fl.val o3):
 ai Γ (.ref 132) [a_arcs,a_top,a_plain,a_given] [] aa K:=by
 refine bA hk hT (fun s hR=>(wW _).hf hT s hR) (vF _) BN BO (BP hT.dn fun L cs hcs=> ?_) (by kernel_rfl) (by kernel_rfl);have hcs0:cs.map (·.1)=[("other":Str),("arcs":Str)]:=hcs.trans (by kernel_rfl);obtain⟨c_other,cs1,e1,hcs1⟩:=au hcs0;obtain⟨c_arcs,cs2,e2,hcs2⟩:=au hcs1;have e0:=af hcs2;clear hcs hcs0 hcs1 hcs2;subst e0;subst e2;subst e1;show WBinds _ (ah (ak Γ.w.params 132) 132 L [("other",c_other),("arcs",c_arcs)]) _ (cN c_other::cN c_arcs::(L,ab _)::aa) _;refine st_cell (ka132.at 0 (by kernel_rfl)) cf (by show"cel") (by show"upd") ?_;refine st_local (ka132.at 1 (by kernel_rfl)) lf (by show"upd") (by show"put") ?_;refine st_local (ka132.at 2 (by kernel_rfl)) lf (by show"upd") (by show"put") ?_;refine st_local (ka132.at 3 (by kernel_rfl)) lf (by show"upd") (by show"put") ?_;exact h L c_other c_arcs
noncomputable def zn (p:Params) (j k:Nat):Stmt:=(Nd.s ((ay p 132)[j]?.getD (.Pass default))).at (2+k)
noncomputable def hW (p:Params) (k:Nat):Stmt:=(ay p 132)[k]?.getD (.Pass default)
theorem zo (p:Params):ay p 132=[hW p 0,hW p 1,hW p 2,hW p 3,hW p 4]:=by kernel_rfl
section
variable {c_other A BL pd gd:Addr} {u:Option AV}
theorem C7 (hS:Std Γ) (hk:10<Γ.k) (ht:top<8):
 WX Γ (ah (ak Γ.w.params 132) 132 L [("other",c_other),("arcs",c_arcs)]) (hW Γ.w.params 0) (cO c_other u::cR c_arcs A::(L,ab [nI "top" (top:Nat),nR "plain" pd,nR "given" gd,("root",none),("below",none),("one",none),("element",none),("over",none)])::aa) fun f o=>f= .next ∧∃R BL,RootOk top R []∧Less (cO c_other u::cR c_arcs A::(L,ab [nI "top" (top:Nat),nR "plain" pd,nR "given" gd,nR "root" R.f,nR "below" BL,("one",none),("element",none),("over",none)])::lL BL []::aA Γ.w R [] aa) o:=by
 have hT:TopG Γ:=hS.T;refine dm (names:=["root","below"]) ?_ (by kernel_rfl) (by kernel_rfl);show"w132";refine jf (Er _) (by omega) (eR ht) ?_;refine a_cons ?_;refine iA hT fun at'=> ?_;show"w132";refine⟨(by show(["tail"]:List Str).Nodup;decide),_,.head,?_⟩;show"w132";refine⟨am (rj _) hT,?_⟩;refine BB hS (by omega) (.head _) fun R q1 q2 q3 q4=> ?_;subst q2;show"w132";refine⟨ac (Eo rfl),fun BL=> ?_⟩;show"w132";refine⟨ac (Eo rfl),fun t=> ?_⟩;refine⟨_,_,rfl,.head _,rfl,?_⟩;show"w132";show WBinds _ _ [("below",.ref BL),("root",.ref R.f)] ((t,_)::(BL,_)::bZ _ R ((R.at',_)::cO c_other u::cR c_arcs A::(L,ab [nI "top" (top:Nat),nR "plain" pd,nR "given" gd,("root",none),("below",none),("one",none),("element",none),("over",none)])::aa)) _;show"w132";refine⟨rfl,R,BL,⟨q1,q3,q4,fun _ h=>nomatch h⟩,?_⟩;show Less (cO c_other u::cR c_arcs A::(L,ab [nI "top" (top:Nat),nR "plain" pd,nR "given" gd,nR "root" R.f,nR "below" BL,("one",none),("element",none),("over",none)])::(BL,_)::bZ Γ.w.params R ((R.at',_)::aa)) _;show"less"
theorem BQ {R:El} {one:Nat} {x y z:Option AV} {hs:List AV} (hS:Std Γ) (hk:10<Γ.k) (hon:one<8) (hn:n≤8) (ht:top<n) (hone:one<n) (hA:Arcs aa A n T rs) (hpd:(pd,bj Γ.w pd [])∈aa) (hz:R.kids.length≤100) (hz2:hs.length≤100):
 WS Γ (ah (ak Γ.w.params 132) 132 L [("other",c_other),("arcs",c_arcs)]) [zn Γ.w.params 1 0] (cO c_other u::cR c_arcs A::(L,ab [nI "top" (top:Nat),nR "plain" pd,nR "given" gd,nR "root" R.f,nR "below" BL,nI "one" (one:Nat),("element",y),("over",z)])::lL BL hs::aA Γ.w R chs aa) fun f o=>f= .next ∧
  (if T top one then ∃c:Ch,c.one=one∧ChOk c∧c.gs=[]∧c.kvs=[]∧Less (cO c_other u::cR c_arcs A::(L,ab [nI "top" (top:Nat),nR "plain" pd,nR "given" gd,nR "root" R.f,nR "below" BL,nI "one" (one:Nat),("element",y),("over",z)])::lL BL (hs++[.ref c.tp])::aA Γ.w {R with kids:=R.kids++[c.e.f]} (chs++[c]) aa) o
   else Less (cO c_other u::cR c_arcs A::(L,ab [nI "top" (top:Nat),nR "plain" pd,nR "given" gd,nR "root" R.f,nR "below" BL,nI "one" (one:Nat),("element",y),("over",z)])::lL BL hs::aA Γ.w R chs aa) o):=by
 have hT:TopG Γ:=hS.T;obtain⟨ro,g1,g2⟩:=hA.at ht;have hAt:=hA.top;have hAt':lL A (rs.map AV.ref)∈chs.flatMap (aP Γ.w)++aa:=EC _ hAt;have g2':lL ro (bB (aO T) n top)∈chs.flatMap (aP Γ.w)++aa:=EC _ g2;have hpd':(pd,bj Γ.w pd [])∈chs.flatMap (aP Γ.w)++aa:=EC _ hpd;refine s_cons (x_If ?_);show"w132";refine ar (vs:=rs.map AV.ref) (by show"mem") (Er _) (by omega) (by rw[Es];exact g1) ?_;show"w132";refine ar (vs:=bB (aO T) n top) (by show"mem") (Er _) (by omega) (by rw[Es];exact bH hone) ?_;show"w132";cases hb:T top one with
 |false=>
  rw[show((aO T top one)!=0)=false from by simp[aO,b2,hb]];show"w132";exact⟨rfl,Less.refl⟩
 |true=>
  rw[show((aO T top one)!=0)=true from by simp[aO,b2,hb]];show"w132";refine cy PySem.slot_list_append PySem.type_list_append (vs:=hs) (by show"mem") ?_;refine a_cons ?_;refine w_Tuple ?_;refine a_cons ?_;show"n132";refine a_cons ?_;have hE:HasE Γ.w.params (cO c_other u::cR c_arcs A::(L,ab [nI "top" (top:Nat),nR "plain" pd,nR "given" gd,nR "root" R.f,nR "below" BL,nI "one" (one:Nat),("element",y),("over",z)])::lL BL hs::aA Γ.w R chs aa) R:=⟨by show"mem",by show"mem",by show"mem",by show"mem",by show"mem",by show"mem"⟩
  have hSub:l6 Γ (cO c_other u::cR c_arcs A::(L,ab [nI "top" (top:Nat),nR "plain" pd,nR "given" gd,nR "root" R.f,nR "below" BL,nI "one" (one:Nat),("element",y),("over",z)])::lL BL hs::aA Γ.w R chs aa) R (aD one) [] fun a o=>∃e2:El,a= .ref e2.f∧e2.tag=aD one∧e2.tail= .none ∧e2.kids=[]∧
   o=bZ Γ.w.params e2 ((e2.at',bj Γ.w e2.at' [])::cO c_other u::cR c_arcs A::(L,ab [nI "top" (top:Nat),nR "plain" pd,nR "given" gd,nR "root" R.f,nR "below" BL,nI "one" (one:Nat),("element",y),("over",z)])::lL BL hs::aA Γ.w {R with kids:=R.kids++[e2.f]} chs aa):=
   fun e2 q1 q2 q3=>⟨_,by show"upd",e2,rfl,q1,q2,q3,rfl⟩
  refine W.mono (K:=fun a o=>∃e2:El,a= .ref e2.f∧e2.tag=aD one∧e2.tail= .none ∧e2.kids=[]∧
   o=bZ Γ.w.params e2 ((e2.at',bj Γ.w e2.at' [])::cO c_other u::cR c_arcs A::(L,ab [nI "top" (top:Nat),nR "plain" pd,nR "given" gd,nR "root" R.f,nR "below" BL,nI "one" (one:Nat),("element",y),("over",z)])::lL BL hs::aA Γ.w {R with kids:=R.kids++[e2.f]} chs aa)) ?_ ?_
  ·refine w_IfExp ?_
   show"w132";refine gL (by decide) ?_;have h2:=jq (one:Int);generalize ((one:Nat):Int).fmod 2=j at*;rcases h2 with h|h<;>subst h
   ·refine tr_int ?_
    rw[show((0:Int)!=0)=false from rfl];show"w132";refine jf (Er _) (by omega) (eR hon) ?_;show"w132";refine⟨am (oI _) hT,?_⟩;exact ze hS (by omega) hE hz hSub
   ·refine tr_int ?_
    rw[show((1:Int)!=0)=true from rfl];show"w132";refine jf (Er _) (by omega) (eR hon) ?_;show"w132";refine⟨am (oI _) hT,?_⟩;exact zf (k0:=[]) hS (by omega) hE hz (by show"mem") (ET _) (ET _) hSub
  ·rintro _ _ ⟨e2,rfl,q1,q2,q3,rfl⟩
   show"w132";refine⟨ac (Eo rfl),fun tp=> ?_⟩;show"w132";refine cY (vs:=hs) (by show"upd") (ac (by omega)) ?_;show"w132";refine⟨rfl,⟨one,e2,tp,[],[]⟩,rfl,⟨q1,q2,q3,fun _ h=>nomatch h⟩,rfl,rfl,?_⟩;exact n7 (F:=cO c_other u::cR c_arcs A::(L,ab [nI "top" (top:Nat),nR "plain" pd,nR "given" gd,nR "root" R.f,nR "below" BL,nI "one" (one:Nat),("element",y),("over",z)])::[lL BL (hs++[.ref tp])]) (R:={R with kids:=R.kids++[e2.f]}) (chs:=chs) (c:=⟨one,e2,tp,[],[]⟩) (aa:=aa)
end
end
section
section
variable {c_other A BL pd gd:Addr} {u:Option AV}
noncomputable abbrev iV (chs:List Ch):List AV:=chs.map fun c=> .ref c.tp
theorem C8 {R0:El} (hS:Std Γ) (hk:10<Γ.k) (hn:n≤8) (ht:top<n) (hA:Arcs aa A n T rs) (hpd:(pd,bj Γ.w pd [])∈aa) (hR0:RootOk top R0 []):
 WX Γ (ah (ak Γ.w.params 132) 132 L [("other",c_other),("arcs",c_arcs)]) (hW Γ.w.params 1) (cO c_other u::cR c_arcs A::(L,ab [nI "top" (top:Nat),nR "plain" pd,nR "given" gd,nR "root" R0.f,nR "below" BL,("one",none),("element",none),("over",none)])::lL BL []::aA Γ.w R0 [] aa) fun f o=>f= .next ∧∃R chs x,RootOk top R chs∧chs.map (·.one)=az T top n∧(∀c∈chs,c.gs=[]∧c.kvs=[])∧
  Less (cO c_other u::cR c_arcs A::(L,ab [nI "top" (top:Nat),nR "plain" pd,nR "given" gd,nR "root" R.f,nR "below" BL,("one",x),("element",none),("over",none)])::lL BL (iV chs)::aA Γ.w R chs aa) o:=by
 have hT:TopG Γ:=hS.T;have hlen:=hA.len;have hAt':lL A (rs.map AV.ref)∈([]:List Ch).flatMap (aP Γ.w)++aa:=EC _ hA.top;refine dp ?_;show"w132@M60";refine eI (vs:=rs.map AV.ref) (by show"mem") (ac (by rw[En];omega)) ?_;show"w132@M60";refine bP fun r=> ?_;rw[En,hlen];refine⟨_,eD.less (bM (a:=0) (b:=n) (.head _) (by decide) (by omega) ⟨_,Less.skip Less.refl,fun i o=>∃R chs x,RootOk top R chs∧chs.map (·.one)=az T top i∧(∀c∈chs,c.gs=[]∧c.kvs=[])∧o=cO c_other u::cR c_arcs A::(L,ab [nI "top" (top:Nat),nR "plain" pd,nR "given" gd,nR "root" R.f,nR "below" BL,("one",x),("element",none),("over",none)])::lL BL (iV chs)::aA Γ.w R chs aa,⟨R0,[],none,hR0,rfl,(fun _ h=>nomatch h),rfl⟩,fun _ _ _=>trivial,?_,?_⟩)⟩
 ·rintro i J it o h' hit ⟨R,chs,x,hR,h1,h2,rfl⟩ hs
  obtain⟨hi,rfl⟩:=dw hit;rw[Fw]at hi;rw[E7];have hS2:Std (Γ.at h'):=hS.at hs
  have hcl:chs.length≤i:=by
   have e:=congrArg Fb h1;rw[En]at e;rw[e];exact bJ
  show WAsg _ _ _ _ _ _;show"a132@M60";refine W.mono (BQ (T:=T) (one:=i) (x:=none) (y:=none) (z:=none) (hs:=iV chs) hS2 (show 10<Γ.k by omega) (by omega) hn ht hi hA hpd (by rw[hR.kids,En];omega) (by rw[En];omega)) ?_;rintro f o ⟨rfl,h⟩;refine⟨rfl,?_⟩;cases hb:T top i with
  |false=>
   rw[hb]at h;exact⟨_,h,R,chs,_,hR,by rw[h1,fL,hb];simp,h2,rfl⟩
  |true=>
   rw[hb]at h;obtain⟨c,q1,q2,q3,q4,q5⟩:=h;refine⟨_,q5,{R with kids:=R.kids++[c.e.f]},chs++[c],some (.int (i:Nat)),⟨hR.tag,hR.tail,by rw[Ez,←hR.kids];rfl,?_⟩,by rw[Ez,h1,EQ,G4,q1,fL,hb];rfl,?_,by unfold iV;rw[Ez];rfl⟩
   ·intro d hd
    rcases E3.mp hd with hd|hd
    ·exact hR.ch d hd
    ·obtain rfl:=ED.mp hd;exact q2
   ·intro d hd
    rcases E3.mp hd with hd|hd
    ·exact h2 d hd
    ·obtain rfl:=ED.mp hd;exact⟨q3,q4⟩
 ·rintro o ⟨R,chs,x,h1,h2,h3,rfl⟩
  rw[show((gP 0 n).map Item.one).length =n from by rw[En];unfold gP;simp]at h2;exact⟨rfl,R,chs,x,h1,h2,h3,Less.refl⟩
end
end
section
noncomputable def jW (p:Params):Scope:=bS p 132 [2,2,0]
theorem zp (p:Params):(jW p).kind = .function :=by kernel_rfl
theorem zq (p:Params):∀x∈(jW p).names,x.2= .local ->(jW p).names.lookup x.1=some .local :=aJ (by kernel_rfl)
theorem ka132a {L132a:Addr} {c132a:List (Str×Addr)}:KdA (aM (jW p) (ah (ak p 132) f L cs) L132a c132a) [("one",.local),("element",.local),("arcs",.cell),("other",.cell)]:=⟨by kernel_rfl,by kernel_rfl⟩
section
variable {c_other A BL pd gd:Addr} {u:Option AV}
noncomputable abbrev eS (chs:List Ch):List AV:=chs.map fun c=> .ref c.e.f
noncomputable abbrev fm (T:Nat->Nat->Bool) (o:Nat) (chs:List Ch):List Ch:=chs.filter fun c=>T c.one o
theorem w8 (h:((iV chs).map Item.one)[b]? =some it):∃c,it= .one (.ref c.tp)∧chs[b]? =some c:=by
 rw[Eu,Ew]at h;obtain⟨a,ha,rfl⟩:=h;rw[Eu,Ew]at ha;obtain⟨x,hx,rfl⟩:=ha;exact⟨x,rfl,hx⟩
theorem lp {o:Nat} {c:Ch} (h:chs[k]? =some c):fm T o (chs.take (k+1))=fm T o (chs.take k)++(if T c.one o then [c]else []):=by
 rw[E5,h];unfold fm;rw[F_];cases hb:T c.one o<;>simp[hb]
theorem BR {R:El} {o:Nat} {x y z:Option AV} (hS:Std Γ) (hk:10<Γ.k) (hn:n≤8) (ho:o<n) (hA:Arcs aa A n T rs) (hlt:∀c∈chs,c.one<n) (hz:chs.length≤8):
 WX Γ (ah (ak Γ.w.params 132) 132 L [("other",c_other),("arcs",c_arcs)]) (zn Γ.w.params 2 0) (cI c_other (o:Nat)::cR c_arcs A::(L,ab [nI "top" (top:Nat),nR "plain" pd,nR "given" gd,nR "root" R.f,nR "below" BL,("one",x),("element",y),("over",z)])::lL BL (iV chs)::aA Γ.w R chs aa) fun f q=>f= .next ∧∃ov,Less (cI c_other (o:Nat)::cR c_arcs A::(L,ab [nI "top" (top:Nat),nR "plain" pd,nR "given" gd,nR "root" R.f,nR "below" BL,("one",x),("element",y),nR "over" ov])::lL ov (eS (fm T o chs))::lL BL (iV chs)::aA Γ.w R chs aa) q:=by
 have hT:TopG Γ:=hS.T;have hAt':lL A (rs.map AV.ref)∈chs.flatMap (aP Γ.w)++aa:=EC _ hA.top;refine bq (cl:=[("other",c_other),("arcs",c_arcs)]) (loc:=[("one",none),("element",none)]) (by kernel_rfl) (zp Γ.w.params) (zq Γ.w.params) (by decide) (by simp) ?_ (by kernel_rfl);unfold bC;show"w132@M61";refine⟨_,aW (vs:=iV chs) (by show"mem") ?_⟩;intro acc L2 cs2 hcs2;rw[af (cs:=cs2) hcs2];show aR _ _ 0 acc (aM (jW Γ.w.params) (ah (ak Γ.w.params 132) 132 L [("other",c_other),("arcs",c_arcs)]) L2 [("other",c_other),("arcs",c_arcs)]) _ _ _ ((L2,ab [("one",none),("element",none)])::lL acc []::cI c_other (o:Nat)::cR c_arcs A::(L,ab [nI "top" (top:Nat),nR "plain" pd,nR "given" gd,nR "root" R.f,nR "below" BL,("one",x),("element",y),("over",z)])::lL BL (iV chs)::aA Γ.w R chs aa) _;refine aB (fun k q=>∃x2 y2,q=(L2,ab [("one",x2),("element",y2)])::lL acc (eS (fm T o (chs.take k)))::cI c_other (o:Nat)::cR c_arcs A::(L,ab [nI "top" (top:Nat),nR "plain" pd,nR "given" gd,nR "root" R.f,nR "below" BL,("one",x),("element",y),("over",z)])::lL BL (iV chs)::aA Γ.w R chs aa) rfl rfl ⟨none,none,rfl⟩ ?_ ?_ ?_
 ·rintro k q ⟨x2,y2,rfl⟩;show"mem"
 ·rintro k J it q h' hit ⟨x2,y2,rfl⟩ hs
  have hT2:TopG (Γ.at h'):=hT.at hs;obtain⟨c,rfl,hc⟩:=w8 hit;have hcm:=EF hc;obtain⟨ro,g1,g2⟩:=hA.at (hlt c hcm);have g2':lL ro (bB (aO T) n c.one)∈chs.flatMap (aP Γ.w)++aa:=EC _ g2;have htp:(c.tp,bV [.int (c.one:Nat),.ref c.e.f])∈chs.flatMap (aP Γ.w)++aa:=d5 hcm (.head _);have hcn:=hlt c hcm;show WAsg _ _ _ _ _ _;refine aI (by show"mem") rfl ?_;show"w132a";refine ar (vs:=rs.map AV.ref) (by show"mem") (Er _) (by omega) (by rw[Es];exact g1) ?_;show"w132a";refine ar (vs:=bB (aO T) n c.one) (by show"mem") (Er _) (by omega) (by rw[Es];exact bH ho) ?_;show"w132a";have hcz:(fm T o (chs.take k)).length ≤8:=Ep (Fv ..) (by rw[EJ];omega);cases hb:T c.one o with
  |false=>
   rw[show((aO T c.one o)!=0)=false from by simp[aO,b2,hb]];show"w132a";exact⟨_,Less.refl,some (.int (c.one:Nat)),some (.ref c.e.f),by rw[lp hc,hb,if_neg E6,EV]⟩
  |true=>
   rw[show((aO T c.one o)!=0)=true from by simp[aO,b2,hb]];show"w132a";refine⟨_,_,_,by show"upd",ac (by rw[En];omega),Less.refl,some (.int (c.one:Nat)),some (.ref c.e.f),?_⟩;rw[lp hc,hb,if_pos rfl];unfold eS;rw[Ez];rfl
 ·rintro q ⟨x2,y2,rfl⟩
  rw[En,En,EW];refine⟨lL acc (eS (fm T o chs))::cI c_other (o:Nat)::cR c_arcs A::(L,ab [nI "top" (top:Nat),nR "plain" pd,nR "given" gd,nR "root" R.f,nR "below" BL,("one",x),("element",y),("over",z)])::lL BL (iV chs)::aA Γ.w R chs aa,[("one",x2),("element",y2)],Less.refl,?_⟩;show"w132@M61";refine⟨_,_,Less.refl,rfl,acc,?_⟩;show"less"
end
end
section
section
variable {c_other A BL pd gd ov:Addr} {u:Option AV}
noncomputable def n_ (c:Ch) (o:Nat) (g:El):Ch:={c with e:={c.e with kids:=c.e.kids++[g.f]},gs:=c.gs++[(o,g)]}
theorem og {a b:Addr} (ha:lL a vs∈aa) (hb:lL b []∈aa) (h:K (.bool (!vs.isEmpty)) aa):WCmp Γ .NotEq (.ref a) (.ref b) aa K:=by
 cases vs with
 |nil=>exact jy ha hb h
 |cons v vs=>exact sh ha hb (by simp) h
theorem l9 {c:Ch} (h:c∈chs):HasE w.params (chs.flatMap (aP w)++aa) c.e:=
 ⟨d5 h (.tail _ (.head _)),d5 h (.tail _ (.tail _ (.head _))),d5 h (.tail _ (.tail _ (.tail _ (.tail _ (.head _))))),d5 h (.tail _ (.tail _ (.tail _ (.tail _ (.tail _ (.head _)))))),d5 h (.tail _ (.tail _ (.tail _ (.tail _ (.tail _ (.tail _ (.head _))))))),d5 h (.tail _ (.tail _ (.tail _ (.tail _ (.tail _ (.tail _ (.tail _ (.head _))))))))⟩
theorem BS {R:El} {o:Nat} {x y:Option AV} (hS:Std Γ) (hk:10<Γ.k) (hn:n≤8) (ho:o<n) (ht:top<n) (hA:Arcs aa A n T rs) (hgd:(gd,bj Γ.w gd [("tail",.str "?")])∈aa) (hz:∀c∈chs,c.e.kids.length≤100):
 WS Γ (ah (ak Γ.w.params 132) 132 L [("other",c_other),("arcs",c_arcs)]) [zn Γ.w.params 2 1] (cI c_other (o:Nat)::cR c_arcs A::(L,ab [nI "top" (top:Nat),nR "plain" pd,nR "given" gd,nR "root" R.f,nR "below" BL,("one",x),("element",y),nR "over" ov])::lL ov (eS (fm T o chs))::lL BL (iV chs)::aA Γ.w R chs aa) fun f q=>f= .next ∧
  (if(decide (o≠top)&&(!T top o&& !(fm T o chs).isEmpty))=true then ∃pre c0 post g,chs=pre++c0::post∧(∀c∈pre,T c.one o=false)∧T c0.one o=true∧g.tag=aD o∧g.tail= .str "!"∧g.kids=[]∧
     Less (cI c_other (o:Nat)::cR c_arcs A::(L,ab [nI "top" (top:Nat),nR "plain" pd,nR "given" gd,nR "root" R.f,nR "below" BL,("one",x),("element",y),nR "over" ov])::lL ov (eS (fm T o chs))::lL BL (iV chs)::aA Γ.w R (pre++n_ c0 o g::post) aa) q
   else Less (cI c_other (o:Nat)::cR c_arcs A::(L,ab [nI "top" (top:Nat),nR "plain" pd,nR "given" gd,nR "root" R.f,nR "below" BL,("one",x),("element",y),nR "over" ov])::lL ov (eS (fm T o chs))::lL BL (iV chs)::aA Γ.w R chs aa) q):=by
 have hT:TopG Γ:=hS.T;obtain⟨ro,g1,g2⟩:=hA.at ht;have hAt':lL A (rs.map AV.ref)∈chs.flatMap (aP Γ.w)++aa:=EC _ hA.top;have g2':lL ro (bB (aO T) n top)∈chs.flatMap (aP Γ.w)++aa:=EC _ g2;have hgd':(gd,bj Γ.w gd [("tail",.str "?")])∈chs.flatMap (aP Γ.w)++aa:=EC _ hgd;refine s_cons (x_If ?_);refine t_BoolOp (t_And_cons ?_);show"w132@M62";by_cases e1:o=top
 ·rw[show((o:Int)!=(top:Int))=false from by rw[bne_eq_false_iff_eq];omega]
  show"w132@M62";refine⟨rfl,?_⟩;rw[decide_eq_false (by omega),Bool.false_and,if_neg E6];exact Less.refl
 rw[show((o:Int)!=(top:Int))=true from by rw[bne_iff_ne];omega];rw[decide_eq_true e1,Hw];show"w132@M62";refine ar (vs:=rs.map AV.ref) (by show"mem") (Er _) (by omega) (by rw[Es];exact g1) ?_;show"w132@M62";refine ar (vs:=bB (aO T) n top) (by show"mem") (Er _) (by omega) (by rw[Es];exact bH ho) ?_;show"w132@M62";cases hb:T top o with
 |true=>
  rw[show(!((aO T top o)!=0))=false from by simp[aO,b2,hb]];show"w132@M62";exact⟨rfl,Less.refl⟩
 |false=>
  rw[show(!((aO T top o)!=0))=true from by simp[aO,b2,hb]];show"w132@M62";refine⟨ac (Eo rfl),fun nl=> ?_⟩;refine og (vs:=eS (fm T o chs)) (by show"mem") (.head _) ?_;cases hh:fm T o chs with
  |nil=>
   rw[show(!(eS []).isEmpty)=false from rfl];show"w132@M62";refine⟨rfl,?_⟩;rw[Bool.not_false,Hw,if_neg (by simp)];show"less"
  |cons c0 more=>
   rw[show(!(eS (c0::more)).isEmpty)=true from rfl]
   obtain⟨pre,post,rfl,hp,hc0⟩:∃pre post,chs=pre++c0::post∧(∀c∈pre,T c.one o=false)∧T c0.one o=true:=by
    obtain⟨l1,l2,e,h1,h2⟩:=List.filter_eq_cons_iff.mp hh;exact⟨l1,l2,e,fun c hc=>by simpa using h1 c hc,h2.1⟩
   have hm:c0∈pre++c0::post:=EC _ (.head _);have hE:HasE Γ.w.params ((pre++c0::post).flatMap (aP Γ.w)++aa) c0.e:=l9 hm;show"w132@M62";refine ar (vs:=eS (c0::more)) (k:=0) (a:= .ref c0.e.f) (by show"mem") (by decide) (by decide) rfl ?_;show"w132@M62";refine jf (Er _) (by omega) (eR (by omega)) ?_;show"w132@M62";refine⟨am (oI _) hT,?_⟩;refine zg (k0:=[("tail",.str "?")]) hS (by omega) (hE.up fun q hq=>by show"mem") (hz c0 hm) (by show"mem") (Eo rfl) (Eo rfl) ?_;have hkv:a9 (a9 [] [("tail",AV.str "?")]) [("tail",AV.str "!"),("at",AV.int (o:Nat))]=([("tail",AV.str "!"),("at",AV.int (o:Nat))]:List (Str×AV)):=by kernel_rfl
   intro g q1 q2 q3
   have hu:Upd c0.e.li (bD (c0.e.kids.map AV.ref)) (bD ((c0.e.kids++[g.f]).map AV.ref)) ((pre++c0::post).flatMap (aP Γ.w)++aa) ((pre++{c0 with e:={c0.e with kids:=c0.e.kids++[g.f]}}::post).flatMap (aP Γ.w)++aa):=
    sY (c':={c0 with e:={c0.e with kids:=c0.e.kids++[g.f]}}) (.tail (.tail (.tail .head)))
   refine⟨_,by repeat (first|exact hu|apply Upd.tail),?_⟩;show"w132@M62";refine⟨rfl,?_⟩;rw[Bool.not_false,Hw,if_pos (by rfl)];refine⟨pre,c0,post,g,rfl,hp,hc0,q1,q2.trans (by rfl),q3,?_⟩;have h:=m7 (w:=Γ.w) (F:=lL nl []::cI c_other (o:Nat)::cR c_arcs A::(L,ab [nI "top" (top:Nat),nR "plain" pd,nR "given" gd,nR "root" R.f,nR "below" BL,("one",x),("element",y),nR "over" ov])::lL ov (eS (c0::more))::[lL BL (iV (pre++c0::post))]) (R:=R) (pre:=pre) (post:=post) (c:={c0 with e:={c0.e with kids:=c0.e.kids++[g.f]}}) (gs:=c0.gs) (q:=(o,g)) (aa:=aa);rw[hkv]at q2⊢;exact Less.trans (Less.skip Less.refl) h
end
end
section
section
variable {c_other A BL pd gd:Addr} {u:Option AV}
theorem mc:(az T top i).Nodup :=List.nodup_range.filter _
theorem oh {o:Nat} {pre post:List Ch} {c0:Ch} (h:(pre++c0::post).map (·.one)=az T top n) (hp:∀c∈pre,T c.one o=false) (hc:T c0.one o=true):dc T n top o=some c0.one:=by
 unfold dc;rw[←h,Ez,EQ,List.find?_append]
 have e:(pre.map (·.one)).find? (fun b=>T b o)=none:=by
  rw[Hx];intro x hx;obtain⟨c,hc,rfl⟩:=EP.mp hx;rw[hp c hc];exact E6
 rw[e,GP (by simpa using hc)];rfl
theorem oj {o:Nat} (h:chs.map (·.one)=az T top n) (hh:fm T o chs=[]):dc T n top o=none:=by
 unfold dc;rw[←h,Hx];intro x hx;obtain⟨c,hc,rfl⟩:=EP.mp hx;have:=List.filter_eq_nil_iff.mp hh c hc;simpa using this
theorem vH {o:Nat} {pre post:List Ch} {c0:Ch} {g:El} (h:(pre++c0::post).map (·.one)=az T top n) (hp:∀c∈pre,T c.one o=false) (hc:T c0.one o=true) (h1:o≠top) (h2:T top o=false) (hg:∀c∈pre++c0::post,c.gs.map (·.1)=ax T n top c.one o):∀c∈pre++n_ c0 o g::post,c.gs.map (·.1)=ax T n top c.one (o+1):=by
 have hf:=oh h hp hc;have hnd:((pre++c0::post).map (·.one)).Nodup :=by rw[h];exact mc
 rw[Ez,EQ,Gq,E2]at hnd;obtain⟨_,⟨n2,_⟩,n4⟩:=hnd
 have key:∀c∈pre++c0::post,c.one≠c0.one->c.gs.map (·.1)=ax T n top c.one (o+1):=fun c hc hne=>by
  rw[eu,hg c hc,show bd T n top c.one o=false from by
   unfold bd;rw[hf,show(some c0.one==some c.one)=false from by rw[beq_eq_false_iff_ne];exact fun e=>hne (Option.some.inj e).symm,HU,HU]]
  simp
 intro c hc;rcases E3.mp hc with hc|hc
 ·refine key c (EY _ hc) fun e=> ?_
  exact n4 c.one (EE hc) c0.one (.head _) e
 ·rcases EG.mp hc with rfl|hc
  ·show(c0.gs++[(o,g)]).map (·.1)=ax T n top c0.one (o+1)
   rw[eu,Ez,hg c0 (EC _ (.head _)),show bd T n top c0.one o=true from by
    unfold bd;rw[hf,h2,decide_eq_true h1];simp]
   rfl
  ·exact key c (EC _ (.tail _ hc)) fun e=>n2 (e▸EE hc)
theorem sZ {o:Nat} (h:chs.map (·.one)=az T top n) (hcnd:(decide (o≠top)&&(!T top o&& !(fm T o chs).isEmpty))=false) (hg:∀c∈chs,c.gs.map (·.1)=ax T n top c.one o):∀c∈chs,c.gs.map (·.1)=ax T n top c.one (o+1):=fun c hc=>by
 rw[eu,hg c hc,show bd T n top c.one o=false from by
  unfold bd;cases h1:T top o with
  |true=>rfl
  |false=>
   by_cases h2:o=top
   ·rw[decide_eq_false (by omega)];simp
   ·rw[h1,decide_eq_true h2]at hcnd
    have h3:fm T o chs=[]:=by simpa using hcnd
    rw[oj h h3];simp]
 simp
theorem vI {c:Ch} {o:Nat} {g:El} (h:ChOk c) (h1:g.tag=aD o) (h2:g.tail= .str "!") (h3:g.kids=[]):ChOk (n_ c o g):=
 ⟨h.tag,h.tail,by show c.e.kids++[g.f]=(c.gs++[(o,g)]).map (·.2.f);rw[Ez,←h.kids];rfl,fun q hq=>by
   rcases E3.mp (show q∈c.gs++[(o,g)]from hq)with hq|hq
   ·exact h.gs q hq
   ·obtain rfl:=ED.mp hq;exact⟨h1,h2,h3⟩⟩
theorem C9 {R:El} {chs0:List Ch} {x:Option AV} (hS:Std Γ) (hk:10<Γ.k) (hn:n≤8) (ht:top<n) (hA:Arcs aa A n T rs) (hgd:(gd,bj Γ.w gd [("tail",.str "?")])∈aa) (hR:RootOk top R chs0) (h1:chs0.map (·.one)=az T top n) (h2:∀c∈chs0,c.gs=[]∧c.kvs=[]):
 WX Γ (ah (ak Γ.w.params 132) 132 L [("other",c_other),("arcs",c_arcs)]) (hW Γ.w.params 2) (cO c_other u::cR c_arcs A::(L,ab [nI "top" (top:Nat),nR "plain" pd,nR "given" gd,nR "root" R.f,nR "below" BL,("one",x),("element",none),("over",none)])::lL BL (iV chs0)::aA Γ.w R chs0 aa) fun f q=>f= .next ∧∃chs u2 z,RootOk top R chs∧chs.map (·.one)=az T top n∧(∀c∈chs,c.gs.map (·.1)=ax T n top c.one n∧c.kvs=[])∧
  Less (cO c_other u2::cR c_arcs A::(L,ab [nI "top" (top:Nat),nR "plain" pd,nR "given" gd,nR "root" R.f,nR "below" BL,("one",x),("element",none),("over",z)])::lL BL (iV chs)::aA Γ.w R chs aa) q:=by
 have hT:TopG Γ:=hS.T;have hlen:=hA.len;have hAt':lL A (rs.map AV.ref)∈chs0.flatMap (aP Γ.w)++aa:=EC _ hA.top;refine dp ?_;show"w132@M63";refine eI (vs:=rs.map AV.ref) (by show"mem") (ac (by rw[En];omega)) ?_;show"w132@M63";refine bP fun r=> ?_;rw[En,hlen]
 refine⟨_,eD.less (bM (a:=0) (b:=n) (.head _) (by decide) (by omega) ⟨_,Less.skip Less.refl,fun i q=>∃chs u2 z,RootOk top R chs∧chs.map (·.one)=az T top n∧(∀c∈chs,c.gs.map (·.1)=ax T n top c.one i∧c.kvs=[])∧q=cO c_other u2::cR c_arcs A::(L,ab [nI "top" (top:Nat),nR "plain" pd,nR "given" gd,nR "root" R.f,nR "below" BL,("one",x),("element",none),("over",z)])::lL BL (iV chs)::aA Γ.w R chs aa,
  ⟨chs0,u,none,hR,h1,fun c hc=>⟨by rw[(h2 c hc).1];rfl,(h2 c hc).2⟩,rfl⟩,fun _ _ _=>trivial,?_,?_⟩)⟩
 ·rintro i J it q h' hit ⟨chs,u2,z,hR,h1,h2,rfl⟩ hs
  obtain⟨hi,rfl⟩:=dw hit;rw[Fw]at hi;rw[E7];have hS2:Std (Γ.at h'):=hS.at hs
  have hcl:chs.length≤n:=by
   have e:=congrArg Fb h1;rw[En]at e;rw[e];exact bJ
  have hgl:∀c∈chs,c.e.kids.length≤100:=fun c hc=>by
   have e:=congrArg Fb (h2 c hc).1;rw[En]at e;have:=bb (T:=T) (n:=n) (top:=top) (one:=c.one) (i:=i);rw[(hR.ch c hc).kids,En];omega
  have hlt:∀c∈chs,c.one<n:=fun c hc=>iC (T:=T) (top:=top) (h1▸EE hc);show WAsg _ _ _ _ _ _;show"a132@M63";refine bv (fun q=>∃ov,Less (cI c_other (i:Nat)::cR c_arcs A::(L,ab [nI "top" (top:Nat),nR "plain" pd,nR "given" gd,nR "root" R.f,nR "below" BL,("one",x),("element",none),nR "over" ov])::lL ov (eS (fm T i chs))::lL BL (iV chs)::aA Γ.w R chs aa) q) (BR (T:=T) hS2 (show 10<Γ.k by omega) hn hi hA hlt (by omega)) ?_;rintro q ⟨ov,ho⟩;refine W.sub ho ?_;clear ho;refine W.mono (BS (T:=T) (top:=top) hS2 (show 10<Γ.k by omega) hn hi ht hA hgd hgl) ?_;rintro f q ⟨rfl,h⟩;refine⟨rfl,?_⟩;cases hcnd:(decide (i≠top)&&(!T top i&& !(fm T i chs).isEmpty))with
  |false=>
   rw[hcnd]at h;have hg:=sZ h1 hcnd fun c hc=>(h2 c hc).1;exact⟨_,Less.trans (by show"less") h,chs,some (.int (i:Nat)),some (.ref ov),hR,h1,fun c hc=>⟨hg c hc,(h2 c hc).2⟩,rfl⟩
  |true=>
   rw[hcnd,if_pos rfl]at h;obtain⟨pre,c0,post,g,rfl,hp,hc0,q1,q2,q3,h⟩:=h;rw[GS,decide_eq_true_eq,GS,HH]at hcnd;have hg:=vH (g:=g) h1 hp hc0 hcnd.1 hcnd.2.1 fun c hc=>(h2 c hc).1;have htp:iV (pre++c0::post)=iV (pre++n_ c0 i g::post):=by unfold iV;rw[Ez,Ez];rfl
   rw[htp]at h
   have hm:∀c∈pre++n_ c0 i g::post,c=n_ c0 i g∨c∈pre++c0::post:=fun c hc=>by
    rcases E3.mp hc with hc|hc
    ·exact .inr (EY _ hc)
    ·rcases EG.mp hc with rfl|hc
     ·exact .inl rfl
     ·exact .inr (EC _ (.tail _ hc))
   have hc0m:c0∈pre++c0::post:=EC _ (.head _);refine⟨_,Less.trans (by show"less") h,pre++n_ c0 i g::post,some (.int (i:Nat)),some (.ref ov),⟨hR.tag,hR.tail,?_,?_⟩,?_,?_,rfl⟩
   ·rw[hR.kids,Ez,Ez];rfl
   ·intro c hc
    rcases hm c hc with rfl|hc
    ·exact vI (hR.ch c0 hc0m) q1 q2 q3
    ·exact hR.ch c hc
   ·rw[←h1,Ez,Ez];rfl
   ·intro c hc
    refine⟨hg c hc,?_⟩;rcases hm c hc with rfl|hc
    ·exact(h2 c0 hc0m).2
    ·exact(h2 c hc).2
 ·rintro q ⟨chs,u2,z,h1,h2,h3,rfl⟩
  rw[show((gP 0 n).map Item.one).length =n from by rw[En];unfold gP;simp]at h3;exact⟨rfl,chs,u2,z,h1,h2,h3,Less.refl⟩
end
end
section
section
variable {c_other A BL pd gd:Addr} {u:Option AV}
noncomputable def fM (c:Ch):Ch:={c with kvs:=([("at",.int (c.one:Nat))]:List (Str×AV))}
theorem C_ {R:El} {x2 z u2:Option AV} (hk:10<Γ.k) (hz:chs.length≤8) (h2:∀c∈chs,c.kvs=[]):
 WX Γ (ah (ak Γ.w.params 132) 132 L [("other",c_other),("arcs",c_arcs)]) (hW Γ.w.params 3) (cO c_other u2::cR c_arcs A::(L,ab [nI "top" (top:Nat),nR "plain" pd,nR "given" gd,nR "root" R.f,nR "below" BL,("one",x2),("element",none),("over",z)])::lL BL (iV chs)::aA Γ.w R chs aa) fun f q=>f= .next ∧∃x2 y2,Less (cO c_other u2::cR c_arcs A::(L,ab [nI "top" (top:Nat),nR "plain" pd,nR "given" gd,nR "root" R.f,nR "below" BL,("one",x2),("element",y2),("over",z)])::lL BL (iV chs)::aA Γ.w R (chs.map fM) aa) q:=by
 refine dp ?_;show"w132@M64";refine⟨_,aW (vs:=iV chs) (by show"mem") ⟨fun k q=>∃x2 y2,q=cO c_other u2::cR c_arcs A::(L,ab [nI "top" (top:Nat),nR "plain" pd,nR "given" gd,nR "root" R.f,nR "below" BL,("one",x2),("element",y2),("over",z)])::lL BL (iV chs)::aA Γ.w R ((chs.take k).map fM++chs.drop k) aa,⟨x2,none,rfl⟩,?_,?_,?_⟩⟩
 ·rintro k q ⟨x2,y2,rfl⟩;show"mem"
 ·rintro k J it q h' hit ⟨x2,y2,rfl⟩ hs
  obtain⟨c,rfl,hc⟩:=w8 hit;have hkl:k<chs.length:=(EB.mp hc).1
  have hdrop:chs.drop k=c::chs.drop (k+1):=by
   rw[Fz hkl]
   congr 1
   exact Option.some.inj ((Ex hkl).symm.trans hc)
  rw[hdrop];have hcm:c∈(chs.take k).map fM++c::chs.drop (k+1):=EC _ (.head _);have hE:HasE Γ.w.params (((chs.take k).map fM++c::chs.drop (k+1)).flatMap (aP Γ.w)++aa) c.e:=l9 hcm;have htp:(c.tp,bV [.int (c.one:Nat),.ref c.e.f])∈((chs.take k).map fM++c::chs.drop (k+1)).flatMap (aP Γ.w)++aa:=d5 hcm (.head _)
  have hu:Upd c.e.at' (bj Γ.w c.e.at' c.kvs) (bj Γ.w c.e.at' [("at",.int (c.one:Nat))]) (((chs.take k).map fM++c::chs.drop (k+1)).flatMap (aP Γ.w)++aa) (((chs.take k).map fM++fM c::chs.drop (k+1)).flatMap (aP Γ.w)++aa):=
   sY (c':=fM c) (.tail (.tail (.tail (.tail (.tail (.tail (.tail (.tail .head))))))))
  rw[h2 c (EF hc)]at hu;show WAsg _ _ _ _ _ _;refine aI (by show"mem") rfl ?_;show"a132@M64";refine s_cons (dK ?_);show"w132@M64";refine hV (Γ:=Γ.at h') (hE.up fun q hq=>by show"mem") ?_;show"w132@M64";refine sP (Γ:=Γ.at h') (kvs:=[]) (k:="at") (ET _) (by repeat (first|exact hu|apply Upd.tail)) ?_;show"w132@M64";refine⟨rfl,_,Less.refl,some (.int (c.one:Nat)),some (.ref c.e.f),?_⟩;rw[E5,hc,Ez];simp
 ·rintro q ⟨x2,y2,rfl⟩
  rw[En,En,EW,I0,EV];exact⟨rfl,x2,y2,Less.refl⟩
theorem Da (hS0:Std Γ) (hk:12<Γ.k) (hn:n≤8) (ht:top<n) (hA:Arcs aa A n T rs) (hpd:(pd,bj Γ.w pd [])∈aa) (hgd:(gd,bj Γ.w gd [("tail",.str "?")])∈aa) (hK:∀R chs,TreeOk T n top R chs->K (.ref R.f) (aA Γ.w R chs aa)):ai Γ (.ref 132) [.ref A,.int (top:Nat),.ref pd,.ref gd] [] aa K:=by
 refine vG hS0.T (by omega) fun L c_other c_arcs=> ?_;have hS:Std Γ.dn:=hS0.dn;have hk1:10<Γ.dn.k:=show 10<Γ.k-1 by omega
 rw[show ay Γ.w.params 132=[hW Γ.w.params 0,hW Γ.w.params 1,hW Γ.w.params 2,hW Γ.w.params 3,hW Γ.w.params 4]from zo _];refine bv _ (C7 (top:=top) hS hk1 (by omega)) ?_;rintro o ⟨R0,BL,q1,ho⟩;refine W.sub ho ?_;refine bv _ (C8 (T:=T) (u:=none) hS hk1 hn ht hA hpd q1) ?_;rintro o ⟨R,chs0,x,q2,q3,q4,ho⟩;refine W.sub ho ?_;refine bv _ (C9 (T:=T) (u:=none) (x:=x) hS hk1 hn ht hA hgd q2 q3 q4) ?_;rintro o ⟨chs,u2,z,q5,q6,q7,ho⟩;refine W.sub ho ?_
 have hcl:chs.length≤n:=by
  have e:=congrArg Fb q6;rw[En]at e;rw[e];exact bJ
 refine bv _ (C_ hk1 (by omega) fun c hc=>(q7 c hc).2) ?_;rintro o ⟨x2,y2,ho⟩;refine W.sub ho ?_;refine s_cons ?_;refine x_Return ?_;show"w132@M64";refine⟨aA Γ.w R (chs.map fM) aa,Less.skip (Less.skip (Less.skip (Less.skip Less.refl))),?_⟩;refine hK R (chs.map fM) ⟨⟨q5.tag,q5.tail,?_,?_⟩,?_,?_,?_⟩
 ·rw[q5.kids,FC];rfl
 ·intro c hc
  obtain⟨c',hc',rfl⟩:=EP.mp hc;exact⟨(q5.ch c' hc').tag,(q5.ch c' hc').tail,(q5.ch c' hc').kids,(q5.ch c' hc').gs⟩
 ·rw[←q6,FC];rfl
 ·intro c hc
  obtain⟨c',hc',rfl⟩:=EP.mp hc;rfl
 ·intro c hc
  obtain⟨c',hc',rfl⟩:=EP.mp hc;exact(q7 c' hc').1
end
end
section
noncomputable def jX (p:Params):Scope:=bS p 144 [18,0]
theorem zr (p:Params):(jX p).kind = .function :=by kernel_rfl
theorem zs (p:Params):∀x∈(jX p).names,x.2= .local ->(jX p).names.lookup x.1=some .local :=aJ (by kernel_rfl)
theorem ka144o {L144o:Addr} {c144o:List (Str×Addr)}:KdA (aM (jX p) (E4 p L C) L144o c144o) [("one",.local),("arcs",.cell),("top",.cell)]:=⟨by kernel_rfl,by kernel_rfl⟩
section
variable {RL:Loc}
theorem vJ {ra:Addr} {rk:List Nat} (hT:TopG Γ) (hra:lL ra (ae rk)∈aa) (hlen:rk.length≤8) (hx:rk[rk.length-1]? =some x):
 WX Γ (E4 Γ.w.params L C) (aY Γ.w.params 17) (cO C.top u_top::cR C.ranked ra::(L,ab (("plain",u_plain)::("given",u_given)::RL))::aa) fun f o=>f= .next ∧∃pd gd,Less (cI C.top (x:Nat)::cR C.ranked ra::(L,ab (nR "plain" pd::nR "given" gd::RL))::(gd,bj Γ.w gd [("tail",.str "?")])::(pd,bj Γ.w pd [])::aa) o:=by
 refine W.hide fun q0 hq0=> ?_;have h0:0<rk.length:=by have:=(EB.mp hx).1;omega
 refine bO ?_;show"w144@M65";refine my (vs:=ae rk) (a:= .int (x:Nat)) (by show"mem") (by decide) (by rw[aj];omega) (by decide) ?_ ?_
 ·rw[aj,show((-1:Int)+(rk.length:Int)).toNat =rk.length-1 from by omega];exact cm hx
 refine a_cons ?_;refine pg hT fun pd=> ?_;refine a_cons ?_;refine iA hT fun gd=> ?_;show"w144@M65";refine⟨(by show(["tail"]:List Str).Nodup;decide),_,.head,?_⟩;show"w144@M65";refine⟨ac (Eo rfl),fun t=> ?_⟩;refine aI (.head _) rfl ?_;show"w144@M65";subst hq0;refine⟨rfl,pd,gd,?_⟩;show Less (cI C.top (x:Nat)::cR C.ranked ra::(L,ab (nR "plain" pd::nR "given" gd::RL))::(gd,bj Γ.w gd [("tail",.str "?")])::(pd,bj Γ.w pd [])::aa) _;show"less"
theorem vK {A:Addr} (hT:TopG Γ) (hn:n≤8) (hA:Arcs aa A n T rs) (ht:top<n):
 WX Γ (E4 Γ.w.params L C) (aY Γ.w.params 18) (cI C.top (top:Nat)::cO C.below u_below::cI C.count n::cR C.arcs A::(L,ab (RL))::aa) fun f o=>f= .next ∧∃bl,Less (cI C.top (top:Nat)::cR C.below bl::cI C.count n::cR C.arcs A::(L,ab (RL))::lL bl (ae (az T top n))::aa) o:=by
 refine W.hide fun q0 hq0=> ?_;have hAt:=hA.top;refine x_Assign_Name ?_;refine aL (cl:=[("top",C.top),("arcs",C.arcs)]) (loc:=[("one",none)]) (by kernel_rfl) (zr Γ.w.params) (zs Γ.w.params) (by decide) (by simp) ?_;unfold bC;show"w144@M65";refine bP fun rg=> ?_;refine⟨_,eD.less (bM (a:=0) (b:=n) (.head _) (by decide) (by omega) ⟨cI C.top (top:Nat)::cO C.below u_below::cI C.count n::cR C.arcs A::(L,ab (RL))::aa,Less.skip Less.refl,?_⟩)⟩;intro acc L2 cs2 hcs2;rw[af (cs:=cs2) hcs2];show aR _ _ 0 acc (aM (jX Γ.w.params) (E4 Γ.w.params L C) L2 [("top",C.top),("arcs",C.arcs)]) _ _ _ ((L2,ab [("one",none)])::lL acc []::cI C.top (top:Nat)::cO C.below u_below::cI C.count n::cR C.arcs A::(L,ab (RL))::aa) _;refine aB (fun i o=>∃x,o=(L2,ab [("one",x)])::lL acc (ae (az T top i))::cI C.top (top:Nat)::cO C.below u_below::cI C.count n::cR C.arcs A::(L,ab (RL))::aa) rfl rfl ⟨none,rfl⟩ (fun _ _ _=>trivial) ?_ ?_
 ·rintro i J it o h' hit ⟨x,rfl⟩ hs
  obtain⟨hi,rfl⟩:=dw hit;rw[Fw]at hi;rw[E7];obtain⟨ro,g1,g2⟩:=hA.at ht;show WAsg _ _ _ _ _ _;show"w144o";refine ar (vs:=rs.map AV.ref) (by show"mem") (Er _) (by omega) (by rw[Es];exact g1) ?_;show"w144o";refine ar (vs:=bB (aO T) n top) (by show"mem") (Er _) (by omega) (by rw[Es];exact bH hi) ?_;show"w144o";dsimp only[J];rw[fL];have hbl:=bJ (T:=T) (top:=top) (i:=i);cases hb:T top i with
  |true=>
   rw[show((aO T top i)!=0)=true from by simp[aO,b2,hb]];show"w144o";refine⟨_,_,_,.tail .head,ac (by rw[aj];omega),Less.refl,some (.int (i:Nat)),?_⟩;rw[dQ];rfl
  |false=>
   rw[show((aO T top i)!=0)=false from by simp[aO,b2,hb]];show"w144o";exact⟨_,Less.refl,some (.int (i:Nat)),by rw[if_neg E6,EV]⟩
 ·rintro o ⟨x,rfl⟩
  rw[En,aG,Fw];refine⟨lL acc (ae (az T top n))::cI C.top (top:Nat)::cO C.below u_below::cI C.count n::cR C.arcs A::(L,ab (RL))::aa,[("one",x)],Less.refl,?_⟩;show"w144@M65";subst hq0;exact⟨rfl,acc,by show"less"⟩
end
end
section
noncomputable def eF (p:Params):Scope:=bS p 144 [19,0]
theorem zt (p:Params):(eF p).kind = .function :=by kernel_rfl
theorem zu (p:Params):∀x∈(eF p).names,x.2= .local ->(eF p).names.lookup x.1=some .local :=aJ (by kernel_rfl)
theorem ek144r {L144r:Addr} {c144r:List (Str×Addr)}:EnvOk (aM (eF p) (E4 p L C) L144r c144r):=⟨by kernel_rfl,by kernel_rfl⟩
theorem ka144r {L144r:Addr} {c144r:List (Str×Addr)}:KdA (aM (eF p) (E4 p L C) L144r c144r) [("one",.cell),("range",.globalImplicit),("arcs",.cell),("below",.cell),("count",.cell),("top",.cell)]:=⟨by kernel_rfl,by kernel_rfl⟩
noncomputable def gF (p:Params):Scope:=bS p 144 [19,0,0,1]
theorem zv (p:Params):(gF p).kind = .function :=by kernel_rfl
theorem zw (p:Params):∀x∈(gF p).names,x.2= .local ->(gF p).names.lookup x.1=some .local :=aJ (by kernel_rfl)
theorem ka144s {L1:Addr} {c1:List (Str×Addr)} {L144s:Addr} {c144s:List (Str×Addr)}:KdA (aM (gF p) (aM (eF p) (E4 p L C) L1 c1) L144s c144s) [("other",.cell),("arcs",.cell),("below",.cell),("one",.cell),("top",.cell)]:=⟨by kernel_rfl,by kernel_rfl⟩
noncomputable def jY (p:Params):Scope:=bS p 144 [19,0,0,1,3,2,0,0]
theorem zx (p:Params):(jY p).kind = .function :=by kernel_rfl
theorem zy (p:Params):∀x∈(jY p).names,x.2= .local ->(jY p).names.lookup x.1=some .local :=aJ (by kernel_rfl)
theorem ka144t {L1 L2:Addr} {c1 c2:List (Str×Addr)} {L144t:Addr} {c144t:List (Str×Addr)}:KdA (aM (jY p) (aM (gF p) (aM (eF p) (E4 p L C) L1 c1) L2 c2) L144t c144t) [("by",.local),("arcs",.cell),("other",.cell)]:=⟨by kernel_rfl,by kernel_rfl⟩
noncomputable abbrev cG (T:Nat->Nat->Bool) (n top:Nat) (gs:List (Addr×Nat)):Led:=gs.map fun q=>lL q.1 (ae (q.2::ax T n top q.2 n))
theorem om {o one:Nat}:decide ((ci (((az T top n).filter fun b=>T b o).take 1))=[(one:Int)])=(dc T n top o==some one):=by
 unfold dc;rw[←List.head?_filter];cases (az T top n).filter fun b=>T b o with
 |nil=>rfl
 |cons a r=>
  show decide ([(a:Int)]=[(one:Int)])=(some a==some one);by_cases h:a=one
  ·subst h;simp
  ·rw[decide_eq_false (fun e=>h (by have:=List.cons.inj e;omega))]
   exact(beq_eq_false_iff_ne.mpr fun e=>h (Option.some.inj e)).symm
theorem oo {F:Led} {q:Addr×Nat}:
 Less (F++(cG T n top (gs++[q])++aa)) (lL q.1 (ae (q.2::ax T n top q.2 n))::(F++(cG T n top gs++aa))):=by
 have h:=Less.move (X:=[lL q.1 (ae (q.2::ax T n top q.2 n))]) (Y:=F++cG T n top gs) (Z:=aa);unfold cG at h⊢;rw[Ez,EQ,G4];simpa using h
theorem qz {o:Nat} {l:List Nat} {by':Nat} (h:l[k]? =some by'):((l.take (k+1)).filter fun b=>T b o)=((l.take k).filter fun b=>T b o)++(if T by' o then [by']else []):=by
 rw[E5,h,F_];cases hb:T by' o<;>simp[hb]
section
variable {RL:Loc}
theorem vL {A bl:Addr} (hT:TopG Γ) (hn:n≤8) (hA:Arcs aa A n T rs) (ht:top<n) (hbl:lL bl (ae (az T top n))∈aa):
 WX Γ (E4 Γ.w.params L C) (aY Γ.w.params 19) (cI C.top (top:Nat)::cR C.below bl::cI C.count n::cR C.arcs A::(L,ab (("groups",u_groups)::RL))::aa) fun f o=>f= .next ∧∃gr gs,gs.map (·.2)=az T top n∧Less (cI C.top (top:Nat)::cR C.below bl::cI C.count n::cR C.arcs A::(L,ab (nR "groups" gr::RL))::lL gr (gs.map fun q=>AV.ref q.1)::(cG T n top gs++aa)) o:=by
 refine W.hide fun q0 hq0=> ?_;have hblen:=bJ (T:=T) (top:=top) (i:=n);refine bq (cl:=[("top",C.top),("count",C.count),("below",C.below),("arcs",C.arcs)]) (loc:=[]) (by kernel_rfl) (zt Γ.w.params) (zu Γ.w.params) (by decide) (by simp) ?_ (by kernel_rfl);unfold bC;show"w144@M66";refine⟨_,aW (vs:=ae (az T top n)) (by show"mem") ?_⟩;intro acc L2 cs2 hcs2;have hcs3:cs2.map (·.1)=[("one":Str)]:=hcs2.trans (by kernel_rfl);obtain⟨ck,cs4,e4,hcs4⟩:=au hcs3;have e5:=af hcs4;clear hcs2 hcs3 hcs4;subst e5;subst e4;show aR _ _ 0 acc (aM (eF Γ.w.params) (E4 Γ.w.params L C) L2 (("one",ck)::[("top",C.top),("count",C.count),("below",C.below),("arcs",C.arcs)])) _ _ _ (cN ck::(L2,ab [])::lL acc []::cI C.top (top:Nat)::cR C.below bl::cI C.count n::cR C.arcs A::(L,ab (("groups",u_groups)::RL))::aa) _;refine aB (fun i o=>∃x gs,gs.map (·.2)=(az T top n).take i∧o=cO ck x::(L2,ab [])::lL acc (gs.map fun q=>AV.ref q.1)::cI C.top (top:Nat)::cR C.below bl::cI C.count n::cR C.arcs A::(L,ab (("groups",u_groups)::RL))::(cG T n top gs++aa)) rfl rfl ⟨none,[],rfl,rfl⟩ ?_ ?_ ?_
 ·rintro i o ⟨x,gs,_,rfl⟩
  have hbl':lL bl (ae (az T top n))∈cG T n top gs++aa:=EC _ hbl;show"mem"
 ·rintro i J it o h' hit ⟨x,gs,hgs,rfl⟩ hs
  have hT2:TopG (Γ.at h'):=hT.at hs;obtain⟨one,rfl,hone⟩:=eh hit;have hi:=(EB.mp hone).1;have hgl:gs.length=i:=by have e:=congrArg Fb hgs;rw[En,EJ]at e;omega
  have hbl':lL bl (ae (az T top n))∈cG T n top gs++aa:=EC _ hbl;have hAt':lL A (rs.map AV.ref)∈cG T n top gs++aa:=EC _ hA.top
  have hrow:∀x,x<n->∃ro,(rs.map AV.ref)[x]? =some (.ref ro)∧lL ro (bB (aO T) n x)∈cG T n top gs++aa:=fun x hx=>by
   obtain⟨ro,g1,g2⟩:=hA.at hx;exact⟨ro,g1,EC _ g2⟩
  obtain⟨ro,g1,g2⟩:=hrow top ht;show WAsg _ _ _ _ _ _;show"w144r";refine⟨ac (Eo rfl),fun t=> ?_⟩;refine aL (cl:=[("top",C.top),("one",ck),("below",C.below),("arcs",C.arcs)]) (loc:=[]) (by kernel_rfl) (zv Γ.w.params) (zw Γ.w.params) (by decide) (by simp) ?_;unfold bC;show"w144r";refine bP fun rg=> ?_;refine⟨_,eD.less (bM (a:=0) (b:=n) (.head _) (by decide) (by omega) ⟨lL t [.int (one:Nat)]::cI ck (one:Nat)::(L2,ab [])::lL acc (gs.map fun q=>AV.ref q.1)::cI C.top (top:Nat)::cR C.below bl::cI C.count n::cR C.arcs A::(L,ab (("groups",u_groups)::RL))::(cG T n top gs++aa),Less.skip Less.refl,?_⟩)⟩;intro acc3 L3 cs5 hcs5;have hcs6:cs5.map (·.1)=[("other":Str)]:=hcs5.trans (by kernel_rfl);obtain⟨co,cs7,e7,hcs7⟩:=au hcs6;have e8:=af hcs7;clear hcs5 hcs6 hcs7;subst e8;subst e7;show aR _ _ 0 acc3 (aM (gF Γ.w.params) (aM (eF Γ.w.params) (E4 Γ.w.params L C) L2 (("one",ck)::[("top",C.top),("count",C.count),("below",C.below),("arcs",C.arcs)])) L3 (("other",co)::[("top",C.top),("one",ck),("below",C.below),("arcs",C.arcs)])) _ _ _ (cN co::(L3,ab [])::lL acc3 []::lL t [.int (one:Nat)]::cI ck (one:Nat)::(L2,ab [])::lL acc (gs.map fun q=>AV.ref q.1)::cI C.top (top:Nat)::cR C.below bl::cI C.count n::cR C.arcs A::(L,ab (("groups",u_groups)::RL))::(cG T n top gs++aa)) _;refine aB (fun j o=>∃y,o=cO co y::(L3,ab [])::lL acc3 (ae (ax T n top one j))::lL t [.int (one:Nat)]::cI ck (one:Nat)::(L2,ab [])::lL acc (gs.map fun q=>AV.ref q.1)::cI C.top (top:Nat)::cR C.below bl::cI C.count n::cR C.arcs A::(L,ab (("groups",u_groups)::RL))::(cG T n top gs++aa)) rfl rfl ⟨none,rfl⟩ (fun _ _ _=>trivial) ?_ ?_
  ·rintro j J it o h2 hit2 ⟨y,rfl⟩ hs2
   have hT3:TopG ((Γ.at h').at h2):=hT2.at hs2;obtain⟨hj,rfl⟩:=dw hit2;rw[Fw]at hj;rw[E7];have hgrl:=bb (T:=T) (n:=n) (top:=top) (one:=one) (i:=j);dsimp only[J];rw[eu];show WAsg _ _ _ _ _ _;show"w144s";refine ar (vs:=rs.map AV.ref) (by show"mem") (Er _) (by omega) (by rw[Es];exact g1) ?_;show"w144s";refine ar (vs:=bB (aO T) n top) (by show"mem") (Er _) (by omega) (by rw[Es];exact bH hj) ?_;show"w144s";cases hb:T top j with
   |true=>
    rw[show(!((aO T top j)!=0))=false from by simp[aO,b2,hb]];show"w144s";refine⟨_,Less.refl,some (.int (j:Nat)),?_⟩;rw[show bd T n top one j=false from by unfold bd;rw[hb];rfl,if_neg E6,EV]
   |false=>
   rw[show(!((aO T top j)!=0))=true from by simp[aO,b2,hb]];show"w144s";by_cases e1:j=top
   ·rw[show((j:Int)!=(top:Int))=false from by rw[bne_eq_false_iff_eq];omega]
    show"w144s";refine⟨_,Less.refl,some (.int (j:Nat)),?_⟩;rw[show bd T n top one j=false from by unfold bd;rw[decide_eq_false (by omega),hb];rfl,if_neg E6,EV]
   rw[show((j:Int)!=(top:Int))=true from by rw[bne_iff_ne];omega];show"w144s";refine aL (cl:=[("other",co),("arcs",C.arcs)]) (loc:=[("by",none)]) (by kernel_rfl) (zx Γ.w.params) (zy Γ.w.params) (by decide) (by simp) ?_;unfold bC;show"w144s";refine⟨_,aW (vs:=ae (az T top n)) (by show"mem") ?_⟩;intro acc4 L4 cs9 hcs9;rw[af (cs:=cs9) hcs9];show aR _ _ 0 acc4 (aM (jY Γ.w.params) (aM (gF Γ.w.params) (aM (eF Γ.w.params) (E4 Γ.w.params L C) L2 (("one",ck)::[("top",C.top),("count",C.count),("below",C.below),("arcs",C.arcs)])) L3 (("other",co)::[("top",C.top),("one",ck),("below",C.below),("arcs",C.arcs)])) L4 [("other",co),("arcs",C.arcs)]) _ _ _ ((L4,ab [("by",none)])::lL acc4 []::cI co (j:Nat)::(L3,ab [])::lL acc3 (ae (ax T n top one j))::lL t [.int (one:Nat)]::cI ck (one:Nat)::(L2,ab [])::lL acc (gs.map fun q=>AV.ref q.1)::cI C.top (top:Nat)::cR C.below bl::cI C.count n::cR C.arcs A::(L,ab (("groups",u_groups)::RL))::(cG T n top gs++aa)) _;refine aB (fun k o=>∃z,o=(L4,ab [("by",z)])::lL acc4 (ae (((az T top n).take k).filter fun b=>T b j))::cI co (j:Nat)::(L3,ab [])::lL acc3 (ae (ax T n top one j))::lL t [.int (one:Nat)]::cI ck (one:Nat)::(L2,ab [])::lL acc (gs.map fun q=>AV.ref q.1)::cI C.top (top:Nat)::cR C.below bl::cI C.count n::cR C.arcs A::(L,ab (("groups",u_groups)::RL))::(cG T n top gs++aa)) rfl rfl ⟨none,rfl⟩ ?_ ?_ ?_
   ·rintro k o ⟨z,rfl⟩;show"mem"
   ·rintro k J it o h3 hit3 ⟨z,rfl⟩ hs3
    obtain⟨by',rfl,hby⟩:=eh hit3;have hbyn:=iC (EF hby);obtain⟨rb,g3,g4⟩:=hrow by' hbyn;have hfl:(((az T top n).take k).filter fun b=>T b j).length ≤8:=Ep (Fv ..) (by rw[EJ];omega);dsimp only[J];rw[qz hby];show WAsg _ _ _ _ _ _;show"w144t";refine ar (vs:=rs.map AV.ref) (by show"mem") (Er _) (by omega) (by rw[Es];exact g3) ?_;show"w144t";refine ar (vs:=bB (aO T) n by') (by show"mem") (Er _) (by omega) (by rw[Es];exact bH hj) ?_;show"w144t";cases hb2:T by' j with
    |true=>
     rw[show((aO T by' j)!=0)=true from by simp[aO,b2,hb2]];show"w144t";refine⟨_,_,_,.tail .head,ac (by rw[aj];omega),Less.refl,some (.int (by':Nat)),?_⟩;rw[dQ];rfl
    |false=>
     rw[show((aO T by' j)!=0)=false from by simp[aO,b2,hb2]];show"w144t";exact⟨_,Less.refl,some (.int (by':Nat)),by rw[if_neg E6,EV]⟩
   ·rintro o ⟨z,rfl⟩
    rw[En,aj,EW];refine⟨_,_,Less.refl,?_⟩;show"w144s";refine⟨trivial,(by show(0:Int)≤1;decide),acc4,ae ((az T top n).filter fun b=>T b j),rfl,by show"mem",ac (by rw[aj];exact Ep (Fv ..) (by omega)),fun r4=> ?_⟩;rw[show sliceL (ae ((az T top n).filter fun b=>T b j)) none (some (1:Int))=aH (ci (((az T top n).filter fun b=>T b j).take 1))from by rw[←bo];exact iv _ 1];show"w144s";refine⟨ac (Eo rfl),fun e=> ?_⟩;refine dP (ns:=ci (((az T top n).filter fun b=>T b j).take 1)) (ms:=[(one:Int)]) (by show"mem") (.head _) ?_;rw[om];have hin:bd T n top one j=(dc T n top j==some one):=by unfold bd;rw[hb,decide_eq_true e1];simp
    rw[hin];cases hb3:dc T n top j==some one with
    |true=>
     show"w144s";refine⟨_,_,_,by show"upd",ac (by rw[aj];omega),Less.skip (Less.skip (Less.skip Less.refl)),some (.int (j:Nat)),?_⟩;rw[dQ];rfl
    |false=>
     show"w144s";exact⟨_,Less.skip (Less.skip (Less.skip Less.refl)),some (.int (j:Nat)),by rw[if_neg E6,EV]⟩
  ·rintro o ⟨y,rfl⟩
   rw[En,aG,Fw];refine⟨cO co y::lL acc3 (ae (ax T n top one n))::lL t [.int (one:Nat)]::cI ck (one:Nat)::(L2,ab [])::lL acc (gs.map fun q=>AV.ref q.1)::cI C.top (top:Nat)::cR C.below bl::cI C.count n::cR C.arcs A::(L,ab (("groups",u_groups)::RL))::(cG T n top gs++aa),[],by show"less",?_⟩;have hgrl:=bb (T:=T) (n:=n) (top:=top) (one:=one) (i:=n);refine bt (vs:=[.int (one:Nat)]) (ws:=ae (ax T n top one n)) (by show"mem") (by show"mem") (ac (by rw[aj];show 1+_≤1000;omega)) fun z=> ?_;rw[show([AV.int (one:Nat)]++ae (ax T n top one n))=ae (one::ax T n top one n)from rfl];refine⟨(gs.map fun q=>AV.ref q.1),_,_,by show"upd",ac (by rw[En];omega),Less.trans (o':=lL z (ae (one::ax T n top one n))::cI ck (one:Nat)::(L2,ab [])::lL acc ((gs.map fun q=>AV.ref q.1)++[.ref z])::cI C.top (top:Nat)::cR C.below bl::cI C.count n::cR C.arcs A::(L,ab (("groups",u_groups)::RL))::(cG T n top gs++aa)) ?_ (by show"less"),some (.int (one:Nat)),gs++[(z,one)],?_,rfl⟩
   ·have h:=oo (T:=T) (n:=n) (top:=top) (F:=cI ck (one:Nat)::(L2,ab [])::lL acc ((gs.map fun q=>AV.ref q.1)++[.ref z])::cI C.top (top:Nat)::cR C.below bl::cI C.count n::cR C.arcs A::(L,ab (("groups",u_groups)::RL))::[]) (gs:=gs) (q:=(z,one)) (aa:=aa)
    rw[show(gs++[(z,one)]).map (fun q=>AV.ref q.1)=(gs.map fun q=>AV.ref q.1)++[.ref z]from by rw[Ez];rfl];exact h
   ·rw[Ez,hgs,E5,hone];rfl
 ·rintro o ⟨x,gs,hgs,rfl⟩
  rw[En,aj,EW]at hgs;refine⟨cO ck x::lL acc (gs.map fun q=>AV.ref q.1)::cI C.top (top:Nat)::cR C.below bl::cI C.count n::cR C.arcs A::(L,ab (("groups",u_groups)::RL))::(cG T n top gs++aa),[],by show"less",?_⟩;show"w144@M66";subst hq0;exact⟨_,_,Less.refl,rfl,acc,gs,hgs,by show"less"⟩
end
end
end
section
noncomputable def jZ (p:Params):Scope:=bS p 144 [21,2,0,1,1]
theorem zA (p:Params):(jZ p).kind = .function :=by kernel_rfl
theorem zB (p:Params):∀x∈(jZ p).names,x.2= .local ->(jZ p).names.lookup x.1=some .local :=aJ (by kernel_rfl)
theorem ka144u {L144u:Addr} {c144u:List (Str×Addr)}:KdA (aM (jZ p) (E4 p L C) L144u c144u) [("other",.local)]:=⟨by kernel_rfl,by kernel_rfl⟩
structure Rw where
 tp:Addr
 d:Addr
 tag:Str
 kvs:List (Str×AV)
noncomputable abbrev Rw.sp (r:Rw):Str×List (Str×AV):=(r.tag,r.kvs)
noncomputable abbrev s_ (w:World) (r:Rw):Led:=[(r.tp,bV [.str r.tag,.ref r.d]),(r.d,bj w r.d r.kvs)]
noncomputable abbrev bw (w:World) (rows:List Rw):Led:=rows.flatMap (s_ w)
noncomputable abbrev aC (rows:List Rw):List AV:=rows.map fun r=> .ref r.tp
theorem m8 {F:Led} {r:Rw}:Less (F++(bw w (rows++[r])++aa)) (s_ w r++(F++(bw w rows++aa))):=by
 have h:=Less.move (X:=s_ w r) (Y:=F++bw w rows) (Z:=aa);unfold bw at h⊢;rw[Fx,Fu,GF,EV];simpa using h
noncomputable abbrev kvTop:List (Str×AV):=[("tail",.str ".")]
noncomputable abbrev cH (k:Nat):List (Str×AV):=[("at",.int (k:Nat))]
noncomputable abbrev fe (k:Nat):List (Str×AV):=[("tail",.str "!"),("at",.int (k:Nat))]
noncomputable def m_ (T:Nat->Nat->Bool) (n top one:Nat):List (Str×List (Str×AV)):=(aD one,cH one)::(ax T n top one n).map fun o=>(aD o,fe o)
noncomputable def dM (T:Nat->Nat->Bool) (n top:Nat) (ones:List Nat):List (Str×List (Str×AV)):=(aD top,kvTop)::ones.flatMap (m_ T n top)
theorem lu {one:Nat} {ones:List Nat}:dM T n top (ones++[one])=dM T n top ones++m_ T n top one:=by
 unfold dM;rw[Fx,Fu,GF,EV,EX]
theorem tc {one:Nat}:(m_ T n top one).length ≤n+1:=by
 unfold m_;rw[EK,En];have:=bb (T:=T) (n:=n) (top:=top) (one:=one) (i:=n);omega
theorem na:∀{ones:List Nat},(dM T n top ones).length ≤1+(n+1)*ones.length:=fun {z_}=>by
 induction z_ with
 |nil=>exact EL _
 |cons o r ih=>
  have h1:=ih;have h2:=tc (T:=T) (n:=n) (top:=top) (one:=o);unfold dM at h1⊢;rw[EK]at h1;rw[Fu,EK,EU,EK,Fe,F0];omega
theorem w9 (h:((gs.map fun q=>AV.ref q.1).map Item.one)[i]? =some it):∃q,it= .one (.ref q.1)∧gs[i]? =some q:=by
 rw[Eu,Ew]at h;obtain⟨a,ha,rfl⟩:=h;rw[Eu,Ew]at ha;obtain⟨x,hx,rfl⟩:=ha;exact⟨x,rfl,hx⟩
theorem gg (h:k<8) (hK:K (.str (aD k)) aa):fS Γ (.str "abcdefgh") (.int (k:Nat)) aa K:=
 jf (Er _) (by omega) (eR h) hK
section
variable {RL:Loc}
theorem vM (hT:TopG Γ) (ht:top<8):
 WX Γ (E4 Γ.w.params L C) (aY Γ.w.params 20) (cI C.top (top:Nat)::(L,ab (("groups",u_groups)::("due",u_due)::("group",u_group)::RL))::aa) fun f o=>f= .next ∧∃du rows,rows.map Rw.sp=dM T n top []∧Less (cI C.top (top:Nat)::(L,ab (("groups",u_groups)::nR "due" du::("group",u_group)::RL))::lL du (aC rows)::(bw Γ.w rows++aa)) o:=by
 refine W.hide fun q0 hq0=> ?_;refine x_Assign_Name ?_;refine w_List ?_;refine a_cons ?_;refine w_Tuple ?_;refine a_cons ?_;show"w144@M67";refine gg ht ?_;refine a_cons ?_
 with_reducible_and_instances refine iA hT fun d=> ?_
 show"w144@M67";refine⟨(by show(["tail"]:List Str).Nodup;decide),_,.head,?_⟩;show"w144@M67";refine⟨ac (Eo rfl),fun tp=> ?_⟩;show"w144@M67";refine⟨ac (Eo rfl),fun du=> ?_⟩;show"w144@M67";subst hq0;refine⟨rfl,du,[⟨tp,d,aD top,kvTop⟩],rfl,?_⟩;show Less (cI C.top (top:Nat)::(L,ab (("groups",u_groups)::nR "due" du::("group",u_group)::RL))::lL du [.ref tp]::(tp,bV [.str (aD top),.ref d])::(d,bj Γ.w d kvTop)::aa) _;show"less"
theorem vN {gr du:Addr} (hT:TopG Γ) (hn:n≤8) (hgr:lL gr (gs.map fun q=>AV.ref q.1)∈aa) (hgs:∀q∈gs,lL q.1 (ae (q.2::ax T n top q.2 n))∈aa) (hlt:∀q∈gs,q.2<n) (hgl:gs.length≤8) (hrows:rows.map Rw.sp=dM T n top []):
 WX Γ (E4 Γ.w.params L C) (aY Γ.w.params 21) (cO C.top u_top::(L,ab (nR "groups" gr::nR "due" du::("group",u_group)::RL))::lL du (aC rows)::(bw Γ.w rows++aa)) fun f o=>f= .next ∧∃x rows2,rows2.map Rw.sp=dM T n top (gs.map (·.2))∧Less (cO C.top u_top::(L,ab (nR "groups" gr::nR "due" du::("group",x)::RL))::lL du (aC rows2)::(bw Γ.w rows2++aa)) o:=by
 refine W.hide fun q0 hq0=> ?_;refine dp ?_;show"w144@M67";refine⟨_,aW (vs:=gs.map fun q=>AV.ref q.1) (by have hgr':lL gr (gs.map fun q=>AV.ref q.1)∈bw Γ.w rows++aa:=EC _ hgr;show"mem") ⟨fun i o=>∃x rows,rows.map Rw.sp=dM T n top ((gs.take i).map (·.2))∧o=cO C.top u_top::(L,ab (nR "groups" gr::nR "due" du::("group",x)::RL))::lL du (aC rows)::(bw Γ.w rows++aa),⟨u_group,rows,hrows,rfl⟩,?_,?_,?_⟩⟩
 ·rintro i o ⟨x,rows,_,rfl⟩
  have hgr':lL gr (gs.map fun q=>AV.ref q.1)∈bw Γ.w rows++aa:=EC _ hgr;show"mem"
 ·rintro i J it o h' hit ⟨x,rows,hrows,rfl⟩ hs
  have hT2:TopG (Γ.at h'):=hT.at hs;obtain⟨q,rfl,hq⟩:=w9 hit;have hqm:=EF hq;have hqn:=hlt q hqm;have hql:lL q.1 (ae (q.2::ax T n top q.2 n))∈bw Γ.w rows++aa:=EC _ (hgs q hqm);have hgl2:=bb (T:=T) (n:=n) (top:=top) (one:=q.2) (i:=n)
  have hrl:rows.length≤100:=by
   have e:=congrArg Fb hrows;rw[En]at e;have h2:=na (T:=T) (n:=n) (top:=top) (ones:=(gs.take i).map (·.2));have h3:((gs.take i).map (·.2)).length ≤8:=by rw[En,EJ];omega
   have h4:=FV (show n+1≤9 by omega) h3;omega
  have hglt:∀x∈ax T n top q.2 n,x<n:=fun x hx=>EM.mp (Go.mp hx).1;show WAsg _ _ _ _ _ _;show"w144@M67";refine cy PySem.F.slot_list_extend PySem.F.type_list_extend (vs:=aC rows) (by show"mem") ?_;refine a_cons ?_;refine w_BinOp ?_;refine w_List ?_;refine a_cons ?_;refine w_Tuple ?_;refine a_cons ?_;show"w144@M67";refine ar (vs:=ae (q.2::ax T n top q.2 n)) (by show"mem") (by decide) (by decide) (show _=some (AV.int (q.2:Nat))from rfl) ?_;refine gg (by omega) ?_;refine a_cons ?_
  with_reducible_and_instances refine iA hT2 fun d1=> ?_
  show"w144@M67";refine ar (vs:=ae (q.2::ax T n top q.2 n)) (by show"mem") (by decide) (by decide) (show _=some (AV.int (q.2:Nat))from rfl) ?_;show"w144@M67";refine⟨(by show(["at"]:List Str).Nodup;decide),_,.head,?_⟩;show"w144@M67";refine⟨ac (Eo rfl),fun tp1=> ?_⟩;have hl:Less (cO C.top u_top::(L,ab (nR "groups" gr::nR "due" du::nR "group" q.1::RL))::lL du (aC rows)::(bw Γ.w (rows++[⟨tp1,d1,aD q.2,cH q.2⟩])++aa)) ((tp1,bV [.str (aD q.2),.ref d1])::(d1,bj Γ.w d1 (cH q.2))::cO C.top u_top::(L,ab (nR "groups" gr::nR "due" du::nR "group" q.1::RL))::lL du (aC rows)::(bw Γ.w rows++aa)):=m8 (w:=Γ.w) (F:=cO C.top u_top::(L,ab (nR "groups" gr::nR "due" du::nR "group" q.1::RL))::lL du (aC rows)::[]) (rows:=rows) (r:=⟨tp1,d1,aD q.2,cH q.2⟩) (aa:=aa);refine W.sub hl ?_;clear hl;show"w144@M67";refine⟨ac (Eo rfl),fun l1=> ?_⟩;refine aL (cl:=[]) (loc:=[("other",none)]) (by kernel_rfl) (zA Γ.w.params) (zB Γ.w.params) (by decide) (by simp) ?_;unfold bC;show"w144@M67";have hql:lL q.1 (ae (q.2::ax T n top q.2 n))∈bw Γ.w (rows++[⟨tp1,d1,aD q.2,cH q.2⟩])++aa:=EC _ (hgs q hqm);refine⟨(by show(0:Int)≤1;decide),trivial,q.1,ae (q.2::ax T n top q.2 n),rfl,by show"mem",ac (by rw[aj,EK];omega),fun r=> ?_⟩;rw[show sliceL (ae (q.2::ax T n top q.2 n)) (some (1:Int)) none=ae (ax T n top q.2 n)from rfl];refine⟨_,aW (vs:=ae (ax T n top q.2 n)) (.head _) ?_⟩;intro acc L2 cs2 hcs2;rw[af (cs:=cs2) hcs2];show aR _ _ 0 acc (aM (jZ Γ.w.params) (E4 Γ.w.params L C) L2 []) _ _ _ ((L2,ab [("other",none)])::lL acc []::lL r (ae (ax T n top q.2 n))::lL l1 [.ref tp1]::cO C.top u_top::(L,ab (nR "groups" gr::nR "due" du::nR "group" q.1::RL))::lL du (aC rows)::(bw Γ.w (rows++[⟨tp1,d1,aD q.2,cH q.2⟩])++aa)) _;refine aB (fun j o=>∃y rows2,rows2.map Rw.sp=((ax T n top q.2 n).take j).map (fun o=>(aD o,fe o))∧o=(L2,ab [("other",y)])::lL acc (aC rows2)::lL r (ae (ax T n top q.2 n))::lL l1 [.ref tp1]::cO C.top u_top::(L,ab (nR "groups" gr::nR "due" du::nR "group" q.1::RL))::lL du (aC rows)::(bw Γ.w ((rows++[⟨tp1,d1,aD q.2,cH q.2⟩])++rows2)++aa)) rfl rfl ⟨none,[],rfl,by rw[EV];rfl⟩ ?_ ?_ ?_
  ·rintro j o ⟨y,rows2,_,rfl⟩;show"mem"
  ·rintro j J it o h2 hit2 ⟨y,rows2,hr2,rfl⟩ hs2
   have hT3:TopG ((Γ.at h').at h2):=hT2.at hs2;obtain⟨x,rfl,hx⟩:=eh hit2;have hxn:x<n:=hglt x (EF hx)
   have hr2l:rows2.length≤8:=by
    have e:=congrArg Fb hr2;rw[En,En,EJ]at e;omega
   show WAsg _ _ _ _ _ _;show"w144u";refine gg (by omega) ?_;refine a_cons ?_
   with_reducible_and_instances refine iA hT3 fun d=> ?_
   show"w144u";refine⟨(by show(["tail","at"]:List Str).Nodup;decide),_,.head,?_⟩;show"w144u";refine⟨ac (Eo rfl),fun tp=> ?_⟩
   have hl:Less ((L2,ab [nI "other" (x:Nat)])::lL acc (aC (rows2++[⟨tp,d,aD x,fe x⟩]))::lL r (ae (ax T n top q.2 n))::lL l1 [.ref tp1]::cO C.top u_top::(L,ab (nR "groups" gr::nR "due" du::nR "group" q.1::RL))::lL du (aC rows)::(bw Γ.w ((rows++[⟨tp1,d1,aD q.2,cH q.2⟩])++(rows2++[⟨tp,d,aD x,fe x⟩]))++aa)) ((tp,bV [.str (aD x),.ref d])::(d,bj Γ.w d (fe x))::(L2,ab [nI "other" (x:Nat)])::lL acc (aC rows2++[.ref tp])::lL r (ae (ax T n top q.2 n))::lL l1 [.ref tp1]::cO C.top u_top::(L,ab (nR "groups" gr::nR "due" du::nR "group" q.1::RL))::lL du (aC rows)::(bw Γ.w ((rows++[⟨tp1,d1,aD q.2,cH q.2⟩])++rows2)++aa)):=by
    rw[show aC (rows2++[⟨tp,d,aD x,fe x⟩])=aC rows2++[.ref tp]from by unfold aC;rw[Ez];rfl,←EO];exact m8 (w:=Γ.w) (F:=(L2,ab [nI "other" (x:Nat)])::lL acc (aC rows2++[.ref tp])::lL r (ae (ax T n top q.2 n))::lL l1 [.ref tp1]::cO C.top u_top::(L,ab (nR "groups" gr::nR "due" du::nR "group" q.1::RL))::lL du (aC rows)::[]) (rows:=(rows++[⟨tp1,d1,aD q.2,cH q.2⟩])++rows2) (r:=⟨tp,d,aD x,fe x⟩) (aa:=aa)
   refine⟨aC rows2,_,_,by show"upd",ac (by rw[En];omega),hl,some (.int (x:Nat)),rows2++[⟨tp,d,aD x,fe x⟩],?_,rfl⟩;rw[Ez,hr2,E5,hx,Ez];rfl
  ·rintro o ⟨y,rows2,hr2,rfl⟩
   rw[En,aj,EW]at hr2
   have hr2l:rows2.length≤8:=by
    have e:=congrArg Fb hr2;rw[En,En]at e;omega
   refine⟨lL acc (aC rows2)::lL r (ae (ax T n top q.2 n))::lL l1 [.ref tp1]::cO C.top u_top::(L,ab (nR "groups" gr::nR "due" du::nR "group" q.1::RL))::lL du (aC rows)::(bw Γ.w ((rows++[⟨tp1,d1,aD q.2,cH q.2⟩])++rows2)++aa),[("other",y)],Less.refl,?_⟩;refine bt (vs:=[.ref tp1]) (ws:=aC rows2) (by show"mem") (by show"mem") (ac (by rw[En];show 1+_≤1000;omega)) fun z=> ?_;show"w144@M67";refine mF (vs:=aC rows) (ws:=[.ref tp1]++aC rows2) (ac (by rw[En,EU,En];show _+(1+_)≤1000;omega)) (by show"upd") (by show"mem") ?_;show"w144@M67";rw[show aC rows++([AV.ref tp1]++aC rows2)=aC ((rows++[⟨tp1,d1,aD q.2,cH q.2⟩])++rows2)from by unfold aC;rw[Ez,Ez,EO];rfl];refine⟨rfl,cO C.top u_top::(L,ab (nR "groups" gr::nR "due" du::nR "group" q.1::RL))::lL du (aC ((rows++[⟨tp1,d1,aD q.2,cH q.2⟩])++rows2))::(bw Γ.w ((rows++[⟨tp1,d1,aD q.2,cH q.2⟩])++rows2)++aa),by show"less",some (.ref q.1),(rows++[⟨tp1,d1,aD q.2,cH q.2⟩])++rows2,?_,rfl⟩;rw[Ez,Ez,hrows,hr2,E5,hq,Ez,EO];exact lu.symm
 ·rintro o ⟨x,rows,hrows,rfl⟩
  rw[En,En,EW]at hrows;subst hq0;exact⟨rfl,x,rows,hrows,Less.refl⟩
end
end
section
theorem qA {F:Led} {R:El}:Less (F++aA w R chs aa) (aA w R chs (F++aa)):=by
 have h:=Less.move (X:=bZ w.params R ((R.at',bj w R.at' [("tail",.str ".")])::chs.flatMap (aP w))) (Y:=F) (Z:=aa);rw[←EO]at h;simp only[EO]at h;exact h
structure TreeIn (w:World) (T:Nat->Nat->Bool) (n top:Nat) (R:El) (chs:List Ch) (aa:Led):Prop where
 ok:TreeOk T n top R chs
 root:HasE w.params aa R
 li:lL R.li (chs.map fun c=> .ref c.e.f)∈aa
 tb:(R.at',bj w R.at' kvTop)∈aa
 ch:∀c∈chs,HasE w.params aa c.e∧lL c.e.li (c.gs.map fun q=> .ref q.2.f)∈aa∧(c.e.at',bj w c.e.at' (cH c.one))∈aa
 gs:∀c∈chs,∀q∈c.gs,HasE w.params aa q.2∧lL q.2.li []∈aa∧(q.2.at',bj w q.2.at' (fe q.1))∈aa
theorem TreeIn.up {R:El} (h:TreeIn w T n top R chs aa) (hs:∀q,q∈aa->q∈ao):TreeIn w T n top R chs ao:=
 ⟨h.ok,h.root.up hs,hs _ h.li,hs _ h.tb,fun c hc=>⟨(h.ch c hc).1.up hs,hs _ (h.ch c hc).2.1,hs _ (h.ch c hc).2.2⟩,fun c hc q hq=>⟨(h.gs c hc q hq).1.up hs,hs _ (h.gs c hc q hq).2.1,hs _ (h.gs c hc q hq).2.2⟩⟩
theorem TreeIn.of {R:El} (h:TreeOk T n top R chs):TreeIn w T n top R chs (aA w R chs aa):=by
 have t8:∀q,q∈chs.flatMap (aP w)++aa->q∈aA w R chs aa:=fun q hq=> .tail _ (.tail _ (.tail _ (.tail _ (.tail _ (.tail _ (.tail _ (.tail _ hq)))))));refine⟨h,⟨.head _,.tail _ (.head _),.tail _ (.tail _ (.tail _ (.head _))),.tail _ (.tail _ (.tail _ (.tail _ (.head _)))),.tail _ (.tail _ (.tail _ (.tail _ (.tail _ (.head _))))),.tail _ (.tail _ (.tail _ (.tail _ (.tail _ (.tail _ (.head _))))))⟩,?_,.tail _ (.tail _ (.tail _ (.tail _ (.tail _ (.tail _ (.tail _ (.head _))))))),fun c hc=>⟨(l9 hc).up t8,?_,?_⟩,fun c hc q hq=> ?_⟩
 ·have e:R.kids.map AV.ref=chs.map fun c=>AV.ref c.e.f:=by rw[h.root.kids,FC];rfl
  rw[←e];exact .tail _ (.tail _ (.head _))
 ·have e:c.e.kids.map AV.ref=c.gs.map fun q=>AV.ref q.2.f :=by rw[(h.root.ch c hc).kids,FC];rfl
  rw[←e];exact t8 _ (d5 hc (.tail _ (.tail _ (.tail _ (.head _)))))
 ·have e:=h.kvs c hc
  have hm:=t8 _ (d5 hc (aa:=aa) (w:=w) (.tail _ (.tail _ (.tail _ (.tail _ (.tail _ (.tail _ (.tail _ (.tail _ (.head _))))))))));rw[e]at hm;exact hm
 ·have hk:=(h.root.ch c hc).gs q hq
  have t9:∀x,x∈jV w q->x∈aA w R chs aa:=fun x hx=>t8 _ (d5 hc (BM hq hx));refine⟨HasE.of fun x hx=>t9 x ?_,?_,t9 _ (.tail _ (.tail _ (.tail _ (.tail _ (.tail _ (.tail _ (.tail _ (.head _))))))))⟩
  ·show x∈m5 w.params q.2++[(q.2.at',bj w q.2.at' (fe q.1))]
   exact EY _ hx
  ·have hm:=t9 _ (.tail _ (.tail _ (.head _)))
   rw[hk.2.2]at hm;exact hm
noncomputable abbrev bU (rows:List Rw):Led:=rows.map fun r=>(r.tp,bV [.str r.tag,.ref r.d])
section
variable {RL:Loc}
theorem vO {A pd gd:Addr} (hS:Std Γ) (hk:12<Γ.k) (hn:n≤8) (hA:Arcs aa A n T rs) (ht:top<n) (hpd:(pd,bj Γ.w pd [])∈aa) (hgd:(gd,bj Γ.w gd [("tail",.str "?")])∈aa):
 WX Γ (E4 Γ.w.params L C) (aY Γ.w.params 22) (cI C.top (top:Nat)::cO C.pieces u_pieces::cR C.arcs A::(L,ab (nR "plain" pd::nR "given" gd::("root",u_root)::RL))::aa) fun f o=>f= .next ∧∃pl R chs,TreeOk T n top R chs∧Less (cI C.top (top:Nat)::cR C.pieces pl::cR C.arcs A::(L,ab (nR "plain" pd::nR "given" gd::nR "root" R.f::RL))::lL pl []::aA Γ.w R chs aa) o:=by
 refine W.hide fun q0 hq0=> ?_;have hT:TopG Γ:=hS.T;refine bO ?_;show"w144@M68";refine⟨am (wW _) hT,?_⟩;refine Da (T:=T) (n:=n) (rs:=rs) hS hk hn ht ⟨hA.len,by have:=hA.top;show"mem",fun i r e=>by have:=hA.row i r e;show"mem"⟩ (by show"mem") (by show"mem") fun R chs hok=> ?_;refine W.sub (qA (w:=Γ.w) (F:=cI C.top (top:Nat)::cO C.pieces u_pieces::cR C.arcs A::(L,ab (nR "plain" pd::nR "given" gd::("root",u_root)::RL))::[]) (R:=R) (chs:=chs) (aa:=aa)) ?_;show WArgs _ _ _ _ (cI C.top (top:Nat)::cO C.pieces u_pieces::cR C.arcs A::(L,ab (nR "plain" pd::nR "given" gd::("root",u_root)::RL))::aA Γ.w R chs aa) _;show"w144@M68";refine⟨ac (Eo rfl),fun pl=> ?_⟩;show"w144@M68";refine⟨ac (Eo rfl),fun t=> ?_⟩;refine aI (.head _) rfl ?_;show"w144@M68";subst hq0;refine⟨rfl,pl,R,chs,hok,?_⟩;show"less"
theorem vP {R:El} {ow2:Led} (hI0:TreeIn Γ.w T n top R chs ow2) (hsb:∀q,q∈ow2->q∈aa):
 WX Γ (E4 Γ.w.params L C) (aY Γ.w.params 23) ((L,ab (nR "root" R.f::("told",u_told)::RL))::aa) fun f o=>f= .next ∧∃to rows,rows.map Rw.sp=dM T n top []∧(∀r∈rows,(r.d,bj Γ.w r.d r.kvs)∈ow2)∧Less ((L,ab (nR "root" R.f::nR "told" to::RL))::lL to (aC rows)::(bU rows++aa)) o:=by
 refine W.hide fun q0 hq0=> ?_;have hI:=hI0.up hsb;refine x_Assign_Name ?_;refine w_List ?_;refine a_cons ?_;refine w_Tuple ?_;refine a_cons ?_;show"w144@M68";refine sT hI.root.cons ?_;show"w144@M68";refine hV hI.root.cons ?_;show"w144@M68";refine⟨ac (Eo rfl),fun tp=> ?_⟩;show"w144@M68";refine⟨ac (Eo rfl),fun to=> ?_⟩;show"w144@M68";subst hq0;refine⟨rfl,to,[⟨tp,R.at',R.tag,kvTop⟩],?_,?_,?_⟩
 ·show [(R.tag,kvTop)]=_
  rw[hI.ok.root.tag];rfl
 ·intro r hr
  obtain rfl:=ED.mp hr;exact hI0.tb
 ·show Less ((L,ab (nR "root" R.f::nR "told" to::RL))::lL to [.ref tp]::(tp,bV [.str R.tag,.ref R.at'])::aa) _
  show"less"
end
end
section
noncomputable def j0 (p:Params):Scope:=bS p 144 [24,2,0,1,1]
theorem zC (p:Params):(j0 p).kind = .function :=by kernel_rfl
theorem zD (p:Params):∀x∈(j0 p).names,x.2= .local ->(j0 p).names.lookup x.1=some .local :=aJ (by kernel_rfl)
theorem ka144v {L144v:Addr} {c144v:List (Str×Addr)}:KdA (aM (j0 p) (E4 p L C) L144v c144v) [("other",.local)]:=⟨by kernel_rfl,by kernel_rfl⟩
theorem nb {F:Led} {r:Rw}:Less (F++(bU (rows++[r])++aa)) ((r.tp,bV [.str r.tag,.ref r.d])::(F++(bU rows++aa))):=by
 have h:=Less.move (X:=[(r.tp,bV [.str r.tag,.ref r.d])]) (Y:=F++bU rows) (Z:=aa);unfold bU at h⊢;rw[Ez,EQ,G4];simpa using h
theorem td (h:((chs.map fun c=>AV.ref c.e.f).map Item.one)[b]? =some it):∃c,it= .one (.ref c.e.f)∧chs[b]? =some c:=by
 rw[Eu,Ew]at h;obtain⟨a,ha,rfl⟩:=h;rw[Eu,Ew]at ha;obtain⟨x,hx,rfl⟩:=ha;exact⟨x,rfl,hx⟩
theorem te {gs:List (Nat×El)} (h:((gs.map fun q=>AV.ref q.2.f).map Item.one)[b]? =some it):∃q,it= .one (.ref q.2.f)∧gs[b]? =some q:=by
 rw[Eu,Ew]at h;obtain⟨a,ha,rfl⟩:=h;rw[Eu,Ew]at ha;obtain⟨x,hx,rfl⟩:=ha;exact⟨x,rfl,hx⟩
theorem ti {ones:List Nat} (h:rows.map Rw.sp=dM T n top ones) (hn:n≤8) (ho:ones.length≤8):rows.length≤100:=by
 have e:=congrArg Fb h;rw[En]at e;have h2:=na (T:=T) (n:=n) (top:=top) (ones:=ones);have h4:=FV (show n+1≤9 by omega) ho;omega
section
variable {RL:Loc}
theorem vQ {to:Addr} {R:El} {ow2:Led} (hI0:TreeIn Γ.w T n top R chs ow2) (hsb:∀q,q∈ow2->q∈aa) (hn:n≤8) (hrows:rows.map Rw.sp=dM T n top []) (hd:∀r∈rows,(r.d,bj Γ.w r.d r.kvs)∈ow2):
 WX Γ (E4 Γ.w.params L C) (aY Γ.w.params 24) (cO C.one u_one::(L,ab (nR "root" R.f::nR "told" to::RL))::lL to (aC rows)::(bU rows++aa)) fun f o=>f= .next ∧∃x rows2,rows2.map Rw.sp=dM T n top (az T top n)∧(∀r∈rows2,(r.d,bj Γ.w r.d r.kvs)∈ow2)∧Less (cO C.one x::(L,ab (nR "root" R.f::nR "told" to::RL))::lL to (aC rows2)::(bU rows2++aa)) o:=by
 refine W.hide fun q0 hq0=> ?_;have hI:=hI0.up hsb;have hones:=hI.ok.ones
 have hcl:chs.length≤8:=by
  have e:=congrArg Fb hones;have:=bJ (T:=T) (top:=top) (i:=n);rw[En]at e;omega
 have hli:∀rows:List Rw,lL R.li (chs.map fun c=>AV.ref c.e.f)∈bU rows++aa:=fun rows=>EC _ hI.li;have hE:∀rows:List Rw,HasE Γ.w.params (bU rows++aa) R:=fun rows=>hI.root.app;refine dp ?_;show"w144@M69";refine dZ ((hE rows).up fun q hq=>by show"mem") ?_;refine⟨_,aW (vs:=(chs.map fun c=>AV.ref c.e.f)) (by have:=hli rows;show"mem") ⟨fun i o=>∃x rows,rows.map Rw.sp=dM T n top ((chs.take i).map (·.one))∧(∀r∈rows,(r.d,bj Γ.w r.d r.kvs)∈ow2)∧o=cO C.one x::(L,ab (nR "root" R.f::nR "told" to::RL))::lL to (aC rows)::(bU rows++aa),⟨u_one,rows,hrows,hd,rfl⟩,?_,?_,?_⟩⟩
 ·rintro i o ⟨x,rows,_,_,rfl⟩
  have:=hli rows;show"mem"
 ·rintro i J it o h' hit ⟨x,rows,hrows,hd,rfl⟩ hs
  obtain⟨c,rfl,hc⟩:=td hit;have hcm:=EF hc;obtain⟨hEc,hlc,_⟩:=hI.ch c hcm;have hac:=(hI0.ch c hcm).2.2;have hrl:rows.length≤100:=ti hrows hn (by rw[En,EJ];omega);have hgrp:=hI.ok.grp c hcm
  have hgl:c.gs.length≤8:=by
   have e:=congrArg Fb hgrp;have:=bb (T:=T) (n:=n) (top:=top) (one:=c.one) (i:=n);rw[En]at e;omega
  have hok:=hI.ok.root.ch c hcm;show WAsg _ _ _ _ _ _;show"w144@M69";refine cy PySem.F.slot_list_extend PySem.F.type_list_extend (vs:=aC rows) (by show"mem") ?_;refine a_cons ?_;refine w_BinOp ?_;refine w_List ?_;refine a_cons ?_;refine w_Tuple ?_;refine a_cons ?_;show"w144@M69";refine sT (Γ:=Γ.at h') (hEc.app.up fun q hq=>by show"mem") ?_;show"w144@M69";refine hV (Γ:=Γ.at h') (hEc.app.up fun q hq=>by show"mem") ?_;show"w144@M69";refine⟨ac (Eo rfl),fun tp1=> ?_⟩;have hl:Less (cR C.one c.e.f::(L,ab (nR "root" R.f::nR "told" to::RL))::lL to (aC rows)::(bU (rows++[⟨tp1,c.e.at',c.e.tag,cH c.one⟩])++aa)) ((tp1,bV [.str c.e.tag,.ref c.e.at'])::cR C.one c.e.f::(L,ab (nR "root" R.f::nR "told" to::RL))::lL to (aC rows)::(bU rows++aa)):=nb (F:=cR C.one c.e.f::(L,ab (nR "root" R.f::nR "told" to::RL))::lL to (aC rows)::[]) (rows:=rows) (r:=⟨tp1,c.e.at',c.e.tag,cH c.one⟩) (aa:=aa);refine W.sub hl ?_;clear hl;show"w144@M69";refine⟨ac (Eo rfl),fun l1=> ?_⟩;refine aL (cl:=[]) (loc:=[("other",none)]) (by kernel_rfl) (zC Γ.w.params) (zD Γ.w.params) (by decide) (by simp) ?_;unfold bC;show"w144@M69";refine dZ (Γ:=Γ.at h') (hEc.app.up fun q hq=>by show"mem") ?_;have hlc':∀rows:List Rw,lL c.e.li (c.gs.map fun q=>AV.ref q.2.f)∈bU rows++aa:=fun rows=>EC _ hlc;refine⟨_,aW (vs:=(c.gs.map fun q=>AV.ref q.2.f)) (by have:=hlc' (rows++[⟨tp1,c.e.at',c.e.tag,cH c.one⟩]);show"mem") ?_⟩;intro acc L2 cs2 hcs2;rw[af (cs:=cs2) hcs2];show aR _ _ 0 acc (aM (j0 Γ.w.params) (E4 Γ.w.params L C) L2 []) _ _ _ ((L2,ab [("other",none)])::lL acc []::lL l1 [.ref tp1]::cR C.one c.e.f::(L,ab (nR "root" R.f::nR "told" to::RL))::lL to (aC rows)::(bU (rows++[⟨tp1,c.e.at',c.e.tag,cH c.one⟩])++aa)) _;refine aB (fun j o=>∃y rows2,rows2.map Rw.sp=(c.gs.take j).map (fun q=>(aD q.1,fe q.1))∧(∀r∈rows2,(r.d,bj Γ.w r.d r.kvs)∈ow2)∧o=(L2,ab [("other",y)])::lL acc (aC rows2)::lL l1 [.ref tp1]::cR C.one c.e.f::(L,ab (nR "root" R.f::nR "told" to::RL))::lL to (aC rows)::(bU ((rows++[⟨tp1,c.e.at',c.e.tag,cH c.one⟩])++rows2)++aa)) rfl rfl ⟨none,[],rfl,(fun _ h=>nomatch h),by rw[EV];rfl⟩ ?_ ?_ ?_
  ·rintro j o ⟨y,rows2,_,_,rfl⟩
   have:=hlc' ((rows++[⟨tp1,c.e.at',c.e.tag,cH c.one⟩])++rows2);show"mem"
  ·rintro j J it o h2 hit2 ⟨y,rows2,hr2,hd2,rfl⟩ hs2
   obtain⟨q,rfl,hq⟩:=te hit2;have hqm:=EF hq;obtain⟨hEq,_,_⟩:=hI.gs c hcm q hqm;have haq:=(hI0.gs c hcm q hqm).2.2
   have hr2l:rows2.length≤8:=by
    have e:=congrArg Fb hr2;rw[En,En,EJ]at e;omega
   show WAsg _ _ _ _ _ _;show"w144v";refine sT (Γ:=(Γ.at h').at h2) (hEq.app.up fun q hq=>by show"mem") ?_;show"w144v";refine hV (Γ:=(Γ.at h').at h2) (hEq.app.up fun q hq=>by show"mem") ?_;show"w144v";refine⟨ac (Eo rfl),fun tp=> ?_⟩
   have hl:Less ((L2,ab [nR "other" q.2.f])::lL acc (aC (rows2++[⟨tp,q.2.at',q.2.tag,fe q.1⟩]))::lL l1 [.ref tp1]::cR C.one c.e.f::(L,ab (nR "root" R.f::nR "told" to::RL))::lL to (aC rows)::(bU ((rows++[⟨tp1,c.e.at',c.e.tag,cH c.one⟩])++(rows2++[⟨tp,q.2.at',q.2.tag,fe q.1⟩]))++aa)) ((tp,bV [.str q.2.tag,.ref q.2.at'])::(L2,ab [nR "other" q.2.f])::lL acc (aC rows2++[.ref tp])::lL l1 [.ref tp1]::cR C.one c.e.f::(L,ab (nR "root" R.f::nR "told" to::RL))::lL to (aC rows)::(bU ((rows++[⟨tp1,c.e.at',c.e.tag,cH c.one⟩])++rows2)++aa)):=by
    rw[show aC (rows2++[⟨tp,q.2.at',q.2.tag,fe q.1⟩])=aC rows2++[.ref tp]from by unfold aC;rw[Ez];rfl,←EO];exact nb (F:=(L2,ab [nR "other" q.2.f])::lL acc (aC rows2++[.ref tp])::lL l1 [.ref tp1]::cR C.one c.e.f::(L,ab (nR "root" R.f::nR "told" to::RL))::lL to (aC rows)::[]) (rows:=(rows++[⟨tp1,c.e.at',c.e.tag,cH c.one⟩])++rows2) (r:=⟨tp,q.2.at',q.2.tag,fe q.1⟩) (aa:=aa)
   refine⟨aC rows2,_,_,by show"upd",ac (by rw[En];omega),hl,some (.ref q.2.f),rows2++[⟨tp,q.2.at',q.2.tag,fe q.1⟩],?_,?_,rfl⟩
   ·rw[Ez,hr2,E5,hq,Ez]
    show _++[(q.2.tag,fe q.1)]=_++[(aD q.1,fe q.1)];rw[(hok.gs q hqm).1]
   ·intro r hr
    rcases E3.mp hr with hr|hr
    ·exact hd2 r hr
    ·obtain rfl:=ED.mp hr;exact haq
  ·rintro o ⟨y,rows2,hr2,hd2,rfl⟩
   rw[En,En,EW]at hr2
   have hr2l:rows2.length≤8:=by
    have e:=congrArg Fb hr2;rw[En,En]at e;omega
   refine⟨lL acc (aC rows2)::lL l1 [.ref tp1]::cR C.one c.e.f::(L,ab (nR "root" R.f::nR "told" to::RL))::lL to (aC rows)::(bU ((rows++[⟨tp1,c.e.at',c.e.tag,cH c.one⟩])++rows2)++aa),[("other",y)],Less.refl,?_⟩;refine bt (vs:=[.ref tp1]) (ws:=aC rows2) (by show"mem") (by show"mem") (ac (by rw[En];show 1+_≤1000;omega)) fun z=> ?_;show"w144@M69";refine mF (vs:=aC rows) (ws:=[.ref tp1]++aC rows2) (ac (by rw[En,EU,En];show _+(1+_)≤1000;omega)) (by show"upd") (by show"mem") ?_;show"w144@M69";rw[show aC rows++([AV.ref tp1]++aC rows2)=aC ((rows++[⟨tp1,c.e.at',c.e.tag,cH c.one⟩])++rows2)from by unfold aC;rw[Ez,Ez,EO];rfl];refine⟨rfl,cR C.one c.e.f::(L,ab (nR "root" R.f::nR "told" to::RL))::lL to (aC ((rows++[⟨tp1,c.e.at',c.e.tag,cH c.one⟩])++rows2))::(bU ((rows++[⟨tp1,c.e.at',c.e.tag,cH c.one⟩])++rows2)++aa),by show"less",some (.ref c.e.f),(rows++[⟨tp1,c.e.at',c.e.tag,cH c.one⟩])++rows2,?_,?_,rfl⟩
   ·rw[Ez,Ez,hrows,hr2,E5,hc,Ez,EO]
    show _=dM T n top ((chs.take i).map (·.one)++[c.one]);rw[lu];unfold m_;rw[←hgrp,FC];show _++([(c.e.tag,cH c.one)]++_)=_;rw[hok.tag];rfl
   ·intro r hr
    rcases E3.mp hr with hr|hr
    ·rcases E3.mp hr with hr|hr
     ·exact hd r hr
     ·obtain rfl:=ED.mp hr;exact hac
    ·exact hd2 r hr
 ·rintro o ⟨x,rows,hrows,hd,rfl⟩
  rw[En,En,EW,hones]at hrows;subst hq0;exact⟨rfl,x,rows,hrows,hd,Less.refl⟩
end
end
section
noncomputable def j3 (p:Params):Scope:=bS p 144 [25,1,1]
theorem zE (p:Params):(j3 p).kind = .function :=by kernel_rfl
theorem zF (p:Params):∀x∈(j3 p).names,x.2= .local ->(j3 p).names.lookup x.1=some .local :=aJ (by kernel_rfl)
theorem ka144x {L144x:Addr} {c144x:List (Str×Addr)}:KdA (aM (j3 p) (E4 p L C) L144x c144x) [("one",.local),("other",.local)]:=⟨by kernel_rfl,by kernel_rfl⟩
theorem gp.up {d':Nat} {e:El} {ts:List Str} (h:gp aa p d e ts) (hs:∀q∈aa,q∈ao) (hd:d≤d'):gp ao p d' e ts:=
 fun Γ o K h1 h2 h3 h4 h5=>h Γ o K h1 h2 (by omega) (fun q hq=>h4 q (hs q hq)) h5
noncomputable def oq (c:Ch):List Str:=c.e.tag::(c.gs.map fun q=>[q.2.tag]).flatten
noncomputable def md (R:El) (chs:List Ch):List Str:=R.tag::(chs.map oq).flatten
noncomputable def di (R:El) (chs:List Ch):List (El×List Str):=[(R,md R chs)]++chs.map (fun c=>(c.e,oq c))++chs.flatMap fun c=>c.gs.map fun q=>(q.2,[q.2.tag])
noncomputable def dE (p:El×List Str):List Str:=p.2++iB p.1.tail
theorem bK {f:α->List β}:∀{l:List α},(∀x∈l,(f x).length ≤b)->(l.flatMap f).length ≤b*l.length:=fun {z_}=>by
 induction z_ with
 |nil=>exact fun _=>ET _
 |cons x r ih=>
  intro h;have h1:=ih fun y hy=>h y (.tail _ hy);have h2:=h x (.head _);rw[Fu,EU,EK,Fe,F0];omega
theorem hY {f:α->List β} {l:List α} {x:α} (h:l[i]? =some x):(l.take (i+1)).flatMap f=(l.take i).flatMap f++f x:=by
 rw[E5,h,Fx];simp
theorem ot {f:α->List β} {l:List α} (i:Nat):((l.take i).flatMap f).length ≤(l.flatMap f).length :=by
 conv=>rhs;rw[←FX i l,Fx,EU]
 omega
theorem tj {R:El}:(di R chs).map (fun p=>AV.ref p.1.f)=[AV.ref R.f]++(chs.map fun c=>AV.ref c.e.f)++chs.flatMap fun c=>c.gs.map fun q=>AV.ref q.2.f :=by
 unfold di;rw[Ez,Ez,FC,IY]
 congr 1
 congr 1
 funext c
 rw[FC];rfl
theorem zG {els:List (El×List Str)} (h:((els.map fun p=>AV.ref p.1.f).map Item.one)[b]? =some it):∃p,it= .one (.ref p.1.f)∧els[b]? =some p:=by
 rw[Eu,Ew]at h;obtain⟨a,ha,rfl⟩:=h;rw[Eu,Ew]at ha;obtain⟨x,hx,rfl⟩:=ha;exact⟨x,rfl,hx⟩
noncomputable def gq (T:Nat->Nat->Bool) (n top one:Nat):List Str:=aD one::(ax T n top one n).map aD
noncomputable def j4 (T:Nat->Nat->Bool) (n top:Nat):List Str:=aD top::(az T top n).flatMap (gq T n top)
noncomputable def fj (T:Nat->Nat->Bool) (n top one:Nat):List Str:=(ax T n top one n).flatMap fun o=>[aD o,"!"]
noncomputable def j5 (T:Nat->Nat->Bool) (n top:Nat):List Str:=(az T top n).flatMap (fj T n top)
section
variable {R:El}
theorem me (hI:TreeIn w T n top R chs aa) {c:Ch} (hc:c∈chs):c.gs.length≤n:=by
 have e:=congrArg Fb (hI.ok.grp c hc);have:=bb (T:=T) (n:=n) (top:=top) (one:=c.one) (i:=n);rw[En]at e;omega
theorem pq (hI:TreeIn w T n top R chs aa):chs.length≤n:=by
 have e:=congrArg Fb hI.ok.ones;have:=bJ (T:=T) (top:=top) (i:=n);rw[En]at e;omega
theorem mf (hI:TreeIn w T n top R chs aa) {c:Ch} (hc:c∈chs):oq c=gq T n top c.one:=by
 have hk:=hI.ok.root.ch c hc;unfold oq gq;rw[←hI.ok.grp c hc,hk.tag,FC]
 congr 1
 have:∀l:List (Nat×El),(∀q∈l,q.2.tag =aD q.1)->(l.map fun q=>[q.2.tag]).flatten =l.map (aD∘fun q=>q.1):=by
  intro l;induction l with
  |nil=>intro _;rfl
  |cons q r ih=>
   intro h;rw[EQ,Gr,EQ,ih fun x hx=>h x (.tail _ hx),h q (.head _)];rfl
 exact this _ fun q hq=>(hk.gs q hq).1
theorem tm (hI:TreeIn w T n top R chs aa) {c:Ch} (hc:c∈chs):(oq c).length ≤n+1:=by
 rw[mf hI hc];unfold gq;rw[EK,En];have:=bb (T:=T) (n:=n) (top:=top) (one:=c.one) (i:=n);omega
theorem j6 (hI:TreeIn w T n top R chs aa) (f:Nat->List β):(az T top n).flatMap f=chs.flatMap fun c=>f c.one:=by
 rw[←hI.ok.ones,Hd]
theorem fg {f g:α->List β}:∀{l:List α},(∀x∈l,f x=g x)->l.flatMap f=l.flatMap g:=fun {z_}=>by
 induction z_ with
 |nil=>exact fun _=>rfl
 |cons x r ih=>intro h;rw[Fu,Fu,h x (.head _),ih fun y hy=>h y (.tail _ hy)]
theorem qB (hI:TreeIn w T n top R chs aa):md R chs=j4 T n top:=by
 unfold md j4;rw[hI.ok.root.tag,j6 hI,←List.flatMap_def]
 congr 1
 exact fg fun c hc=>mf hI hc
theorem pr (hI:TreeIn w T n top R chs aa):(di R chs).flatMap dE=j4 T n top++([(".":Str)]:List Str)++(az T top n).flatMap (gq T n top)++j5 T n top:=by
 unfold di;rw[Fx,Fx,Fu,GF,EV,Hd,List.flatMap_assoc]
 congr 1
 ·congr 1
  ·unfold dE
   rw[qB hI,hI.ok.root.tail];rfl
  ·rw[j6 hI]
   refine fg fun c hc=> ?_;unfold dE;rw[mf hI hc,(hI.ok.root.ch c hc).tail];exact EV _
 ·unfold j5
  rw[j6 hI];refine fg fun c hc=> ?_;unfold fj;rw[←hI.ok.grp c hc,Hd,Hd];refine fg fun q hq=> ?_;have hk:=(hI.ok.root.ch c hc).gs q hq;unfold dE;rw[hk.1,hk.2.1];rfl
theorem tu (hI:TreeIn w T n top R chs aa) (hn:n≤8):((di R chs).flatMap dE).length ≤600:=by
 rw[pr hI]
 have h1:((az T top n).flatMap (gq T n top)).length ≤9*(az T top n).length :=bK fun x _=>by
  unfold gq;rw[EK,En];have:=bb (T:=T) (n:=n) (top:=top) (one:=x) (i:=n);omega
 have h2:(j5 T n top).length ≤16*(az T top n).length :=bK fun x _=>by
  have h3:(fj T n top x).length ≤2*(ax T n top x n).length :=bK fun _ _=>EL _;have:=bb (T:=T) (n:=n) (top:=top) (one:=x) (i:=n);omega
 have h4:=bJ (T:=T) (top:=top) (i:=n);unfold j4;simp only[EU,EK,GX];omega
theorem zH (hI:TreeIn w T n top R chs aa) (hn:n≤8):∀p∈di R chs,HasE w.params aa p.1∧gp aa w.params 3 p.1 p.2∧sX p.1.tail :=by
 have hs:∀q∈aa,q∈aa:=fun _ h=>h
 have hg:∀c∈chs,∀q∈c.gs,gp aa w.params 1 q.2 [q.2.tag]:=fun c hc q hq=>
  jU (d:=0) (es:=[]) (tss:=[]) (hI.gs c hc q hq).1 (hI.gs c hc q hq).2.1 rfl (ET _) (fun i e' ts h=>by simp at h) (fun _ h=>nomatch h)
 have hcI:∀c∈chs,gp aa w.params 2 c.e (oq c):=fun c hc=>by
  have hgl:=me hI hc;refine jU (d:=1) (es:=c.gs.map (·.2)) (tss:=c.gs.map fun q=>[q.2.tag]) (hI.ch c hc).1 ?_ (by rw[En,En]) (by rw[En];omega) (fun i e' ts h1 h2=> ?_) (fun ts h=> ?_)
  ·have:=(hI.ch c hc).2.1
   show lL c.e.li ((c.gs.map (·.2)).map fun e=>AV.ref e.f)∈aa;rw[FC];exact this
  ·rw[Eu,Ew]at h1 h2
   obtain⟨q,hq,rfl⟩:=h1;obtain⟨q',hq',rfl⟩:=h2;rw[hq]at hq';cases hq';have hm:=EF hq;exact⟨(hI.gs c hc q hm).1,hg c hc q hm⟩
  ·obtain⟨q,_,rfl⟩:=EP.mp h
   exact Eo rfl
 have hRI:gp aa w.params 3 R (md R chs):=by
  have hcl:=pq hI;refine jU (d:=2) (es:=chs.map (·.e)) (tss:=chs.map oq) hI.root ?_ (by rw[En,En]) (by rw[En];omega) (fun i e' ts h1 h2=> ?_) (fun ts h=> ?_)
  ·have:=hI.li
   show lL R.li ((chs.map (·.e)).map fun e=>AV.ref e.f)∈aa;rw[FC];exact this
  ·rw[Eu,Ew]at h1 h2
   obtain⟨c,hc,rfl⟩:=h1;obtain⟨c',hc',rfl⟩:=h2;rw[hc]at hc';cases hc';have hm:=EF hc;exact⟨(hI.ch c hm).1,hcI c hm⟩
  ·obtain⟨c,hc,rfl⟩:=EP.mp h
   have:=tm hI hc;omega
 intro p hp;unfold di at hp;rcases E3.mp hp with hp|hp
 ·rcases E3.mp hp with hp|hp
  ·obtain rfl:=ED.mp hp
   exact⟨hI.root,hRI,.inr ⟨".",hI.ok.root.tail,by decide,by decide⟩⟩
  ·obtain⟨c,hc,rfl⟩:=EP.mp hp
   exact⟨(hI.ch c hc).1,(hcI c hc).up hs (by decide),.inl (hI.ok.root.ch c hc).tail⟩
 ·obtain⟨c,hc,hp⟩:=GD.mp hp
  obtain⟨q,hq,rfl⟩:=EP.mp hp;exact⟨(hI.gs c hc q hq).1,(hg c hc q hq).up hs (by decide),.inr ⟨"!",((hI.ok.root.ch c hc).gs q hq).2.1,by decide,by decide⟩⟩
end
section
variable {RL:Loc}
theorem vR {pl:Addr} {R:El} (hS:Std Γ) (hk:12<Γ.k) (hI:TreeIn Γ.w T n top R chs aa) (hn:n≤8):
 WX Γ (E4 Γ.w.params L C) (aY Γ.w.params 25) (cR C.pieces pl::(L,ab (nR "root" R.f::("element",u_element)::RL))::lL pl []::aa) fun f o=>f= .next ∧∃x,Less (cR C.pieces pl::(L,ab (nR "root" R.f::("element",x)::RL))::lL pl (cF (j4 T n top++([(".":Str)]:List Str)++(az T top n).flatMap (gq T n top)++j5 T n top))::aa) o:=by
 refine W.hide fun q0 hq0=> ?_;have hT:TopG Γ:=hS.T;have hcl:=pq hI;have hli:=hI.li;refine dp ?_;refine w_BinOp ?_;refine w_BinOp ?_;show"w144@M70";refine⟨ac (Eo rfl),fun z0=> ?_⟩;show"w144@M70";refine dZ (hI.root.up fun q hq=>by show"mem") ?_;refine bt (vs:=[.ref R.f]) (ws:=(chs.map fun c=>AV.ref c.e.f)) (.head _) (by show"mem") (ac (by rw[En];show 1+_≤1000;omega)) fun z1=> ?_;refine aL (cl:=[]) (loc:=[("one",none),("other",none)]) (by kernel_rfl) (zE Γ.w.params) (zF Γ.w.params) (by decide) (by simp) ?_;unfold bC;show"w144@M70";refine dZ (hI.root.up fun q hq=>by show"mem") ?_;refine⟨_,aW (vs:=(chs.map fun c=>AV.ref c.e.f)) (by show"mem") ?_⟩;intro acc L2 cs2 hcs2;rw[af (cs:=cs2) hcs2];show aR _ _ 0 acc (aM (j3 Γ.w.params) (E4 Γ.w.params L C) L2 []) _ _ _ ((L2,ab [("one",none),("other",none)])::lL acc []::lL z1 ([.ref R.f]++(chs.map fun c=>AV.ref c.e.f))::lL z0 [.ref R.f]::cR C.pieces pl::(L,ab (nR "root" R.f::("element",u_element)::RL))::lL pl (cF [])::aa) _;refine dk (fun a o'=>∃x y,o'=(L2,ab [("one",x),("other",y)])::lL acc ((chs.take a).flatMap (fun c:Ch=>c.gs.map fun q=>AV.ref q.2.f))::lL z1 ([.ref R.f]++(chs.map fun c=>AV.ref c.e.f))::lL z0 [.ref R.f]::cR C.pieces pl::(L,ab (nR "root" R.f::("element",u_element)::RL))::lL pl (cF [])::aa) rfl rfl (by intro _;kernel_rfl) ⟨none,none,rfl⟩ ?_ ?_ ?_
 ·rintro a o' ⟨x,y,rfl⟩;show"mem"
 ·rintro a J it o' h2 hit ⟨x,y,rfl⟩ hs2
  obtain⟨c,rfl,hc⟩:=td hit;have hcm:=EF hc;obtain⟨hEc,hlc,_⟩:=hI.ch c hcm;have hgl:=me hI hcm;show WAsg _ _ _ _ _ _;show"w144x";refine dZ (Γ:=Γ.at h2) (hEc.up fun q hq=>by show"mem") ?_;refine⟨_,aW (vs:=(c.gs.map fun q=>AV.ref q.2.f)) (by show"mem") ?_⟩;dsimp only[J];rw[hY hc]
  have hb:((chs.take a).flatMap (fun c:Ch=>c.gs.map fun q=>AV.ref q.2.f)).length ≤8*(chs.take a).length :=bK fun x hx=>by
   have:=me hI (F1 hx);rw[En];omega
  rw[EJ]at hb;generalize (chs.take a).flatMap (fun c:Ch=>c.gs.map fun q=>AV.ref q.2.f)=pre at*;refine aB (fun b o'=>∃y,o'=(L2,ab [nR "one" c.e.f,("other",y)])::lL acc (pre++(c.gs.map fun q=>AV.ref q.2.f).take b)::lL z1 ([.ref R.f]++(chs.map fun c=>AV.ref c.e.f))::lL z0 [.ref R.f]::cR C.pieces pl::(L,ab (nR "root" R.f::("element",u_element)::RL))::lL pl (cF [])::aa) rfl rfl ⟨y,by rw[F9,EV]⟩ ?_ ?_ ?_
  ·rintro b o' ⟨y,rfl⟩;show"mem"
  ·rintro b J it o' h3 hit3 ⟨y,rfl⟩ hs3
   obtain⟨q,rfl,hq⟩:=te hit3;show WAsg _ _ _ _ _ _;show"w144x";refine⟨_,_,_,.tail .head,ac (by rw[EU,EJ,En];omega),Less.refl,some (.ref q.2.f),?_⟩;rw[E5 (i:=b),Eu,hq,EO];rfl
  ·rintro o' ⟨y,rfl⟩
   rw[En,EW];exact⟨_,Less.refl,_,_,rfl⟩
 ·rintro o' ⟨x,y,rfl⟩
  rw[En,En,EW];refine⟨_,_,Less.refl,?_⟩
  have hb:(chs.flatMap (fun c:Ch=>c.gs.map fun q=>AV.ref q.2.f)).length ≤8*chs.length:=bK fun x hx=>by
   have:=me hI hx;rw[En];omega
  refine bt (vs:=[.ref R.f]++(chs.map fun c=>AV.ref c.e.f)) (ws:=chs.flatMap (fun c:Ch=>c.gs.map fun q=>AV.ref q.2.f)) (by show"mem") (by show"mem") (ac (by rw[EU,En];show 1+_+_≤1000;omega)) fun z2=> ?_;rw[←tj];refine⟨_,eD.less (aW (vs:=((di R chs).map fun p=>AV.ref p.1.f)) (.head _) ⟨lL z2 ((di R chs).map fun p=>AV.ref p.1.f)::cR C.pieces pl::(L,ab (nR "root" R.f::("element",u_element)::RL))::lL pl (cF [])::aa,by show"less",fun i o=>∃x,o=lL z2 ((di R chs).map fun p=>AV.ref p.1.f)::cR C.pieces pl::(L,ab (nR "root" R.f::("element",x)::RL))::lL pl (cF (((di R chs).take i).flatMap dE))::aa,⟨_,rfl⟩,?_,?_,?_⟩)⟩
  ·rintro i o ⟨x,rfl⟩;exact .head _
  ·rintro i J it o h' hit ⟨x,rfl⟩ hs
   have hS2:Std (Γ.at h'):=hS.at hs;have hT2:TopG (Γ.at h'):=hS2.T;obtain⟨e,rfl,he⟩:=zG hit;obtain⟨g1,g2,g3⟩:=zH hI hn e (EF he);have hlen:=Ep (ot (f:=dE) (l:=di R chs) (i+1)) (tu hI hn);rw[hY he,EU]at hlen;have hlen2:(dE e).length =e.2.length +(iB e.1.tail).length :=EU;show WAsg _ _ _ _ _ _;show"w144@M70";refine b7 (c:=143) (P:=141) (q:="law.<locals>.<lambda>") hT2 (hS2.mem _ (by show"mem")) (hS2.uniq (by show"mem")) (by kernel_rfl) (by kernel_rfl) (by kernel_rfl) (by kernel_rfl) (clos:=[("pieces",C.pieces)]) (by kernel_rfl) fun f pm c' aq=> ?_;show WArgs _ _ _ _ ((f,bg (eE Γ.w.params C.pieces pm c' aq))::_) _;refine W.sub (ao:=lL pl (cF (((di R chs).take i).flatMap dE))::(f,bg (eE Γ.w.params C.pieces pm c' aq))::lL z2 ((di R chs).map fun p=>AV.ref p.1.f)::cR C.pieces pl::(L,ab (nR "root" R.f::nR "element" e.1.f ::RL))::aa) (by show"less") ?_;show"w144@M70";refine⟨am (wT _) hT2,?_⟩;refine C6 (e:=e.1) (ts:=e.2) (d:=3) hS2 (show 3+3<Γ.k by omega) (g1.up fun q hq=>by show"mem") (g2.up (fun q hq=>by show"mem") (EL _)) g3 (by show"mem") (by omega) ?_;rw[show cF (((di R chs).take i).flatMap dE++e.2++iB e.1.tail)=cF (((di R chs).take (i+1)).flatMap dE)from by rw[hY he,EO];rfl];show"w144@M70";exact⟨rfl,lL z2 ((di R chs).map fun p=>AV.ref p.1.f)::cR C.pieces pl::(L,ab (nR "root" R.f::nR "element" e.1.f ::RL))::lL pl (cF (((di R chs).take (i+1)).flatMap dE))::aa,by show"less",_,rfl⟩
  ·rintro o ⟨x,rfl⟩
   rw[En,En,EW,pr hI];subst hq0;exact⟨rfl,x,by show"less"⟩
end
end
section
noncomputable def j7 (p:Params):Scope:=bS p 144 [26,0]
theorem zI (p:Params):(j7 p).kind = .function :=by kernel_rfl
theorem zJ (p:Params):∀x∈(j7 p).names,x.2= .local ->(j7 p).names.lookup x.1=some .local :=aJ (by kernel_rfl)
theorem ka144y {L144y:Addr} {c144y:List (Str×Addr)}:KdA (aM (j7 p) (E4 p L C) L144y c144y) [("tag",.local),("attrib",.local)]:=⟨by kernel_rfl,by kernel_rfl⟩
noncomputable def j8 (p:Params):Scope:=bS p 144 [27,0]
theorem zK (p:Params):(j8 p).kind = .function :=by kernel_rfl
theorem zL (p:Params):∀x∈(j8 p).names,x.2= .local ->(j8 p).names.lookup x.1=some .local :=aJ (by kernel_rfl)
theorem ka144z {L144z:Addr} {c144z:List (Str×Addr)}:KdA (aM (j8 p) (E4 p L C) L144z c144z) [("group",.local),("other",.local),("part",.local)]:=⟨by kernel_rfl,by kernel_rfl⟩
section
theorem qC {it:Addr}:Itr Γ tgt (.ref it) (vs.map .one) (fun o=>(l,bV vs)∈o) [it] (fun i h=>h.IsTupleIter it l i) where
 frame:=fun i h h' hJ hk=>Exists.elim hJ fun o y=>⟨o,hk it (.head _) o y.1,y.2⟩
 again:=fun A s aa Q hR hJ hQ=>wpAny_pyIter_tupleiter hJ hQ
 item:=fun A s i itm aa Q hA hR hn hap hJ hi hQ=>by
  obtain⟨items,n,ho,hvs⟩:=bV.get hR hn;rw[Eu,Ew]at hi;obtain⟨a,ha,rfl⟩:=hi;obtain⟨v,hv,hr⟩:=hvs.get ha;refine wpAny_pyNext_tuple_item hJ ⟨_,ho,rfl,n,rfl⟩ (x:=v) (by simpa using hv) fun h' hit' hs'=>⟨v,rfl,?_⟩;have hit:it∈[it]:=ED.mpr rfl;have hit2:=hit';obtain⟨oi,ei,eic,_⟩:=hit2;refine d9 ei eic (by decide) ?_;refine hQ v aa _ (.one hr) (hR.other (t:=s.toks) (hap.key it hit) (hap.tab it hit) (hap.old it hit) (fun q x=> ?_) hs'.extBut) hit' ⟨hap.key,hap.tab,hap.old,fun b hb=> ?_⟩
  ·obtain⟨o,e1,_,e3⟩:=hJ
   obtain⟨c,o',vs',t,r1,r2,r3,r4⟩:=x;cases r1;rw[e1]at r2;cases r2;rw[e3]at r3;cases r3;simp at r4
  ·rw[ED.mp hb]
   obtain⟨o,e,_⟩:=hit';exact⟨o,e⟩
 stop:=fun A s i aa Q hA hR hn hap hJ hi hQ=>by
  obtain⟨items,n,ho,hvs⟩:=bV.get hR hn;have hit:it∈[it]:=ED.mpr rfl;refine wpAny_pyNext_tuple_end hA.1 hJ ⟨_,ho,rfl,n,rfl⟩ ?_ fun h' hx=> ?_
  ·have:vs.length≤i:=by simpa using hi
   have e:=hvs.length;simp only[E0]at e;simp;omega
  ·refine hQ _ (hR.other (t:=s.toks) (hap.key it hit) (hap.tab it hit) (hap.old it hit) (fun q x=> ?_) hx)
   obtain⟨o,e1,_,e3⟩:=hJ;obtain⟨c,o',vs',t,r1,r2,r3,r4⟩:=x;cases r1;rw[e1]at r2;cases r2;rw[e3]at r3;cases r3;simp at r4
theorem tv {K:(Led->Prop)->Led->Prop} (hm:(l,bV vs)∈aa) (h:K (fun o=>(l,bV vs)∈o) aa):eD Γ tgt (.ref l) aa (vs.map .one) K:=by
 intro v hv;cases hv;intro A s hA hR;obtain⟨items,n,ho,hvs⟩:=bV.get hR hm;refine wpAny_pyIter_tuple ⟨_,ho,rfl,n,rfl⟩ ?_;refine⟨_,[s.heap.objs.size],_,aa,qC,hR.grow (t:=s.toks) (fun _ _ e=>Heap.get?_push_of_some _ e),⟨_,Heap.get?_push_size _ rfl,rfl,rfl⟩,Apart.fresh hR (fun b hb=> ?_) (fun b hb=> ?_),h⟩
 ·rw[ED.mp hb];exact EL _
 ·rw[ED.mp hb];exact⟨_,Heap.get?_push_size _ rfl⟩
end
theorem vS (h:((aC rows).map Item.one)[b]? =some it):∃r,it= .one (.ref r.tp)∧rows[b]? =some r:=by
 rw[Eu,Ew]at h;obtain⟨a,ha,rfl⟩:=h;rw[Eu,Ew]at ha;obtain⟨x,hx,rfl⟩:=ha;exact⟨x,rfl,hx⟩
section
variable {RL:Loc}
theorem vT {du:Addr} (hdu:lL du (aC rows)∈aa) (hrw:∀r∈rows,(r.tp,bV [.str r.tag,.ref r.d])∈aa) (hz:rows.length≤100):
 WX Γ (E4 Γ.w.params L C) (aY Γ.w.params 26) ((L,ab (("groups",u_groups)::nR "due" du::("tags",u_tags)::("ends",u_ends)::RL))::aa) fun f o=>f= .next ∧∃tg,Less ((L,ab (("groups",u_groups)::nR "due" du::nR "tags" tg::("ends",u_ends)::RL))::lL tg (cF (rows.map (·.tag)))::aa) o:=by
 refine W.hide fun q0 hq0=> ?_;refine bq (cl:=[]) (loc:=[("tag",none),("attrib",none)]) (by kernel_rfl) (zI Γ.w.params) (zJ Γ.w.params) (by decide) (by simp) ?_ (by kernel_rfl);unfold bC;show"w144@M71";refine⟨_,aW (vs:=aC rows) (by show"mem") ?_⟩;intro acc L2 cs2 hcs2;rw[af (cs:=cs2) hcs2];show aR _ _ 0 acc (aM (j7 Γ.w.params) (E4 Γ.w.params L C) L2 []) _ _ _ ((L2,ab [("tag",none),("attrib",none)])::lL acc []::(L,ab (("groups",u_groups)::nR "due" du::("tags",u_tags)::("ends",u_ends)::RL))::aa) _;refine aB (fun i o=>∃x y,o=(L2,ab [("tag",x),("attrib",y)])::lL acc (cF ((rows.map (·.tag)).take i))::(L,ab (("groups",u_groups)::nR "due" du::("tags",u_tags)::("ends",u_ends)::RL))::aa) rfl rfl ⟨none,none,rfl⟩ ?_ ?_ ?_
 ·rintro i o ⟨x,y,rfl⟩;show"mem"
 ·rintro i J it o h' hit ⟨x,y,rfl⟩ hs
  obtain⟨r,rfl,hr⟩:=vS hit;have htp:=hrw r (EF hr);show WAsg _ _ _ _ _ _;refine aI (as:=[.str r.tag,.ref r.d]) (by show"mem") rfl ?_;show"w144y";refine⟨_,_,_,.tail .head,ac (by rw[En,EJ,En];omega),Less.refl,some (.str r.tag),some (.ref r.d),?_⟩;rw[gf (x:=r.tag) (by rw[Eu,hr];rfl)]
 ·rintro o ⟨x,y,rfl⟩
  rw[En,En,show rows.length=(rows.map (·.tag)).length from(En ..).symm,EW];refine⟨lL acc (cF (rows.map (·.tag)))::(L,ab (("groups",u_groups)::nR "due" du::("tags",u_tags)::("ends",u_ends)::RL))::aa,[("tag",x),("attrib",y)],Less.refl,?_⟩;show"w144@M71";subst hq0;exact⟨_,_,Less.refl,rfl,acc,by show"less"⟩
theorem vU {gr:Addr} (hn:n≤8) (hgr:lL gr (gs.map fun q=>AV.ref q.1)∈aa) (hgs:∀q∈gs,lL q.1 (ae (q.2::ax T n top q.2 n))∈aa) (hgl:gs.length≤8):
 WX Γ (E4 Γ.w.params L C) (aY Γ.w.params 27) ((L,ab (nR "groups" gr::("due",u_due)::("tags",u_tags)::("ends",u_ends)::RL))::aa) fun f o=>f= .next ∧∃en,Less ((L,ab (nR "groups" gr::("due",u_due)::("tags",u_tags)::nR "ends" en::RL))::lL en (cF ((gs.map (·.2)).flatMap (fj T n top)))::aa) o:=by
 refine W.hide fun q0 hq0=> ?_;refine bq (cl:=[]) (loc:=[("group",none),("other",none),("part",none)]) (by kernel_rfl) (zK Γ.w.params) (zL Γ.w.params) (by decide) (by simp) ?_ (by kernel_rfl);unfold bC;show"w144@M71";refine⟨_,aW (vs:=gs.map fun q=>AV.ref q.1) (by show"mem") ?_⟩;intro acc L2 cs2 hcs2;rw[af (cs:=cs2) hcs2];show aR _ _ 0 acc (aM (j8 Γ.w.params) (E4 Γ.w.params L C) L2 []) _ _ _ ((L2,ab [("group",none),("other",none),("part",none)])::lL acc []::(L,ab (nR "groups" gr::("due",u_due)::("tags",u_tags)::("ends",u_ends)::RL))::aa) _;refine dk (fun i o=>∃x y z,o=(L2,ab [("group",x),("other",y),("part",z)])::lL acc (cF (((gs.map (·.2)).take i).flatMap (fj T n top)))::(L,ab (nR "groups" gr::("due",u_due)::("tags",u_tags)::("ends",u_ends)::RL))::aa) rfl rfl (by intro _;kernel_rfl) ⟨none,none,none,rfl⟩ ?_ ?_ ?_
 ·rintro i o ⟨x,y,z,rfl⟩;show"mem"
 ·rintro i J it o h' hit ⟨x,y,z,rfl⟩ hs
  obtain⟨q,rfl,hq⟩:=w9 hit;have hql:=hgs q (EF hq);have hgl2:=bb (T:=T) (n:=n) (top:=top) (one:=q.2) (i:=n);have hglt:∀x∈ax T n top q.2 n,x<n:=fun x hx=>EM.mp (Go.mp hx).1;show WAsg _ _ _ _ _ _;show"w144z";refine⟨(by show(0:Int)≤1;decide),trivial,q.1,ae (q.2::ax T n top q.2 n),rfl,by show"mem",ac (by rw[aj,EK];omega),fun r=> ?_⟩;rw[show sliceL (ae (q.2::ax T n top q.2 n)) (some (1:Int)) none=ae (ax T n top q.2 n)from rfl];refine⟨_,aW (vs:=ae (ax T n top q.2 n)) (.head _) ?_⟩;dsimp only[J];rw[hY (f:=fj T n top) (x:=q.2) (by rw[Eu,hq];rfl)]
  have hb:(((gs.map (·.2)).take i).flatMap (fj T n top)).length ≤16*((gs.map (·.2)).take i).length :=bK fun x _=>by
   have h3:(fj T n top x).length ≤2*(ax T n top x n).length :=bK fun _ _=>EL _;have:=bb (T:=T) (n:=n) (top:=top) (one:=x) (i:=n);omega
  rw[EJ,En]at hb;generalize ((gs.map (·.2)).take i).flatMap (fj T n top)=pre at*;unfold fj;refine dk (fun j o=>∃y z,o=lL r (ae (ax T n top q.2 n))::(L2,ab [nR "group" q.1,("other",y),("part",z)])::lL acc (cF (pre++((ax T n top q.2 n).take j).flatMap (fun o=>([aD o,("!":Str)]:List Str))))::(L,ab (nR "groups" gr::("due",u_due)::("tags",u_tags)::("ends",u_ends)::RL))::aa) rfl rfl (by intro _;kernel_rfl) ⟨y,z,by rw[F9,GF,EV]⟩ ?_ ?_ ?_
  ·rintro j o ⟨y,z,rfl⟩;show"mem"
  ·rintro j J it o h2 hit2 ⟨y,z,rfl⟩ hs2
   obtain⟨o,rfl,ho⟩:=eh hit2;have hon:o<n:=hglt o (EF ho);show WAsg _ _ _ _ _ _;show"w144z";refine gg (by omega) ?_;show"w144z";refine⟨ac (Eo rfl),fun tp=> ?_⟩;refine⟨_,tv (vs:=cF [aD o,"!"]) (.head _) ?_⟩;dsimp only[J];rw[hY (f:=(fun o=>([aD o,("!":Str)]:List Str))) ho,←EO];have hb2:(((ax T n top q.2 n).take j).flatMap (fun o=>([aD o,("!":Str)]:List Str))).length ≤2*((ax T n top q.2 n).take j).length :=bK fun _ _=>EL _;rw[EJ]at hb2;generalize hpre2:pre++((ax T n top q.2 n).take j).flatMap (fun o=>([aD o,("!":Str)]:List Str))=pre2 at*;have hp2:pre2.length≤300:=by rw[←hpre2,EU];omega
   refine aB (fun k q2=>∃z,q2=(tp,bV (cF [aD o,"!"]))::lL r (ae (ax T n top q.2 n))::(L2,ab [nR "group" q.1,nI "other" (o:Nat),("part",z)])::lL acc (cF pre2++cF ([aD o,("!":Str)].take k))::(L,ab (nR "groups" gr::("due",u_due)::("tags",u_tags)::("ends",u_ends)::RL))::aa) rfl rfl ⟨z,by rw[F9];show _=_::_::_::lL acc (cF pre2++[])::_;rw[EV];rfl⟩ ?_ ?_ ?_
   ·rintro k q2 ⟨z,rfl⟩;show"mem"
   ·rintro k J it q2 h3 hit3 ⟨z,rfl⟩ hs3
    obtain⟨x3,rfl,hx3⟩:=l7 hit3;show WAsg _ _ _ _ _ _;show"w144z";refine⟨_,_,_,by show"upd",ac (by rw[EU,En,En,EJ,EK,EK,GX];omega),Less.refl,some (.str x3),?_⟩;rw[gf hx3,EO]
   ·rintro q2 ⟨z,rfl⟩
    rw[En,En,EW,eo];exact⟨_,Less.skip Less.refl,_,_,rfl⟩
  ·rintro o ⟨y,z,rfl⟩
   rw[En,aj,EW];exact⟨_,Less.skip Less.refl,_,_,_,rfl⟩
 ·rintro o ⟨x,y,z,rfl⟩
  rw[En,En,show gs.length=(gs.map (·.2)).length from(En ..).symm,EW];refine⟨lL acc (cF ((gs.map (·.2)).flatMap (fj T n top)))::(L,ab (nR "groups" gr::("due",u_due)::("tags",u_tags)::("ends",u_ends)::RL))::aa,[("group",x),("other",y),("part",z)],Less.refl,?_⟩;show"w144@M71";subst hq0;exact⟨_,_,Less.refl,rfl,acc,by show"less"⟩
end
end
section
noncomputable def dN (l:List (Str×AV)):Prop:=∀x∈l,(∃k:Int,x.2= .int k)∨∃s:Str,x.2= .str s
theorem dN.same {l:List (Str×AV)} (h:dN l):∀x∈l,dh n Γ aa x.2 x.2:=fun x hx=>by
 rcases h x hx with⟨k,e⟩|⟨s,e⟩
 ·rw[e];exact dh.int k
 ·rw[e];exact dh.str s
theorem nc:dN kvTop:=fun x hx=>by
 obtain rfl:=ED.mp hx;exact .inr ⟨_,rfl⟩
theorem ou:dN (cH k):=fun x hx=>by
 obtain rfl:=ED.mp hx;exact .inl ⟨_,rfl⟩
theorem oz:dN (fe k):=fun x hx=>by
 rcases EG.mp hx with rfl|hx
 ·exact .inr ⟨_,rfl⟩
 ·obtain rfl:=ED.mp hx;exact .inl ⟨_,rfl⟩
theorem qD {rows2:List Rw} {sp:List (Str×List (Str×AV))} (h1:rows.map Rw.sp=sp) (h2:rows2.map Rw.sp=sp) (hp:∀p∈sp,dN p.2) (t1:∀r∈rows,(r.tp,bV [.str r.tag,.ref r.d])∈aa∧(r.d,bj Γ.w r.d r.kvs)∈aa) (t2:∀r∈rows2,(r.tp,bV [.str r.tag,.ref r.d])∈aa∧(r.d,bj Γ.w r.d r.kvs)∈aa):
 ∀(i:Nat) (x y:AV),(aC rows)[i]? =some x->(aC rows2)[i]? =some y->cr 2 Γ aa x y:=by
 intro i x y hx hy;rw[Eu,Ew]at hx hy;obtain⟨r,hr,rfl⟩:=hx;obtain⟨q,hq,rfl⟩:=hy;have e1:sp[i]? =some r.sp:=by rw[←h1,Eu,hr];rfl
 have e2:sp[i]? =some q.sp:=by rw[←h2,Eu,hq];rfl
 have e3:r.sp=q.sp:=Option.some.inj (e1.symm.trans e2);have e4:r.tag=q.tag:=congrArg Prod.fst e3;have e5:r.kvs=q.kvs:=congrArg Prod.snd e3;have hpl:dN r.kvs:=hp _ (EF e1);obtain⟨a1,a2⟩:=t1 r (EF hr);obtain⟨b1,b2⟩:=t2 q (EF hq);rw[←e4]at b1;rw[←e5]at b2;refine cr.tuple (n:=1) a1 b1 rfl fun j u v hu hv=> ?_
 match j,hu,hv with
 |0,hu,hv=>cases hu;cases hv;exact cr.of (dh.str _)
 |1,hu,hv=>cases hu;cases hv;exact cr.dict (n:=0) a2 b2 hpl.same
 |j+2,hu,_=>cases hu
theorem qE {ts:List Str}:∀(i:Nat) (x y:AV),(cF ts)[i]? =some x->(cF ts)[i]? =some y->cr 0 Γ aa x y:=by
 intro i x y hx hy;rw[hx]at hy;cases hy;rw[Eu,Ew]at hx;obtain⟨r,_,rfl⟩:=hx;exact cr.of (dh.str _)
section
variable {RL:Loc}
theorem vV {du to pl tg en pd gd:Addr} {rows2:List Rw} {sp:List (Str×List (Str×AV))} {ts es:List Str} (hT:TopG Γ) (hn:n≤8) (hsp:sp.length=n) (h1:rows.map Rw.sp=sp) (h2:rows2.map Rw.sp=sp) (hp:∀p∈sp,dN p.2) (hdu:lL du (aC rows)∈aa) (t1:∀r∈rows,(r.tp,bV [.str r.tag,.ref r.d])∈aa∧(r.d,bj Γ.w r.d r.kvs)∈aa) (hto:lL to (aC rows2)∈aa) (t2:∀r∈rows2,(r.tp,bV [.str r.tag,.ref r.d])∈aa∧(r.d,bj Γ.w r.d r.kvs)∈aa) (htg:lL tg (cF ts)∈aa) (hen:lL en (cF es)∈aa) (hpl:lL pl (cF (ts++[(".":Str)]++ts.drop 1++es))∈aa) (hts:ts.length≤100) (hes:es.length≤300) (hpd:(pd,bj Γ.w pd [])∈aa) (hgd:(gd,bj Γ.w gd [("tail",.str "?")])∈aa):
 WX Γ (E4 Γ.w.params L C) (aY Γ.w.params 28) (cR C.pieces pl::cI C.count n::(L,ab (nR "plain" pd::nR "given" gd::nR "due" du::nR "told" to::nR "tags" tg::nR "ends" en::RL))::aa) fun f o=>f= .next ∧Less (cR C.pieces pl::cI C.count n::(L,ab (nR "plain" pd::nR "given" gd::nR "due" du::nR "told" to::nR "tags" tg::nR "ends" en::RL))::aa) o:=by
 refine W.hide fun q0 hq0=> ?_;have l1:rows.length=n:=by have e:=congrArg Fb h1;rw[En]at e;omega
 have l2:rows2.length=n:=by have e:=congrArg Fb h2;rw[En]at e;omega
 refine x_If ?_;refine t_BoolOp (t_Or_cons ?_);show"w144@M72";refine eI (vs:=aC rows) (by show"mem") (ac (by rw[En];omega)) ?_;show"w144@M72";rw[En,l1,show((n:Int)!=(n:Int))=false from by simp];show"w144@M72";refine e_ (n:=2) (vs:=aC rows2) (ws:=aC rows) (by show"mem") (by show"mem") (by rw[En,En];omega) (by decide) (qD h2 h1 hp (fun r hr=>⟨by have:=(t2 r hr).1;show"mem",by have:=(t2 r hr).2;show"mem"⟩) fun r hr=>⟨by have:=(t1 r hr).1;show"mem",by have:=(t1 r hr).2;show"mem"⟩) ?_;show"w144@M72";refine⟨ac (Eo rfl),fun z0=> ?_⟩;refine bt (vs:=cF ts) (ws:=[.str "."]) (by show"mem") (by show"mem") (ac (by rw[En];show _+1≤1000;omega)) fun z1=> ?_;show"w144@M72";refine⟨(by show(0:Int)≤1;decide),trivial,tg,cF ts,rfl,by show"mem",ac (by rw[En];omega),fun r=> ?_⟩;rw[show sliceL (cF ts) (some (1:Int)) none=cF (ts.drop 1)from(Hv ..).symm];refine bt (vs:=cF ts++[.str "."]) (ws:=cF (ts.drop 1)) (by show"mem") (by show"mem") (ac (by rw[EU,En,En,Fp];show _+1+_≤1000;omega)) fun z2=> ?_;show"w144@M72";refine bt (vs:=cF ts++[.str "."]++cF (ts.drop 1)) (ws:=cF es) (by show"mem") (by show"mem") (ac (by rw[EU,EU,En,En,En,Fp];show _+1+_+_≤1000;omega)) fun z3=> ?_;rw[show cF ts++[AV.str "."]++cF (ts.drop 1)++cF es=cF (ts++[(".":Str)]++ts.drop 1++es)from by rw[←eo,←eo,←eo];rfl];refine e_ (n:=0) (vs:=cF (ts++[(".":Str)]++ts.drop 1++es)) (ws:=cF (ts++[(".":Str)]++ts.drop 1++es)) (by show"mem") (.head _) rfl (by decide) qE ?_;show"w144@M72";refine⟨ac (Eo rfl),fun z4=> ?_⟩;refine w_List ?_;refine a_cons ?_
 with_reducible_and_instances refine pg hT fun e0=> ?_
 refine a_cons ?_
 with_reducible_and_instances refine iA hT fun e1=> ?_
 show"w144@M72";refine⟨(by show(["tail"]:List Str).Nodup;decide),_,.head,?_⟩;show"w144@M72";refine⟨ac (Eo rfl),fun z5=> ?_⟩;refine e_ (n:=1) (vs:=[.ref pd,.ref gd]) (ws:=[.ref e0,.ref e1]) (by show"mem") (.head _) rfl (by decide) (fun j u v hu hv=> ?_) ?_
 ·match j,hu,hv with
  |0,hu,hv=>cases hu;cases hv;exact cr.dict (n:=0) (kvs:=[]) (by show"mem") (by show"mem") fun _ h=>nomatch h
  |1,hu,hv=>cases hu;cases hv;exact cr.dict (n:=0) (kvs:=[("tail",.str "?")]) (by show"mem") (by show"mem") fun x hx=>by obtain rfl:=ED.mp hx;exact dh.str _
  |j+2,hu,_=>cases hu
 show"w144@M72";subst hq0;refine⟨rfl,?_⟩;show"less"
end
end
section
noncomputable def j9 (p:Params) (c_scores:Addr) (pm:Value) (c':Addr) (aq:Value):Obj:=kla_obj "<lambda>" "law.<locals>.<lambda>" (bi p 144 [30,2,0,3]).args (bi p 144 [30,2,0,3]).expr (bS p 144 [30,2,0,3]) [("scores",c_scores)] pm c' aq
noncomputable def gG (p:Params) (c_scores:Addr) (pm:Value) (c':Addr) (aq:Value):FuncData:=gl (j9 p c_scores pm c' aq)
theorem pt:(j9 p c_scores pm c' aq).data = .func (gG p c_scores pm c' aq):=rfl
theorem vW:(gG p c_scores pm c' aq).body = .expr (bi p 144 [30,2,0,3]).expr :=rfl
theorem ka144q:KdA (ah (gG p c_scores pm c' aq) f L cs) [("other",.local),("scores",.free)]:=⟨by kernel_rfl,by kernel_rfl⟩
theorem zM:(([("other",none)]:Loc).map (·.1)).Nodup :=by decide
theorem zN:∀p∈([("other",none)]:Loc),p.2=none:=bF rfl
theorem zO {a_other:AV} {K:List (Str×AV)->Led->Prop} (h:K [("other",a_other)] aa):WB Γ (gG p c_scores pm c' aq) [a_other] [] aa K:=by
 exact WB.q1 (fun _=>by kernel_rfl) .nil h
theorem vX {a_other:AV} (hT:TopG Γ) (hk:0<Γ.k) (hm:(f,bg (j9 Γ.w.params c_scores pm c' aq))∈aa) (h:∀L,WE Γ.dn (ah (gG Γ.w.params c_scores pm c' aq) f L [("scores",c_scores)]) (bi Γ.w.params 144 [30,2,0,3]).expr ((L,ab [("other",some a_other)])::aa) fun a o2=>∃o3,Less o3 o2∧K a o3):ai Γ (.ref f) [a_other] [] aa K:=by
 refine cZ hk hT (cM hm pt) vW zM zN (zO fun L cs hcs=> ?_) (by kernel_rfl) (by kernel_rfl);rw[af (cs:=cs) hcs];show WBinds _ (ah (gG Γ.w.params c_scores pm c' aq) f L [("scores",c_scores)]) _ ((L,ab _)::aa) fun o1=>WE _ (ah (gG Γ.w.params c_scores pm c' aq) f L [("scores",c_scores)]) _ o1 _;refine st_local (ka144q.at 0 (by kernel_rfl)) lf (by show"upd") (by show"put") ?_;exact h L
theorem vY {sc:Addr} (hT0:TopG Γ) (hn:n≤20) (h1:cR c_scores sc∈aa) (h2:lL sc (ae (aK T n n))∈aa):
 bn 1 Γ (.ref f) (gV n) (qT (score T n)) (fun _ o=>o=(f,bg (j9 Γ.w.params c_scores pm c' aq))::aa):=by
 rintro h' hs c o rfl;refine⟨aV (.head _) pt,fun hc a ha=> ?_⟩;obtain⟨other,hother,rfl⟩:=ha;have hT1:TopG (Γ.to h' 1):=hT0.to hs;refine vX hT1 (Fy 0) (.head _) fun L=> ?_;have hT:TopG (Γ.to h' 1).dn :=hT1.dn;clear hT1;refine w_Subscript ?_;show"w144q";refine ar (vs:=ae (aK T n n)) (.tail _ (.tail _ h2)) (Er _) (by omega) (by rw[Es];exact cm (dq hother)) ?_;exact⟨_,Less.skip Less.refl,by simp[qT],rfl⟩
theorem vZ:∀n:Nat,n<9->Builtin.Range.small ((n:Int)-1) (-1) (-1)=true∧Builtin.Range.rangeSize ((n:Int)-1) (-1) (-1)=(n:Int)∧Builtin.divisionGoesByPylong (-1-((n:Int)-1)) (-1)=false:=by decide+kernel
theorem v0 (h:((dr ((n:Int)-1) (-1) n).map Item.one)[i]? =some it):i<n∧it= .one (.int ((n-1-i:Nat):Int)):=by
 rw[Eu,Ew]at h;obtain⟨av,hav,rfl⟩:=h;unfold dr at hav;rw[Eu,Ew]at hav;obtain⟨j,hj,rfl⟩:=hav
 have hlt:i<n:=by
  have:=(EB.mp hj).1;simpa using this
 rw[FL hlt]at hj;cases hj;refine⟨hlt,?_⟩;rw[show(n:Int)-1+ -1*(i:Int)=((n-1-i:Nat):Int)from by omega]
theorem qF (n:Nat):((Et n).map fun j=>n-1-j).Perm (Et n):=by
 have e:(Et n).map (fun j=>n-1-j)=(Et n).reverse :=by
  refine HL (by simp) fun i h1 h2=> ?_;simp
 rw[e];exact List.reverse_perm _
section
variable {RL:Loc}
theorem v7:WX Γ (E4 Γ.w.params L C) (aY Γ.w.params 29) (cO C.back u_back::(L,ab (RL))::aa) fun f o=>f= .next ∧∃ba,Less (cR C.back ba::(L,ab (RL))::lL ba []::aa) o:=by
 refine W.hide fun q0 hq0=> ?_;refine x_Assign_Name ?_;show"w144@M73";refine⟨ac (Eo rfl),fun ba=> ?_⟩;show"w144@M73";subst hq0;refine⟨rfl,ba,?_⟩;show"less"
theorem v8 {sc ba:Addr} (hS:Std Γ) (hk:60<Γ.k) (hn:n≤8) (hsc:lL sc (ae (aK T n n))∈aa):
 WX Γ (E4 Γ.w.params L C) (aY Γ.w.params 30) (cR C.scores sc::cR C.back ba::cO C.one u_one::cI C.count n::(L,ab (RL))::lL ba []::aa) fun f o=>f= .next ∧∃x1 bk,bk.Perm (Et n)∧bk.Pairwise (cg (score T n))∧Less (cR C.scores sc::cR C.back ba::cO C.one x1::cI C.count n::(L,ab (RL))::lL ba (ae bk)::aa) o:=by
 refine W.hide fun q0 hq0=> ?_;have hT:TopG Γ:=hS.T;obtain⟨r1,r2,r3⟩:=vZ n (by omega);refine dp ?_;show"w144@M73";refine rh (by decide) r3 fun rg=> ?_;refine⟨_,eD.less (mw (a:=(n:Int)-1) (b:= -1) (c:= -1) (n:=n) (.head _) r1 r2 ⟨_,Less.skip Less.refl,fun i o=>∃x1 bk,bk.Perm ((Et i).map fun j=>n-1-j)∧bk.Pairwise (cg (score T n))∧o=cR C.scores sc::cR C.back ba::cO C.one x1::cI C.count n::(L,ab (RL))::lL ba (ae bk)::aa,⟨_,[],.nil,.nil,rfl⟩,fun _ _ _=>trivial,?_,?_⟩)⟩
 ·rintro i J it o h' hit ⟨x1,bk,hperm,hpw,rfl⟩ hs
  have hS2:Std (Γ.at h'):=hS.at hs;have hT2:TopG (Γ.at h'):=hS2.T;obtain⟨hin,rfl⟩:=v0 hit;have hbl:bk.length=i:=by have:=hperm.length_eq;rwa [En,EN]at this
  have hlt:∀x∈bk,n-1-i<x∧x<n:=fun x hx=>by
   obtain⟨j,hj,rfl⟩:=EP.mp (hperm.mem_iff.mp hx);have:=EM.mp hj;omega
  have hst:=cT (fun j=> !decide (((score T n (bk.getD j 0):Nat):Int)<((score T n (n-1-i):Nat):Int))) 0 bk.length;show WAsg _ _ _ _ _ _;show"w144@M73";refine b7 (c:=143) (P:=141) (q:="law.<locals>.<lambda>") hT2 (hS2.mem _ (by show"mem")) (hS2.uniq (by show"mem")) (by kernel_rfl) (by kernel_rfl) (by kernel_rfl) (by kernel_rfl) (clos:=[("scores",C.scores)]) (by kernel_rfl) fun f pm c' aq=> ?_;show WKw _ _ _ _ ((f,bg (j9 Γ.w.params C.scores pm c' aq))::_) _;show"w144@M73";refine⟨am (pQ _) hT2,?_⟩
  refine wY (m:=1) (c:=0) (D:=gV n) (kv:=qT (score T n)) (vs:=ae bk) hT2 (show 2<Γ.k by omega) (ac (by rw[aj];omega)) (fun j hj=> ?_) ⟨n-1-i,by omega,rfl⟩ ?_
   (vY (f:=f) (sc:=sc) (c_scores:=C.scores) (T:=T) (pm:=pm) (c':=c') (aq:=aq) (aa:=cR C.scores sc::cR C.back ba::cI C.one (n-1-i:Nat)::cI C.count n::(L,ab (RL))::lL ba (ae bk)::aa) hT2 (by omega) (by show"mem") (by show"mem")) rfl rfl ?_ ?_
  ·rw[aj]at hj
   exact⟨_,fY (fun x hx=>(hlt x hx).2) hj,aQ hj⟩
  ·rintro c o rfl;show"mem"
  ·rw[w5];omega
  rintro o ho;rw[w5,eK (f:=fun(d:Nat)=>AV.int (d:Int))];subst ho;refine⟨_,by show"upd",?_⟩;show"w144@M73";refine⟨rfl,_,Less.skip Less.refl,_,_,?_,qk hpw fun a ha=>(hlt a ha).1,rfl⟩;rw[FH,Ez];exact dW.trans ((hperm.cons _).trans (Gx _ _).symm)
 ·rintro o ⟨x1,bk,hperm,hpw,rfl⟩
  rw[show((dr ((n:Int)-1) (-1) n).map Item.one).length =n from by unfold dr;simp]at hperm;subst hq0;exact⟨rfl,x1,bk,hperm.trans (qF n),hpw,Less.refl⟩
end
end
section
noncomputable def ev (lt:Nat->Nat->Bool):KasT α->α
 | .ret a=>a
 | .ask i j k=>ev lt (k (lt i j))
theorem gh (lt:Nat->Nat->Bool) (f:α->KasT β):∀t:KasT α,ev lt (t.bind f)=ev lt (f (ev lt t))
 | .ret _=>rfl
 | .ask i j k=>gh lt f (k (lt i j))
section
variable {k:Nat->Int}
noncomputable abbrev gk (k:Nat->Int) (p:Array Nat) (x:Nat):Int:=k (p.getD x 0)
noncomputable abbrev dS (k:Nat->Int) (i j:Nat):Bool:=decide (k i<k j)
noncomputable def tX (k:Nat->Int) (p:Array Nat) (m:Nat):Prop:=∀i j,i<j->j<m->gk k p i<gk k p j
noncomputable def BU (k:Nat->Int) (p:Array Nat) (m:Nat):Prop:=∀i j,i<j->j<m->gk k p j<gk k p i
noncomputable def Ok (n:Nat) (p:Array Nat):Prop:=p.toList.Perm (Et n)
theorem Ok.size {p:Array Nat} (h:Ok n p):p.size=n:=by have:=h.length_eq;rwa [E0,EN]at this
theorem gd {p:Array Nat}:p.getD x 0=(p[x]?).getD 0:=Array.getD_eq_getD_getElem? ..
theorem Ok.ne {p:Array Nat} (h:Ok n p) (hk:∀i j,i<n->j<n->k i=k j->i=j) (hx:x<n) (hy:y<n) (hxy:x≠y):gk k p x≠gk k p y:=by
 have hz:=h.size;have hnd:p.toList.Nodup:=h.nodup_iff.mpr Gf
 have e:∀z,z<n->p.toList[z]? =some (p.getD z 0):=fun z hz'=>by
  rw[gd,FO,FA (by omega)];rfl
 have m:∀z,z<n->p.getD z 0<n:=fun z hz'=>EM.mp (h.mem_iff.mp (EF (e z hz')));intro q;have q2:=hk _ _ (m x hx) (m y hy) q;have q3:=(e x hx).trans ((congrArg some q2).trans (e y hy).symm);exact hxy ((G9 (by rw[E0];omega) hnd).mp q3)
theorem tw {p:Array Nat}:∀(f m:Nat),1≤m->tX k p m->(h:Ok n p)->(∀i j,i<n->j<n->k i=k j->i=j)->m+f≤n->
 m≤ev (dS k) (kas_asc p f m)∧ev (dS k) (kas_asc p f m)≤m+f∧tX k p (ev (dS k) (kas_asc p f m))∧(ev (dS k) (kas_asc p f m)=m+f∨gk k p (ev (dS k) (kas_asc p f m))<gk k p (ev (dS k) (kas_asc p f m)-1)):=fun z_=>by
 induction z_ with
 |zero=>exact fun m h1 hi _ _ _=>⟨EL _,EL _,hi,.inl rfl⟩
 |succ f ih=>
  intro m h1 hi ho hk hm;have e:ev (dS k) (kas_asc p (f+1) m)=ev (dS k) (if dS k (p.getD m 0) (p.getD (m-1) 0)=true then .ret m else kas_asc p f (m+1)):=rfl;rw[e];by_cases hc:k (p.getD m 0)<k (p.getD (m-1) 0)
  ·rw[if_pos (decide_eq_true hc)]
   exact⟨EL _,by show m≤_;omega,hi,.inr hc⟩
  ·rw[if_neg (by rw[decide_eq_true_eq];exact hc)]
   have hne:=ho.ne hk (show m<n by omega) (show m-1<n by omega) (by omega)
   have hi':tX k p (m+1):=fun i j hij hj=>by
    by_cases hjm:j=m
    ·subst hjm
     by_cases him:i=j-1
     ·subst him;exact Hs.mpr ⟨Gz.mp hc,Ne.symm hne⟩
     ·have h2:=hi i (j-1) (by omega) (by omega)
      exact IE h2 (Gz.mp hc)
    ·exact hi i j hij (by omega)
   obtain⟨a,b,c,d⟩:=ih (m+1) (by omega) hi' ho hk (by omega);exact⟨by omega,by omega,c,by rcases d with d|d;exact .inl (by omega);exact .inr d⟩
theorem v9 {p:Array Nat}:∀(f m:Nat),1≤m->BU k p m->(h:Ok n p)->(∀i j,i<n->j<n->k i=k j->i=j)->m+f≤n->
 ∃r,ev (dS k) (kas_desc f p m 0)=(p,r,0)∧m≤r∧r≤m+f∧BU k p r:=fun z_=>by
 induction z_ with
 |zero=>exact fun m h1 hi _ _ _=>⟨m,rfl,EL _,EL _,hi⟩
 |succ f ih=>
  intro m h1 hi ho hk hm
  have e:ev (dS k) (kas_desc (f+1) p m 0)=ev (dS k) (if dS k (p.getD m 0) (p.getD (m-1) 0)=true then(if 0>0 then kas_desc f (kas_rev p (m-(0+1)) m) (m+1) 0 else kas_desc f p (m+1) 0)
   else .ask (p.getD (m-1) 0) (p.getD m 0) fun d=>if d=true then .ret (p,m,0)else kas_desc f p (m+1) (0+1)):=rfl
  rw[e];by_cases hc:k (p.getD m 0)<k (p.getD (m-1) 0)
  ·rw[if_pos (decide_eq_true hc),if_neg (by omega)]
   have hi':BU k p (m+1):=fun i j hij hj=>by
    by_cases hjm:j=m
    ·subst hjm
     by_cases him:i=j-1
     ·subst him;exact hc
     ·have h2:=hi i (j-1) (by omega) (by omega)
      exact Hj hc h2
    ·exact hi i j hij (by omega)
   obtain⟨r,a,b,c,d⟩:=ih (m+1) (by omega) hi' ho hk (by omega);exact⟨r,a,by omega,by omega,d⟩
  ·rw[if_neg (by rw[decide_eq_true_eq];exact hc)]
   have hne:=ho.ne hk (show m<n by omega) (show m-1<n by omega) (by omega);have hlt:k (p.getD (m-1) 0)<k (p.getD m 0):=Hs.mpr ⟨Gz.mp hc,Ne.symm hne⟩;refine⟨m,?_,EL _,by omega,hi⟩;show ev (dS k) (if dS k (p.getD (m-1) 0) (p.getD m 0)=true then .ret (p,m,0)else kas_desc f p (m+1) (0+1))=_;rw[if_pos (decide_eq_true hlt)];rfl
theorem pu {p:Array Nat} {m:Nat} (hm:m≤p.size) (x:Nat):(kas_rev p 0 m).getD x 0=if x<m then p.getD (m-1-x) 0 else p.getD x 0:=by
 rw[gd,gd,gd];unfold kas_rev;rw[getElem?_mirror_all hm];by_cases h:x<m
 ·rw[if_pos ⟨ET _,h⟩,if_pos h,E7]
 ·rw[if_neg (by omega),if_neg h]
theorem Ok.rev {p:Array Nat} (h:Ok n p) (m:Nat):Ok n (kas_rev p 0 m):=(GB.mp (mirror_perm p 0 m _)).trans h
theorem v_ {p:Array Nat} {m:Nat} (h1:1≤m) (hd:BU k p m) (ho:Ok n p) (hk:∀i j,i<n->j<n->k i=k j->i=j) (hm:m≤n):
 ∃r p',ev (dS k) (kas_tail3 m n p)=(r,p')∧1≤r∧r≤n∧tX k p' r∧Ok n p':=by
 unfold kas_tail3;rw[gh];have hz:=ho.size
 have hi:tX k (kas_rev p 0 m) m:=fun i j hij hj=>by
  show k _<k _;rw[pu (by omega),pu (by omega),if_pos (by omega),if_pos hj];exact hd _ _ (by omega) (by omega)
 obtain⟨a,b,c,_⟩:=tw (p:=kas_rev p 0 m) (n-m) m h1 hi (ho.rev m) hk (by omega);exact⟨_,_,rfl,by omega,by omega,c,ho.rev m⟩
theorem tx {p:Array Nat} (hn:1≤n) (ho:Ok n p) (hk:∀i j,i<n->j<n->k i=k j->i=j):
 ∃r p',ev (dS k) (kas_count n p)=(r,p')∧1≤r∧r≤n∧tX k p' r∧Ok n p':=by
 unfold kas_count;rw[gh];obtain⟨a,b,c,d⟩:=tw (p:=p) (n-1) 1 (EL _) (fun i j h1 h2=>by omega) ho hk (by omega);generalize ev (dS k) (kas_asc p (n-1) 1)=m at*;by_cases h1:m=n
 ·rw[if_pos (by rw[beq_iff_eq];exact h1)]
  exact⟨m,p,rfl,a,by omega,c,ho⟩
 ·rw[if_neg (by rw[beq_iff_eq];exact h1)]
  by_cases h2:m>1
  ·rw[if_pos h2]
   have hlt:=c 0 (m-1) (by omega) (by omega);refine⟨m,p,?_,a,by omega,c,ho⟩;show ev (dS k) (if dS k (p.getD 0 0) (p.getD (m-1) 0)=true then .ret (m,p)else kas_descPart m n (kas_rev p 0 m))=_;rw[if_pos (decide_eq_true hlt)];rfl
  ·rw[if_neg h2]
   have hm1:m=1:=by omega
   subst hm1;have hg:=d.resolve_left (by omega);have hz:=ho.size
   have hd:BU k p 2:=fun i j hij hj=>by
    have hi0:i=0:=by omega
    have hj1:j=1:=by omega
    subst hi0;subst hj1;exact hg
   unfold kas_descPart;rw[gh];obtain⟨r,e1,e2,e3,e4⟩:=v9 (p:=p) (n-(1+1)) (1+1) (by omega) hd ho hk (by omega);rw[e1];dsimp only;rw[if_neg (by omega)];exact v_ (by omega) e4 ho hk (by omega)
theorem ty {p:Array Nat} {kk:Nat} (hi:tX k p kk) (ho:Ok n p) (hk:∀i j,i<n->j<n->k i=k j->i=j) (hkn:kk<n):∀(f l r:Nat),r-l≤f->l≤r->r≤kk->(∀y,y<l->gk k p y<gk k p kk)->(∀y,r≤y->y<kk->gk k p kk<gk k p y)->
 ev (dS k) (kas_place p kk f l r)≤kk∧(∀y,y<ev (dS k) (kas_place p kk f l r)->gk k p y<gk k p kk)∧(∀y,ev (dS k) (kas_place p kk f l r)≤y->y<kk->gk k p kk<gk k p y):=fun z_=>by
 induction z_ with
 |zero=>
  intro l r hf hlr hr h1 h2;have e:l=r:=by omega
  subst e;exact⟨hr,h1,h2⟩
 |succ f ih=>
  intro l r hf hlr hr h1 h2;have e:ev (dS k) (kas_place p kk (f+1) l r)=ev (dS k) (if l≥r then .ret l else .ask (p.getD kk 0) (p.getD ((l+r)/2) 0) fun c=>if c=true then kas_place p kk f l ((l+r)/2)else kas_place p kk f ((l+r)/2+1) r):=rfl;rw[e];by_cases hge:l≥r
  ·rw[if_pos hge]
   have e:l=r:=by omega
   subst e;exact⟨hr,h1,h2⟩
  ·rw[if_neg hge]
   show ev (dS k) (if dS k (p.getD kk 0) (p.getD ((l+r)/2) 0)=true then kas_place p kk f l ((l+r)/2)else kas_place p kk f ((l+r)/2+1) r)≤kk∧(∀y,y<ev (dS k) (if dS k (p.getD kk 0) (p.getD ((l+r)/2) 0)=true then kas_place p kk f l ((l+r)/2)else kas_place p kk f ((l+r)/2+1) r)->_)∧(∀y,ev (dS k) (if dS k (p.getD kk 0) (p.getD ((l+r)/2) 0)=true then kas_place p kk f l ((l+r)/2)else kas_place p kk f ((l+r)/2+1) r)≤y->_);have hmid:l≤(l+r)/2∧(l+r)/2<r:=by omega
   generalize (l+r)/2=mid at*;by_cases hc:k (p.getD kk 0)<k (p.getD mid 0)
   ·rw[if_pos (decide_eq_true hc)]
    refine ih l mid (by omega) hmid.1 (by omega) h1 fun y hy hyk=> ?_;by_cases hym:y=mid
    ·subst hym;exact hc
    ·exact Hj hc (hi mid y (by omega) hyk)
   ·rw[if_neg (by rw[decide_eq_true_eq];exact hc)]
    refine ih (mid+1) r (by omega) (by omega) hr (fun y hy=> ?_) h2;have hne:=ho.ne hk (show kk<n by omega) (show mid<n by omega) (by omega);have hlt:gk k p mid<gk k p kk:=Hs.mpr ⟨Gz.mp hc,Ne.symm hne⟩;by_cases hym:y=mid
    ·subst hym;exact hlt
    ·exact Hj (hi y mid (by omega) (by omega)) hlt
theorem pv {p:Array Nat} {kk l:Nat} (hk:kk<p.size) (hl:l≤kk) (x:Nat):(bubble p kk (kk-l)).getD x 0=if x=l then p.getD kk 0 else if l<x∧x≤kk then p.getD (x-1) 0 else p.getD x 0:=by
 rw[gd,gd,gd,gd,getElem?_bubble hk _ (by omega),show kk-(kk-l)=l from by omega];by_cases h1:x=l
 ·rw[if_pos h1,if_pos h1]
 ·rw[if_neg h1,if_neg h1]
  by_cases h2:l<x∧x≤kk
  ·rw[if_pos h2,if_pos h2]
  ·rw[if_neg h2,if_neg h2]
theorem zP (hk:∀i j,i<n->j<n->k i=k j->i=j):∀(f:Nat) (p:Array Nat) (kk:Nat),kk+f=n->tX k p kk->Ok n p->tX k (ev (dS k) (kas_bin f p kk)) n∧Ok n (ev (dS k) (kas_bin f p kk)):=fun z_=>by
 induction z_ with
 |zero=>
  intro p kk hf hi ho;have e:kk=n:=by omega
  subst e;exact⟨hi,ho⟩
 |succ f ih=>
  intro p kk hf hi ho
  have e:ev (dS k) (kas_bin (f+1) p kk)=ev (dS k) (kas_bin f (bubble p kk (kk-ev (dS k) (kas_place p kk kk 0 kk))) (kk+1)):=by
   show ev (dS k) ((kas_place p kk kk 0 kk).bind fun l=>kas_bin f (bubble p kk (kk-l)) (kk+1))=_;rw[gh]
  rw[e];obtain⟨a,b,c⟩:=ty hi ho hk (by omega) kk 0 kk (by omega) (by omega) (by omega) (fun y hy=>by omega) fun y h1 h2=>by omega
  generalize ev (dS k) (kas_place p kk kk 0 kk)=l at*;have hz:=ho.size;refine ih _ (kk+1) (by omega) (fun i j hij hj=> ?_) ((GB.mp (bubble_perm p kk _)).trans ho);show k _<k _;rw[pv (by omega) a,pv (by omega) a];by_cases hil:i=l
  ·rw[if_pos hil,if_neg (by omega),if_pos (by omega)]
   exact c _ (by omega) (by omega)
  ·rw[if_neg hil]
   by_cases hjl:j=l
   ·rw[if_pos hjl,if_neg (by omega)]
    exact b _ (by omega)
   ·rw[if_neg hjl]
    by_cases h1:l<i∧i≤kk
    ·rw[if_pos h1,if_pos (by omega)]
     exact hi _ _ (by omega) (by omega)
    ·rw[if_neg h1]
     by_cases h2:l<j∧j≤kk
     ·rw[if_pos h2]
      exact hi _ _ (by omega) (by omega)
     ·rw[if_neg h2]
      exact hi _ _ hij (by omega)
theorem wa (hn:1≤n) (hk:∀i j,i<n->j<n->k i=k j->i=j):tX k (ev (dS k) (kas_sort n)) n∧Ok n (ev (dS k) (kas_sort n)):=by
 unfold kas_sort;rw[gh];obtain⟨r,p',e,h1,h2,h3,h4⟩:=tx (p:=GM (Et n)) hn (List.Perm.refl _) hk;rw[e];dsimp only;by_cases h:r<n
 ·rw[if_pos h,show max r 1=r from by omega]
  exact zP hk _ _ _ (by omega) h3 h4
 ·rw[if_neg h]
  have e:r=n:=by omega
  subst e;exact⟨h3,h4⟩
noncomputable def no (n:Nat):KasT α->(α->Prop)->Prop
 | .ret a,P=>P a
 | .ask i j k,P=>i<n∧j<n∧∀b,no n (k b) P
theorem no.bind {f:α->KasT β} {P:α->Prop} {Q:β->Prop} {t:KasT α}:no n t P->(∀a,P a->no n (f a) Q)->no n (t.bind f) Q:=by
 induction t with
 |ret a=>exact fun h hf=>hf _ h
 |ask i j k ih=>exact fun h hf=>⟨h.1,h.2.1,fun b=>ih b (h.2.2 b) hf⟩
theorem tz {cmp:Nat->Nat->(Bool->Shared->Prop)->Shared->Prop} {lt:Nat->Nat->Bool} {P:α->Prop} (hc:∀i j C,i<n->j<n->C (lt i j) s->cmp i j C s) {Q:α->Shared->Prop}:∀t:KasT α,no n t P->Q (ev lt t) s->t.kasWp cmp Q s
 | .ret _,_,h=>h
 | .ask i j k,hi,h=>hc i j _ hi.1 hi.2.1 (tz hc (k (lt i j)) (hi.2.2 _) h)
theorem Ok.lt {p:Array Nat} (h:Ok n p) (hn:1≤n) (x:Nat):p.getD x 0<n:=by
 rw[gd];cases e:p[x]? with
 |none=>exact hn
 |some y=>
  have:y∈p.toList:=EF (by rw[FO];exact e);exact EM.mp (h.mem_iff.mp this)
theorem Ok.rev2 {p:Array Nat} (h:Ok n p) (i m:Nat):Ok n (kas_rev p i m):=(GB.mp (mirror_perm p i m _)).trans h
section
variable (hn:1≤n)
include hn
theorem tA {p:Array Nat} (ho:Ok n p):∀f m,no n (kas_asc p f m) fun _=>True:=fun z_=>by
 induction z_ with
 |zero=>exact fun _=>trivial
 |succ f ih=>exact fun m=>⟨ho.lt hn _,ho.lt hn _,fun b=>by
  cases b
  ·exact ih (m+1)
  ·exact trivial⟩
theorem wb:∀(f:Nat) (p:Array Nat) (m q:Nat),Ok n p->no n (kas_desc f p m q) fun r=>Ok n r.1:=fun z_=>by
 induction z_ with
 |zero=>exact fun _ _ _ ho=>ho
 |succ f ih=>exact fun p m q ho=>⟨ho.lt hn _,ho.lt hn _,fun b=>by
  cases b
  ·refine⟨ho.lt hn _,ho.lt hn _,fun c=> ?_⟩
   cases c
   ·exact ih p (m+1) (q+1) ho
   ·exact ho
  ·show no n (if q>0 then kas_desc f (kas_rev p (m-(q+1)) m) (m+1) 0 else kas_desc f p (m+1) 0) _
   by_cases hq:q>0
   ·rw[if_pos hq];exact ih _ _ _ (ho.rev2 _ _)
   ·rw[if_neg hq];exact ih _ _ _ ho⟩
theorem pw {p:Array Nat} (ho:Ok n p) (m r:Nat):no n (kas_tail3 m r p) fun x=>Ok n x.2:=by
 unfold kas_tail3;exact(tA hn (ho.rev2 0 m) _ _).bind fun _ _=>ho.rev2 0 m
theorem iW {p:Array Nat} (ho:Ok n p) (m r:Nat):no n (kas_descPart m r p) fun x=>Ok n x.2:=by
 unfold kas_descPart;refine(wb hn _ _ _ _ ho).bind fun a ha=> ?_;by_cases h:a.2.2>0
 ·rw[if_pos h];exact pw hn (ha.rev2 _ _) _ _
 ·rw[if_neg h];exact pw hn ha _ _
theorem tB {p:Array Nat} (ho:Ok n p) (r:Nat):no n (kas_count r p) fun x=>Ok n x.2:=by
 unfold kas_count;refine(tA hn ho _ _).bind fun m _=> ?_;by_cases h:(m==r)=true
 ·rw[if_pos h];exact ho
 ·rw[if_neg h]
  by_cases h2:m>1
  ·rw[if_pos h2]
   refine⟨ho.lt hn _,ho.lt hn _,fun b=> ?_⟩;cases b
   ·exact iW hn (ho.rev2 _ _) _ _
   ·exact ho
  ·rw[if_neg h2];exact iW hn ho _ _
theorem tC {p:Array Nat} (ho:Ok n p) (kk:Nat):∀f l r,no n (kas_place p kk f l r) fun _=>True:=fun z_=>by
 induction z_ with
 |zero=>exact fun _ _=>trivial
 |succ f ih=>
  intro l r;show no n (if l≥r then .ret l else .ask (p.getD kk 0) (p.getD ((l+r)/2) 0) fun c=>if c=true then kas_place p kk f l ((l+r)/2)else kas_place p kk f ((l+r)/2+1) r) _;by_cases h:l≥r
  ·rw[if_pos h];exact trivial
  ·rw[if_neg h]
   refine⟨ho.lt hn _,ho.lt hn _,fun b=> ?_⟩;cases b
   ·exact ih _ _
   ·exact ih _ _
theorem zQ:∀(f:Nat) (p:Array Nat) (kk:Nat),Ok n p->no n (kas_bin f p kk) fun x=>Ok n x:=fun z_=>by
 induction z_ with
 |zero=>exact fun _ _ ho=>ho
 |succ f ih=>exact fun p kk ho=>(tC hn ho kk _ _ _).bind fun l _=>ih _ _ ((GB.mp (bubble_perm p kk _)).trans ho)
theorem wc:no n (kas_sort n) fun x=>Ok n x:=by
 unfold kas_sort;refine(tB hn (p:=GM (Et n)) (List.Perm.refl _) n).bind fun r hr=> ?_;by_cases h:r.1<n
 ·rw[if_pos h];exact zQ hn _ _ _ hr
 ·rw[if_neg h];exact hr
end
end
end
section
section
variable {prog:Program}
theorem oA {x y:Addr} {ox oy:Obj} {a b a' b':Int} {t u t' u':Tok} {Q:Bool->Shared->Prop} (hx:s.heap.get? x=some ox) (dx:ox.data= .seq #[.int a t,.int b u] n) (hy:s.heap.get? y=some oy) (dy:oy.data= .seq #[.int a' t',.int b' u'] k) (h:Q (decide (a<a'∨(a=a'∧b<b'))) s):wpAny (model prog w) A (keyLt' (tuples' true) (.ref x) (.ref y)) Q E s:=by
 refine kat_lt hx dx hy dy ?_;show KatLex prog w A true false Q [(.int a t,.int a' t'),(.int b u,.int b' u')] 0 s;refine kat_cons (wpAny_eqBool_int ?_);by_cases e:a=a'
 ·rw[show(a==a')=true from beq_iff_eq.mpr e]
  refine kat_yes (kat_cons (wpAny_eqBool_int ?_));by_cases e2:b=b'
  ·rw[show(b==b')=true from beq_iff_eq.mpr e2]
   refine kat_yes (kat_nil ?_);rw[show decide (a<a'∨(a=a'∧b<b'))=false from decide_eq_false (by omega)]at h;exact h
  ·rw[show(b==b')=false from beq_eq_false_iff_ne.mpr e2]
   refine kat_no (kat_one _ _ (lt_int ?_));show Q _ _;rw[show decide (a<a'∨(a=a'∧b<b'))=decide (b<b')from by rw[decide_eq_decide];omega]at h;exact h
 ·rw[show(a==a')=false from beq_eq_false_iff_ne.mpr e]
  refine kat_no (oneLt_int ?_);rw[show decide (a<a'∨(a=a'∧b<b'))=decide (a<a')from by rw[decide_eq_decide];omega]at h;exact h
structure Pr where
 a:Addr
 x:Int
 y:Int
noncomputable def qG (h:Heap) (q:Pr):Prop:=∃o t u n,h.get? q.a=some o∧o.cls= .type "tuple"∧o.data= .seq #[.int q.x t,.int q.y u] n
noncomputable abbrev aU (qs:List Pr):List Value:=qs.map fun q=> .ref q.a
theorem tD:∀{qs:List Pr},(∀q∈qs,qG h q)->∃fs,KatTups h (aU qs) fs∧fs.length=qs.length∧∀v∈fs,∃k t,v=Value.int k t:=fun {z_}=>by
 induction z_ with
 |nil=>exact fun _=>⟨[],trivial,rfl,fun _ h=>nomatch h⟩
 |cons q r ih=>
  intro hq;obtain⟨fs,h1,h2,h3⟩:=ih fun x hx=>hq x (.tail _ hx);obtain⟨o,t,u,n,e1,e2,e3⟩:=hq q (.head _);refine⟨.int q.x t::fs,KatTups.cons e1 e2 e3 rfl h1,by rw[EK,EK,h2],fun v hv=> ?_⟩;rcases EG.mp hv with rfl|hv
  ·exact⟨_,_,rfl⟩
  ·exact h3 v hv
noncomputable def i0 (qs:List Pr) (i:Nat):Int:=let q:=qs.getD i ⟨0,0,0⟩;q.x*64+q.y
theorem i3 {a:Addr} {qs:List Pr} {P:PySem.Fin->Shared->Prop} (ho:s.heap.get? a=some (seqObj "list" (aU qs).toArray n)) (hq:∀q∈qs,qG s.heap q) (ha:∀q∈qs,q.a≠a) (hy:∀q∈qs,0≤q.y∧q.y<64) (h2:2≤qs.length) (h64:qs.length<64) (h:P (.done (.ret .none)) {s with heap:=sortedHeap s.heap a (aU qs) (GM ((ev (dS (i0 qs)) (kas_sort qs.length)).toList.map fun i=>(aU qs).getD i Value.none))}):
 wpAny (model prog w) A (Builtin.«list.sort» ⟨[.ref a],[]⟩) P E s:=by
 rw[list_sort_plain];have hlen:(aU qs).length =qs.length:=En ..;have hal:a<s.heap.objs.size:=Heap.lt_size ho;refine wpAny_bind (listItems_at ho rfl ?_);refine wpAny_bind (listUpdate_at ho rfl ?_ (by rw[GN,sizeLine_eq];omega) (ET _));obtain⟨e1,ho1⟩:∃e1,(s.heap.update a (Obj.mapSeq fun _=> #[])).get? a=some (seqObj "list" #[] e1):=⟨_,get?_update_seq ho (fun _=> #[])⟩
 refine wpAny_bind (seqEpoch_at ho1 rfl ?_);refine wpAny_bind (wpAny_newTuple ?_ (by show(aU qs).length ≤_;rw[sizeLine_eq];omega));refine wpAny_bind (wpAny_newList ?_ (ET _));refine wpAny_holding ?_
 have ho6:(((s.heap.update a (Obj.mapSeq fun _=> #[])).push (seqObj "tuple" (aU qs).toArray 0)).push (seqObj "list" #[] 0)).get? a=some (seqObj "list" #[] e1):=by
  rw[Heap.get?_push_ne _ _ _ (by rw[size_push',Heap.size_update];exact Gh (II hal)),Heap.get?_push_ne _ _ _ (by rw[Heap.size_update];exact Gh hal)];exact ho1
 have hq6:∀q∈qs,qG (((s.heap.update a (Obj.mapSeq fun _=> #[])).push (seqObj "tuple" (aU qs).toArray 0)).push (seqObj "list" #[] 0)) q:=fun q hm=>by
  obtain⟨o,t,u,n,e1,e2,e3⟩:=hq q hm;exact⟨o,t,u,n,Heap.get?_push_of_some _ (Heap.get?_push_of_some _ ((Heap.get?_update_ne _ _ _ _ (ha q hm)).trans e1)),e2,e3⟩
 show wpAny (model prog w) A _ P E {s with heap:=((s.heap.update a (Obj.mapSeq fun _=> #[])).push (seqObj "tuple" (aU qs).toArray 0)).push (seqObj "list" #[] 0)}
 dsimp only;have hn2:¬(aU qs).toArray.size <2:=by rw[GN];omega
 rw[if_neg hn2,if_neg hn2];obtain⟨fs,t1,t2,t3⟩:=tD hq6;refine wpAny_bind (kat_kind (T:= .type "int") t1 (by omega) (fun v hv=> ?_) rfl ?_)
 ·obtain⟨k,t,rfl⟩:=t3 v hv
  exact Looks.of_pure rfl
 rw[show(Value.type "int"!=Value.type "tuple")=true from rfl]
 refine wpAny_bind (wpAny_mono (kat_run (ks:=aU qs) (vs:=aU qs) (s:={s with heap:=((s.heap.update a (Obj.mapSeq fun _=> #[])).push (seqObj "tuple" (aU qs).toArray 0)).push (seqObj "list" #[] 0)})
  (Q:=fun st' s'=>∃p:Array Nat,p.size=(aU qs).length ∧arrOf st'=p.map (kas_item ((aU qs).toArray.zip (aU qs).toArray))∧failedOf st'=none∧(p=ev (dS (i0 qs)) (kas_sort qs.length)∧s'={s with heap:=((s.heap.update a (Obj.mapSeq fun _=> #[])).push (seqObj "tuple" (aU qs).toArray 0)).push (seqObj "list" #[] 0)}))
  (G:=fun p s'=>p=ev (dS (i0 qs)) (kas_sort qs.length)∧s'={s with heap:=((s.heap.update a (Obj.mapSeq fun _=> #[])).push (seqObj "tuple" (aU qs).toArray 0)).push (seqObj "list" #[] 0)})
  rfl (by omega) (by omega) (fun p' st' s' a1 a2 a3 a4=>⟨p',a1,a2,a3,a4⟩) ?_) ?_ fun _ _ e=>e)
 ·rw[hlen]
  refine tz (n:=qs.length) (lt:=dS (i0 qs)) (P:=fun x=>Ok qs.length x) (fun i j C hi hj hC=> ?_) _ (wc (by omega)) ⟨rfl,rfl⟩
  have g:∀i,i<qs.length->(aU qs).getD i Value.none= .ref (qs.getD i ⟨0,0,0⟩).a ∧qs.getD i ⟨0,0,0⟩∈qs:=fun i hi=>by
   rw[Ey,Ey,Eu,Ex hi];exact⟨rfl,GE hi⟩
  obtain⟨gi,mi⟩:=g i hi;obtain⟨gj,mj⟩:=g j hj;show wpAny (model prog w) A (keyLt' (tuples' true) ((aU qs).getD i Value.none) ((aU qs).getD j Value.none)) C (fun _ _=>False) _;rw[gi,gj];obtain⟨o,t,u,n,e1,e2,e3⟩:=hq6 _ mi;obtain⟨o',t',u',n',e1',e2',e3'⟩:=hq6 _ mj;refine oA e1 e3 e1' e3' ?_;have yi:=hy _ mi;have yj:=hy _ mj
  have ek:dS (i0 qs) i j=decide ((qs.getD i ⟨0,0,0⟩).x <(qs.getD j ⟨0,0,0⟩).x ∨((qs.getD i ⟨0,0,0⟩).x =(qs.getD j ⟨0,0,0⟩).x ∧(qs.getD i ⟨0,0,0⟩).y <(qs.getD j ⟨0,0,0⟩).y)):=by
   unfold dS i0;rw[decide_eq_decide];dsimp only;generalize qs.getD i ⟨0,0,0⟩=qi at*;generalize qs.getD j ⟨0,0,0⟩=qj at*;omega
  rw[ek]at hC;exact hC
 rintro⟨⟨⟩,st'⟩ s' ⟨p,hp,har,hf,rfl,rfl⟩;dsimp only;refine wpAny_bind (seqEpoch_at ho6 rfl ?_);rw[kat_snds rfl har];refine wpAny_bind (listUpdate_at ho6 rfl ?_ (ET _) (by rw[GN,En,E0,hp,sizeLine_eq];omega));rw[hf];simp only[bne_self_eq_false,E1,if_false];exact wpAny_pure h
theorem mh {qs:List Pr} (hl:s.heap.IsList l (aU qs).toArray) (hq:∀q∈qs,qG s.heap q) (hy:∀q∈qs,0≤q.y∧q.y<64) (h2:2≤qs.length) (h64:qs.length<64) (h:Q (.ref (s.heap.objs.size+1)) {s with heap:=sortedAll s.heap (aU qs) (GM ((ev (dS (i0 qs)) (kas_sort qs.length)).toList.map fun i=>(aU qs).getD i Value.none))}):
 wpAny (model prog w) A (call (.builtin "sorted") [.ref l]) Q E s:=by
 have hlen:(aU qs).length =qs.length:=En ..;refine Calls.call_function_entry kind_sorted plain_sorted entry_sorted (args_sorted1 _) ?_;unfold Builtin.«sorted»;refine wpAny_bind (m:=checkCount "sorted" 1 1 _) (wpAny_pure ?_);refine wpAny_bind (collect_list hl ?_ (by rw[sizeLine_eq];omega));refine wpAny_bind (wpAny_newList ?_ (by rw[sizeLine_eq];omega))
 have hsz:((s.heap.push (seqObj "list" #[] 0)).update s.heap.objs.size (Obj.mapSeq (·++(aU qs).toArray))).objs.size =s.heap.objs.size+1:=by
  rw[Heap.size_update,size_push']
 have hoL:(((s.heap.push (seqObj "list" #[] 0)).update s.heap.objs.size (Obj.mapSeq (·++(aU qs).toArray))).push (seqObj "list" (aU qs).toArray 0)).get? (s.heap.objs.size+1)=some (seqObj "list" (aU qs).toArray 0):=by
  rw[←hsz];exact Heap.get?_push_size _ rfl
 have hlt:∀q∈qs,q.a<s.heap.objs.size:=fun q hm=>by obtain⟨o,t,u,n,e1,_⟩:=hq q hm;exact Heap.lt_size e1
 have hq2:∀q∈qs,qG (((s.heap.push (seqObj "list" #[] 0)).update s.heap.objs.size (Obj.mapSeq (·++(aU qs).toArray))).push (seqObj "list" (aU qs).toArray 0)) q:=fun q hm=>by
  obtain⟨o,t,u,n,e1,e2,e3⟩:=hq q hm;exact⟨o,t,u,n,Heap.get?_push_of_some _ ((Heap.get?_update_ne _ _ _ _ (Gh (hlt q hm))).trans (Heap.get?_push_of_some _ e1)),e2,e3⟩
 show wpAny _ _ _ _ _ {s with heap:=((s.heap.push (seqObj "list" #[] 0)).update s.heap.objs.size (Obj.mapSeq (·++(aU qs).toArray))).push (seqObj "list" (aU qs).toArray 0)}
 rw[hsz];refine wpAny_bind (wpAny_holding (wpAny_call_entry slot_list_sort ⟨_,hoL,rfl⟩ entry_list_sort (i3 (s:={s with heap:=((s.heap.push (seqObj "list" #[] 0)).update s.heap.objs.size (Obj.mapSeq (·++(aU qs).toArray))).push (seqObj "list" (aU qs).toArray 0)}) hoL hq2 (fun q hm=>Gh (II (hlt q hm))) hy h2 h64 ⟨_,rfl,?_⟩) (args_list_sort _)))
 exact wpAny_pure ⟨_,rfl,h⟩
end
theorem qH {qs:List Pr} (hm:lL l (qs.map fun q=>AV.ref q.a)∈aa) (hq:∀q∈qs,(q.a,bV [.int q.x,.int q.y])∈aa) (hy:∀q∈qs,0≤q.y∧q.y<64) (h2:2≤qs.length) (h64:qs.length<64) (hd:∀i j,i<qs.length->j<qs.length->i0 qs i=i0 qs j->i=j) (h:∀r (qs':List Pr),qs'.Perm qs->qs'.Pairwise (fun a b=>a.x*64+a.y<b.x*64+b.y)->K (.ref r) (lL r (qs'.map fun q=>AV.ref q.a)::aa)):ai Γ (.builtin "sorted") [.ref l] [] aa K:=by
 intro va kv hv hk;cases hk;obtain _|⟨h1,_|_⟩:=hv;cases h1;intro A s hA hR;obtain⟨items,n,ho,hvs⟩:=bD.get hR hm
 have hit:items.toList=aU qs:=by
  have:∀(qs:List Pr) (vs:List Value),VRs (qs.map fun q=>AV.ref q.a) vs->vs=aU qs:=by
   intro qs;induction qs with
   |nil=>intro vs h;cases h;rfl
   |cons q r ih=>
    intro vs h;obtain _|⟨h1,h2⟩:=h;cases h1;rw[ih _ h2];rfl
  exact this _ _ hvs
 have hpr:∀q∈qs,qG s.heap q:=fun q hm=>by
  obtain⟨its,k,e1,e2⟩:=bV.get hR (hq q hm);obtain⟨its⟩:=its;obtain _|⟨a1,_|⟨a2,_|_⟩⟩:=e2;cases a1;cases a2;exact⟨_,_,_,_,e1,rfl,rfl⟩
 refine mh (qs:=qs) ⟨_,ho,rfl,n,by rw[←hit,Array.toArray_toList]⟩ hpr hy h2 h64 ?_;obtain⟨hinc,hok⟩:=wa (n:=qs.length) (k:=i0 qs) (by omega) hd;generalize ev (dS (i0 qs)) (kas_sort qs.length)=p at*;have hz:=hok.size
 have hpl:∀i,i<p.toList.length->p.toList[i]? =some (p.getD i 0):=fun i hi=>by
  rw[E0]at hi;rw[gd,FO,FA hi];rfl
 have e2:(p.toList.map fun i=>(aU qs).getD i Value.none)=aU (p.toList.map fun i=>qs.getD i ⟨0,0,0⟩):=by
  unfold aU;rw[FC];refine GI fun i hi=> ?_;have hin:=EM.mp (hok.mem_iff.mp hi);show(aU qs).getD i Value.none= .ref (qs.getD i ⟨0,0,0⟩).a;unfold aU;rw[Ey,Ey,Eu,Ex hin];rfl
 have hperm:(p.toList.map fun i=>qs.getD i ⟨0,0,0⟩).Perm qs:=by
  have h1:=hok.map fun i=>qs.getD i ⟨0,0,0⟩
  have h3:(Et qs.length).map (fun i=>qs.getD i ⟨0,0,0⟩)=qs:=by
   refine HL (by simp) fun i h1 h2=> ?_;rw[Hc,G6,Ey,Ex h2];rfl
  rwa [h3]at h1
 obtain⟨e,he⟩:=sortedAll_at s.heap (aU qs) (GM (p.toList.map fun i=>(aU qs).getD i Value.none));have hR1:R Γ aa {s with heap:=sortedAll s.heap (aU qs) (GM (p.toList.map fun i=>(aU qs).getD i Value.none)),toks:=s.toks}:=hR.grow fun b o e=>sortedAll_old e
 have hvr:VRs ((p.toList.map fun i=>qs.getD i ⟨0,0,0⟩).map fun q=>AV.ref q.a) (GM (p.toList.map fun i=>(aU qs).getD i Value.none)).toList :=by
  rw[List.toList_toArray,e2];generalize (p.toList.map fun i=>qs.getD i ⟨0,0,0⟩)=l;induction l with
  |nil=>exact .nil
  |cons a r ih=>exact .cons (.val _) ih
 have hR2:=hR.takeNew hR1 (P:=bD ((p.toList.map fun i=>qs.getD i ⟨0,0,0⟩).map fun q=>AV.ref q.a)) (F5 _) he ⟨_,_,rfl,hvr⟩ km (fun hm=>absurd (hR.lt hm) (F3.mpr (F5 _))) (cP he rfl);refine⟨_,_,.val _,hR2,h _ _ hperm ?_⟩;rw[GH];intro i j hi hj hij;rw[En]at hi hj;rw[E0]at hi hj;have:=hinc i j hij (by omega);rw[Hc,Hc];have ei:=hpl i (by rw[E0];exact hi);have ej:=hpl j (by rw[E0];exact hj);rw[Ex (by rw[E0];exact hi)]at ei;rw[Ex (by rw[E0];exact hj)]at ej;rw[Option.some.inj ei,Option.some.inj ej];exact this
end
section
open PySem.SeqAt
theorem qI {a b:Bool} (h:K (.bool (!(a==b))) aa):WCmp Γ .NotEq (.bool a) (.bool b) aa K:=by
 intro va vb h1 h2;cases h1;cases h2;exact fun A s hA hR=>RcNeAt.bool_bool a b _ _ _ _ ⟨_,aa,.val _,hR,h⟩
theorem px (h:(bQ vs)[i]? =some it):∃a,vs[i]? =some a∧it= .tup [.int (i:Int),a]:=by
 unfold bQ at h;rw[Hr,Ew]at h;obtain⟨a,ha,rfl⟩:=h;exact⟨a,ha,rfl⟩
noncomputable def fN (p:Params) (pm:Value) (c':Addr) (aq:Value):Obj:=kla_obj "<lambda>" "law.<locals>.<lambda>" (bi p 144 [16,2,0,1]).args (bi p 144 [16,2,0,1]).expr (bS p 144 [16,2,0,1]) [] pm c' aq
noncomputable def gH (p:Params) (pm:Value) (c':Addr) (aq:Value):FuncData:=gl (fN p pm c' aq)
theorem py:(fN p pm c' aq).data = .func (gH p pm c' aq):=rfl
theorem wd:(gH p pm c' aq).body = .expr (bi p 144 [16,2,0,1]).expr :=rfl
theorem ka144n:KdA (ah (gH p pm c' aq) f L cs) [("cut",.local)]:=⟨by kernel_rfl,by kernel_rfl⟩
theorem zR:(([("cut",none)]:Loc).map (·.1)).Nodup :=by decide
theorem zS:∀p∈([("cut",none)]:Loc),p.2=none:=bF rfl
theorem zT {a_cut:AV} {K:List (Str×AV)->Led->Prop} (h:K [("cut",a_cut)] aa):WB Γ (gH p pm c' aq) [a_cut] [] aa K:=by
 exact WB.q1 (fun _=>by kernel_rfl) .nil h
theorem we {a_cut:AV} (hT:TopG Γ) (hk:0<Γ.k) (hm:(f,bg (fN Γ.w.params pm c' aq))∈aa) (h:∀L,WE Γ.dn (ah (gH Γ.w.params pm c' aq) f L []) (bi Γ.w.params 144 [16,2,0,1]).expr ((L,ab [("cut",some a_cut)])::aa) fun a o2=>∃o3,Less o3 o2∧K a o3):ai Γ (.ref f) [a_cut] [] aa K:=by
 refine cZ hk hT (cM hm py) wd zR zS (zT fun L cs hcs=> ?_) (by kernel_rfl) (by kernel_rfl);rw[af (cs:=cs) hcs];show WBinds _ (ah (gH Γ.w.params pm c' aq) f L []) _ ((L,ab _)::aa) fun o1=>WE _ (ah (gH Γ.w.params pm c' aq) f L []) _ o1 _;refine st_local (ka144n.at 0 (by kernel_rfl)) lf (by show"upd") (by show"put") ?_;exact h L
noncomputable def qJ:AV->Int
 | .int k=>k
 |_=>0
noncomputable def nf (a:AV):Prop:=∃k:Int,a= .int k
noncomputable def iX (Γ:Cx) (aa:Led) (kf:AV):Prop:=kf= .none ∨∃f pm c' aq,kf= .ref f∧(f,bg (fN Γ.w.params pm c' aq))∈aa
theorem ja (hT0:TopG Γ) (hm:(f,bg (fN Γ.w.params pm c' aq))∈aa):bn 1 Γ (.ref f) nf qJ (fun _ o=>o=aa):=by
 rintro h' hs c o rfl;refine⟨aV hm py,fun hc a ha=> ?_⟩;obtain⟨k,rfl⟩:=ha;have hT1:TopG (Γ.to h' 1):=hT0.to hs;refine we hT1 (Fy 0) hm fun L=> ?_;refine w_local (ka144n.at 0 (by kernel_rfl)) lf (by show"mem") (by show"mem") ?_;exact⟨_,Less.skip Less.refl,rfl,rfl⟩
section
variable {cs:List Nat} {p hi:Nat} {kf:AV}
theorem bR (hT:TopG Γ) (hk:2<Γ.k) (hm:lL l (ae cs)∈aa) (hz:cs.length≤100) (hh:hi≤cs.length) (hkf:iX Γ aa kf) (hK:K (.int (bh (fun i=>decide ((p:Int)<((cs.getD i 0:Nat):Int))) lo hi).1) aa):
 ai Γ (.ref 32) [.ref l,.int p,.int lo,.int hi] [("key",kf)] aa K:=by
 have hzl:(ae cs).length ≤sizeLine:=ac (by rw[aj];omega);rcases hkf with rfl|⟨f,pm,c',aq,rfl,hf⟩
 ·exact xm (vs:=ae cs) (xs:=fun i=>((cs.getD i 0:Nat):Int)) hT (by omega) hzl (.inr ⟨rfl,by rw[aj];exact hh⟩) (fun i hi=>aQ (by rwa [aj]at hi)) hm hK
 ·have e:bh (fun i=>decide ((p:Int)<qJ ((ae cs).getD i .none))) lo hi=bh (fun i=>decide ((p:Int)<((cs.getD i 0:Nat):Int))) lo hi:=cS _ _ fun i _ hi'=>by rw[aQ (by omega)];rfl
  refine rz (vs:=ae cs) (m:=1) (c:=0) (D:=nf) (kv:=qJ) (I:=fun _ o=>o=aa) hT (by omega) hzl (.inr ⟨rfl,by rw[aj];exact hh⟩) (fun i hi'=>⟨_,aQ (by rwa [aj]at hi')⟩) (fun _ _ h=>h▸hm) (ja hT hf) rfl rfl ?_ ?_
  ·have:=cT (fun i=>decide ((p:Int)<qJ ((ae cs).getD i .none))) lo hi;omega
  ·rintro o rfl;rw[e];exact hK
theorem Ee (hT:TopG Γ) (hk:2<Γ.k) (hm:lL l (ae cs)∈aa) (hz:cs.length≤100) (hkf:iX Γ aa kf) (hK:K (.int (bh (fun i=>decide ((p:Int)<((cs.getD i 0:Nat):Int))) lo cs.length).1) aa):
 ai Γ (.ref 32) [.ref l,.int p,.int lo] [("key",kf)] aa K:=by
 have hzl:(ae cs).length ≤sizeLine:=ac (by rw[aj];omega);rcases hkf with rfl|⟨f,pm,c',aq,rfl,hf⟩
 ·exact xn (vs:=ae cs) (xs:=fun i=>((cs.getD i 0:Nat):Int)) hT (by omega) hzl (fun i hi=>aQ (by rwa [aj]at hi)) hm (by rw[aj];exact hK)
 ·have e:bh (fun i=>decide ((p:Int)<qJ ((ae cs).getD i .none))) lo (ae cs).length =bh (fun i=>decide ((p:Int)<((cs.getD i 0:Nat):Int))) lo cs.length:=by
   rw[aj];exact cS _ _ fun i _ hi'=>by rw[aQ (by omega)];rfl
  refine xo (vs:=ae cs) (m:=1) (c:=0) (D:=nf) (kv:=qJ) (I:=fun _ o=>o=aa) hT (by omega) hzl (fun i hi'=>⟨_,aQ (by rwa [aj]at hi')⟩) (fun _ _ h=>h▸hm) (ja hT hf) rfl rfl ?_ ?_
  ·have:=cT (fun i=>decide ((p:Int)<qJ ((ae cs).getD i .none))) lo (ae cs).length;rw[aj]at this⊢;omega
  ·rintro o rfl;rw[e];exact hK
theorem jb (i:Nat):(!decide (((cs.getD i 0:Nat):Int)<(p:Int)+1))=decide ((p:Int)<((cs.getD i 0:Nat):Int)):=by
 by_cases h:(p:Int)<((cs.getD i 0:Nat):Int)
 ·rw[decide_eq_true h,decide_eq_false (by omega)];rfl
 ·rw[decide_eq_false h,decide_eq_true (by omega)];rfl
theorem bL (hT:TopG Γ) (hk:2<Γ.k) (hm:lL l (ae cs)∈aa) (hz:cs.length≤100) (hh:hi≤cs.length) (hkf:iX Γ aa kf) (hK:K (.int (bh (fun i=>decide ((p:Int)<((cs.getD i 0:Nat):Int))) lo hi).1) aa):
 ai Γ (.ref 50) [.ref l,.int ((p:Int)+1),.int lo,.int hi] [("key",kf)] aa K:=by
 have hzl:(ae cs).length ≤sizeLine:=ac (by rw[aj];omega);rcases hkf with rfl|⟨f,pm,c',aq,rfl,hf⟩
 ·refine xt (vs:=ae cs) (xs:=fun i=>((cs.getD i 0:Nat):Int)) hT (by omega) hzl (.inr ⟨rfl,by rw[aj];exact hh⟩) (fun i hi=>aQ (by rwa [aj]at hi)) hm ?_
  rw[show(fun i=> !decide (((cs.getD i 0:Nat):Int)<(p:Int)+1))=(fun i=>decide ((p:Int)<((cs.getD i 0:Nat):Int)))from funext jb];exact hK
 ·have e:bh (fun i=> !decide (qJ ((ae cs).getD i .none)<(p:Int)+1)) lo hi=bh (fun i=>decide ((p:Int)<((cs.getD i 0:Nat):Int))) lo hi:=cS _ _ fun i _ hi'=>by rw[aQ (by omega)];exact jb i
  refine rC (vs:=ae cs) (m:=1) (c:=0) (D:=nf) (kv:=qJ) (I:=fun _ o=>o=aa) hT (by omega) hzl (.inr ⟨rfl,by rw[aj];exact hh⟩) (fun i hi'=>⟨_,aQ (by rwa [aj]at hi')⟩) (fun _ _ h=>h▸hm) (ja hT hf) rfl rfl ?_ ?_
  ·have:=cT (fun i=> !decide (qJ ((ae cs).getD i .none)<(p:Int)+1)) lo hi;omega
  ·rintro o rfl;rw[e];exact hK
theorem Ef (hT:TopG Γ) (hk:2<Γ.k) (hm:lL l (ae cs)∈aa) (hz:cs.length≤100) (hkf:iX Γ aa kf) (hK:K (.int (bh (fun i=>decide ((p:Int)<((cs.getD i 0:Nat):Int))) lo cs.length).1) aa):
 ai Γ (.ref 50) [.ref l,.int ((p:Int)+1),.int lo] [("key",kf)] aa K:=by
 have hzl:(ae cs).length ≤sizeLine:=ac (by rw[aj];omega);rcases hkf with rfl|⟨f,pm,c',aq,rfl,hf⟩
 ·refine xu (vs:=ae cs) (xs:=fun i=>((cs.getD i 0:Nat):Int)) hT (by omega) hzl (fun i hi=>aQ (by rwa [aj]at hi)) hm ?_
  rw[show(fun i=> !decide (((cs.getD i 0:Nat):Int)<(p:Int)+1))=(fun i=>decide ((p:Int)<((cs.getD i 0:Nat):Int)))from funext jb,aj];exact hK
 ·have e:bh (fun i=> !decide (qJ ((ae cs).getD i .none)<(p:Int)+1)) lo (ae cs).length =bh (fun i=>decide ((p:Int)<((cs.getD i 0:Nat):Int))) lo cs.length:=by
   rw[aj];exact cS _ _ fun i _ hi'=>by rw[aQ (by omega)];exact jb i
  refine xv (vs:=ae cs) (m:=1) (c:=0) (D:=nf) (kv:=qJ) (I:=fun _ o=>o=aa) hT (by omega) hzl (fun i hi'=>⟨_,aQ (by rwa [aj]at hi')⟩) (fun _ _ h=>h▸hm) (ja hT hf) rfl rfl ?_ ?_
  ·have:=cT (fun i=> !decide (qJ ((ae cs).getD i .none)<(p:Int)+1)) lo (ae cs).length;rw[aj]at this⊢;omega
  ·rintro o rfl;rw[e];exact hK
end
section
variable {RL:Loc}
theorem iX.up {kf:AV} (h:iX Γ aa kf) (hs:∀q∈aa,q∈ao):iX Γ ao kf:=by
 rcases h with h|⟨f,pm,c',aq,h1,h2⟩
 ·exact .inl h
 ·exact .inr ⟨f,pm,c',aq,h1,hs _ h2⟩
theorem ng {cl ra ri:Addr} {p:Nat} {cs:List Nat} {kf:AV} (hT:TopG Γ) (hk:10<Γ.k) (hn:n≤8) (hxn:x<n) (hcl:lL cl (ae cs)∈aa) (hri:lL ri (ae ((Et n).map (bT T n)))∈aa) (p1:1≤cs.length) (p2:1≤(bh (fun i=>decide ((p:Int)<((cs.getD i 0:Nat):Int))) 1 cs.length).1) (p3:cq cs p<cs.length) (hpl:0<bT T n x↔1<cs.getD (cq cs p) 0-(0::cs).getD (cq cs p) 0) (hcl100:cs.length≤100) (hkf:iX Γ aa kf):
 WS Γ (E4 Γ.w.params L C) [lU Γ.w.params 16 1,lU Γ.w.params 16 2] (cR C.ranked ra::cI C.one x::(L,ab (nR "cuts" cl::nR "rings" ri::nI "place" p::("key",some kf)::("part",u_part)::RL))::aa) fun f o=>f= .next ∧Less (cR C.ranked ra::cI C.one x::(L,ab (nR "cuts" cl::nR "rings" ri::nI "place" p::("key",some kf)::nI "part" (cq cs p:Nat)::RL))::aa) o:=by
 have hpv:((((bh (fun i=>decide ((p:Int)<((cs.getD i 0:Nat):Int))) 0 1).1:Nat):Int)+(((bh (fun i=>decide ((p:Int)<((cs.getD i 0:Nat):Int))) 1 cs.length).1:Nat):Int)-1)=((cq cs p:Nat):Int):=by
  unfold cq;omega
 refine bv (J:=fun o=>Less (cR C.ranked ra::cI C.one x::(L,ab (nR "cuts" cl::nR "rings" ri::nI "place" p::("key",some kf)::nI "part" (cq cs p:Nat)::RL))::aa) o) ?_ fun o ho=>W.sub ho ?_
 ·refine x_Assign_Name ?_
  show"w144@M45";refine⟨am (ny _) hT,?_⟩;refine bR (p:=p) (lo:=0) (hi:=1) hT (by omega) (by show"mem") hcl100 p1 (hkf.up fun q hq=>by show"mem") ?_;show"w144@M45";refine⟨am (ny _) hT,?_⟩;refine Ee (p:=p) (lo:=1) hT (by omega) (by show"mem") hcl100 (hkf.up fun q hq=>by show"mem") ?_;show"w144@M45";rw[hpv];exact⟨rfl,Less.refl⟩
 clear ho;refine s_cons ?_;refine x_If ?_;show"w144@M45";refine⟨am (nz _) hT,?_⟩;refine bL (p:=p) (lo:=0) (hi:=1) hT (by omega) (by show"mem") hcl100 p1 (hkf.up fun q hq=>by show"mem") ?_;show"w144@M45";refine⟨am (nz _) hT,?_⟩;refine Ef (p:=p) (lo:=1) hT (by omega) (by show"mem") hcl100 (hkf.up fun q hq=>by show"mem") ?_;show"w144@M45";rw[hpv,show(((cq cs p:Nat):Int)!=((cq cs p:Nat):Int))=false from by simp];show"w144@M45";have hrg:((Et n).map (bT T n))[x]? =some (bT T n x):=by rw[Eu,FL hxn];rfl
 refine ar (vs:=ae ((Et n).map (bT T n))) (by show"mem") (Er _) (by omega) (by rw[Es];exact cm hrg) ?_;show"w144@M45"
 have hg:∀(l:List Nat) (i:Nat),i<l.length->l[i]? =some (l.getD i 0):=fun l i hi=>by
  rw[Ey,Ex hi];rfl
 refine ar (vs:=ae cs) (by show"mem") (Er _) (by omega) (by rw[Es];exact cm (hg cs _ p3)) ?_;show"w144@M45";refine⟨ac (Eo rfl),fun z=> ?_⟩;show"w144@M45";refine bt (vs:=[.int 0]) (ws:=ae cs) (by show"mem") (by show"mem") (ac (by rw[aj];show 1+_≤1000;omega)) fun zc=> ?_;rw[show([AV.int 0]++ae cs)=ae (0::cs)from rfl];show"w144@M45";refine ar (vs:=ae (0::cs)) (by show"mem") (Er _) (by omega) (by rw[Es];exact cm (hg (0::cs) _ (by rw[EK];omega))) ?_;show"w144@M45";refine qI ?_
 have hfin:(!(decide ((0:Int)<((bT T n x:Nat):Int))==decide ((1:Int)<((cs.getD (cq cs p) 0:Nat):Int)-(((0::cs).getD (cq cs p) 0:Nat):Int))))=false:=by
  by_cases h:0<bT T n x
  ·have:=hpl.mp h
   rw[decide_eq_true (by omega),decide_eq_true (by omega)];rfl
  ·have:¬(1<cs.getD (cq cs p) 0-(0::cs).getD (cq cs p) 0):=fun q=>h (hpl.mpr q)
   rw[decide_eq_false (by omega),decide_eq_false (by omega)];rfl
 rw[hfin];show"w144@M45";refine⟨rfl,?_⟩;show"less"
theorem wf {cl ra ri:Addr} {rk:List Nat} (hS:Std Γ) (hk:60<Γ.k) (hn:n≤8) (hTo:Tour n T) (hperm:rk.Perm (Et n)) (hpw:rk.Pairwise (cg (score T n))) (hcl:lL cl (ae (cj T rk n))∈aa) (hra:lL ra (ae rk)∈aa) (hri:lL ri (ae ((Et n).map (bT T n)))∈aa):
 WX Γ (E4 Γ.w.params L C) (aY Γ.w.params 16) (cR C.ranked ra::cO C.one u_one::(L,ab (nR "cuts" cl::nR "rings" ri::("place",u_place)::("key",u_key)::("part",u_part)::RL))::aa) fun f o=>f= .next ∧∃x1 x2 x3 x4,Less (cR C.ranked ra::cO C.one x2::(L,ab (nR "cuts" cl::nR "rings" ri::("place",x1)::("key",x3)::("part",x4)::RL))::aa) o:=by
 refine W.hide fun q0 hq0=> ?_;have hT:TopG Γ:=hS.T;have hlen:rk.length=n:=by rw[hperm.length_eq,EN]
 have hlt:∀x∈rk,x<n:=fun x hx=>EM.mp (hperm.mem_iff.mp hx);refine dp ?_;show"w144@M45";refine fy (vs:=ae rk) (by show"mem") fun e it=> ?_;refine⟨_,lK (vs:=ae rk) (by show"mem") ⟨fun i o=>∃x1 x2 x3 x4,o=cR C.ranked ra::cO C.one x2::(L,ab (nR "cuts" cl::nR "rings" ri::("place",x1)::("key",x3)::("part",x4)::RL))::aa,⟨_,_,_,_,rfl⟩,?_,?_,?_⟩⟩
 ·rintro i o ⟨x1,x2,x3,x4,rfl⟩;show"mem"
 ·rintro p J it o h' hit ⟨x1,x2,x3,x4,rfl⟩ hs
  have hS2:Std (Γ.at h'):=hS.at hs;have hT2:TopG (Γ.at h'):=hS2.T;obtain⟨a,ha,rfl⟩:=px hit;unfold ae at ha;rw[Eu,Ew]at ha;obtain⟨x,hx,rfl⟩:=ha;have hpn:p<n:=by have:=(EB.mp hx).1;omega
  have hxn:=hlt x (EF hx)
  have hnm:n∈cj T rk n:=dC.mpr ⟨by omega,EL _,by
   unfold aN;rw[FJ (by omega)];exact(eZ T _ _).mpr fun _ _ _ h=>nomatch h⟩
  obtain⟨p1,p2,p3,p4,p5,p6⟩:=pc (iT (n:=n) (T:=T) (rk:=rk)) hnm (fun k hk=>(dC.mp hk).2.1) hpn;have hpl:=sJ hTo hperm hpw hpn hx
  have hcl100:(cj T rk n).length ≤100:=by
   unfold cj;rw[En];have:=Fv (fun i=>decide (aN T rk (i+1)=0)) (Et n);rw[EN]at this;omega
  have hcsn:∀i,i<(cj T rk n).length ->(cj T rk n).getD i 0≤n:=fun i hi=>(dC.mp (hG hi)).2.1;generalize hcs:cj T rk n=cs at*;intro t;refine aI (.head _) rfl ?_;show"a144@M45";refine W.sub (Less.skip Less.refl) ?_;refine s_cons ?_;refine x_Assign_Name ?_;show"w144@M45";refine gL (by decide) ?_;have h2:=jq (p:Int);generalize ((p:Nat):Int).fmod 2=j at*;rcases h2 with h|h<;>subst h
  ·show"o144@M45"
   rw[show((0:Int)!=0)=false from rfl];refine if_f ?_;show"j144@M45";refine W.mono (ng hT2 (show 10<Γ.k by omega) hn hxn hcl hri p1 p2 p3 hpl hcl100 (.inl rfl)) ?_;rintro _ o ⟨rfl,ho⟩;exact⟨rfl,_,ho,_,_,_,_,rfl⟩
  ·show"o144@M45"
   rw[show((1:Int)!=0)=true from rfl];refine if_t ?_;refine b7 (c:=143) (P:=141) (q:="law.<locals>.<lambda>") hT2 (hS2.mem _ (by show"mem")) (hS2.uniq (by show"mem")) (by kernel_rfl) (by kernel_rfl) (by kernel_rfl) (by kernel_rfl) (clos:=[]) (by kernel_rfl) fun f pm c' aq=> ?_;show WSt _ _ _ _ ((f,bg (fN Γ.w.params pm c' aq))::_) _;show"a144@M45";refine W.sub (ao:=cR C.ranked ra::cI C.one x::(L,ab (nR "cuts" cl::nR "rings" ri::nI "place" p::nR "key" f::("part",x4)::RL))::(f,bg (fN Γ.w.params pm c' aq))::aa) (by show"less") ?_;refine W.mono (ng (aa:=(f,bg (fN Γ.w.params pm c' aq))::aa) hT2 (show 10<Γ.k by omega) hn hxn (.tail _ hcl) (.tail _ hri) p1 p2 p3 hpl hcl100 (.inr ⟨f,pm,c',aq,rfl,.head _⟩)) ?_;rintro _ o ⟨rfl,ho⟩;exact⟨rfl,cR C.ranked ra::cI C.one x::(L,ab (nR "cuts" cl::nR "rings" ri::nI "place" p::nR "key" f::nI "part" (cq cs p:Nat)::RL))::aa,Less.trans (by show"less") ho,_,_,_,_,rfl⟩
 ·rintro o ⟨x1,x2,x3,x4,rfl⟩
  subst hq0;exact⟨rfl,x1,x2,x3,x4,Less.refl⟩
end
end
section
noncomputable def j_ (p:Params):Scope:=bS p 144 [33,0]
theorem zU (p:Params):(j_ p).kind = .function :=by kernel_rfl
theorem zV (p:Params):∀x∈(j_ p).names,x.2= .local ->(j_ p).names.lookup x.1=some .local :=aJ (by kernel_rfl)
theorem ka144A {L144A:Addr} {c144A:List (Str×Addr)}:KdA (aM (j_ p) (E4 p L C) L144A c144A) [("score",.local),("one",.local)]:=⟨by kernel_rfl,by kernel_rfl⟩
noncomputable def kd (p:Params):Scope:=bS p 144 [33,0,2,1]
theorem zW (p:Params):(kd p).kind = .function :=by kernel_rfl
theorem zX (p:Params):∀x∈(kd p).names,x.2= .local ->(kd p).names.lookup x.1=some .local :=aJ (by kernel_rfl)
theorem ka144B {L144B:Addr} {c144B:List (Str×Addr)}:KdA (aM (kd p) (E4 p L C) L144B c144B) [("one",.local),("score",.local)]:=⟨by kernel_rfl,by kernel_rfl⟩
noncomputable abbrev ez (qs:List Pr):Led:=qs.map fun q=>(q.a,bV [.int q.x,.int q.y])
theorem wg {F:Led} {qs:List Pr} {q:Pr}:Less (F++(ez (qs++[q])++aa)) ((q.a,bV [.int q.x,.int q.y])::(F++(ez qs++aa))):=by
 have h:=Less.move (X:=[(q.a,bV [.int q.x,.int q.y])]) (Y:=F++ez qs) (Z:=aa);unfold ez at h⊢;rw[Ez,EQ,G4];simpa using h
theorem tE {F X:Led}:Less (F++aa) (F++(X++aa)):=by
 refine⟨fun p hp=> ?_,fun h=> ?_⟩
 ·rcases E3.mp hp with hp|hp
  ·exact EY _ hp
  ·exact EC _ (EC _ hp)
 ·have hsub:List.Sublist (F++aa) (F++(X++aa)):=(List.Sublist.refl F).append (List.sublist_append_right X aa)
  exact h.sublist (hsub.map _)
noncomputable abbrev eC (qs:List Pr):List AV:=qs.map fun q=> .ref q.a
theorem BV {qs:List Pr} (h:((eC qs).map Item.one)[b]? =some it):∃r,it= .one (.ref r.a)∧qs[b]? =some r:=by
 rw[Eu,Ew]at h;obtain⟨a,ha,rfl⟩:=h;rw[Eu,Ew]at ha;obtain⟨x,hx,rfl⟩:=ha;exact⟨x,rfl,hx⟩
noncomputable abbrev Pr.sp (q:Pr):Int×Int:=(q.x,q.y)
section
variable {RL:Loc}
theorem wh {sc:Addr} (hT:TopG Γ) (hn:n≤8) (hn2:2≤n) (hsc:lL sc (ae (aK T n n))∈aa):
 WX Γ (E4 Γ.w.params L C) (aY Γ.w.params 33) (cR C.scores sc::(L,ab (("due",u_due)::RL))::aa) fun f o=>f= .next ∧∃du dl,dl.Perm (Et n)∧dl.Pairwise (cg (score T n))∧Less (cR C.scores sc::(L,ab (nR "due" du::RL))::lL du (ae dl)::aa) o:=by
 refine W.hide fun q0 hq0=> ?_;have hsl:(ae (aK T n n)).length =n:=by rw[aj,b9]
 refine bq (cl:=[]) (loc:=[("score",none),("one",none)]) (by kernel_rfl) (zU Γ.w.params) (zV Γ.w.params) (by decide) (by simp) ?_ (by kernel_rfl);unfold bC;show"w144@M74";refine aL (cl:=[]) (loc:=[("one",none),("score",none)]) (by kernel_rfl) (zW Γ.w.params) (zX Γ.w.params) (by decide) (by simp) ?_;unfold bC;show"w144@M74";refine fy (vs:=ae (aK T n n)) (by show"mem") fun e it=> ?_;refine⟨_,lK (vs:=ae (aK T n n)) (by show"mem") ?_⟩;intro acc L2 cs2 hcs2;rw[af (cs:=cs2) hcs2];show aR _ _ 0 acc (aM (kd Γ.w.params) (E4 Γ.w.params L C) L2 []) _ _ _ ((L2,ab [("one",none),("score",none)])::lL acc []::cR C.scores sc::(L,ab (("due",u_due)::RL))::aa) _;refine aB (fun i o=>∃x y qs,qs.map Pr.sp=(Et i).map ((fun j=>(((score T n j:Nat):Int),((j:Nat):Int))):Nat->Int×Int)∧o=(L2,ab [("one",x),("score",y)])::lL acc (eC qs)::cR C.scores sc::(L,ab (("due",u_due)::RL))::(ez qs++aa)) rfl rfl ⟨none,none,[],rfl,rfl⟩ ?_ ?_ ?_
 ·rintro i o ⟨x,y,qs,_,rfl⟩
  have:lL sc (ae (aK T n n))∈ez qs++aa:=EC _ hsc;show"mem"
 ·rintro i J it o h' hit ⟨x,y,qs,hqs,rfl⟩ hs
  obtain⟨a,ha,rfl⟩:=px hit;intro t;have hin:i<n:=by have:=(EB.mp ha).1;omega
  rw[cm (dq hin)]at ha;cases ha;have hql:qs.length=i:=by have e:=congrArg Fb hqs;rw[En,En,EN]at e;exact e
  refine aI (as:=[.int (i:Nat),.int (score T n i:Nat)]) (.head _) rfl ?_;show"w144B";refine⟨ac (Eo rfl),fun tp=> ?_⟩
  have hl:Less ((L2,ab [nI "one" (i:Nat),nI "score" (score T n i:Nat)])::lL acc (eC (qs++[⟨tp,(score T n i:Nat),(i:Nat)⟩]))::cR C.scores sc::(L,ab (("due",u_due)::RL))::(ez (qs++[⟨tp,(score T n i:Nat),(i:Nat)⟩])++aa)) ((tp,bV [.int (score T n i:Nat),.int (i:Nat)])::(L2,ab [nI "one" (i:Nat),nI "score" (score T n i:Nat)])::lL acc (eC qs++[.ref tp])::cR C.scores sc::(L,ab (("due",u_due)::RL))::(ez qs++aa)):=by
   rw[show eC (qs++[⟨tp,(score T n i:Nat),(i:Nat)⟩])=eC qs++[.ref tp]from by unfold eC;rw[Ez];rfl];exact wg (F:=(L2,ab [nI "one" (i:Nat),nI "score" (score T n i:Nat)])::lL acc (eC qs++[.ref tp])::cR C.scores sc::(L,ab (("due",u_due)::RL))::[]) (qs:=qs) (q:=⟨tp,(score T n i:Nat),(i:Nat)⟩) (aa:=aa)
  refine⟨eC qs,_,_,by show"upd",ac (by rw[En];omega),Less.trans hl (by show"less"),some (.int (i:Nat)),some (.int (score T n i:Nat)),qs++[⟨tp,(score T n i:Nat),(i:Nat)⟩],?_,rfl⟩;rw[Ez,hqs,FH,Ez];rfl
 ·rintro o ⟨x,y,qs,hqs,rfl⟩
  have hel:(bQ (ae (aK T n n))).length =n:=by unfold bQ;rw[IC,hsl]
  rw[hel]at hqs;have hql:qs.length=n:=by have e:=congrArg Fb hqs;rw[En,En,EN]at e;exact e
  have hg:∀i,i<n->qs[i]? =some (qs.getD i ⟨0,0,0⟩)∧(qs.getD i ⟨0,0,0⟩).x =(score T n i:Nat)∧(qs.getD i ⟨0,0,0⟩).y =(i:Nat):=fun i hi=>by
   have e1:qs[i]? =some (qs.getD i ⟨0,0,0⟩):=by rw[Ey,Ex (by omega)];rfl
   have e2:=congrArg (fun l=>l[i]?) hqs;rw[Eu,Eu,e1,FL hi]at e2;have e3:=Option.some.inj e2;exact⟨e1,congrArg Prod.fst e3,congrArg Prod.snd e3⟩
  have hmem:∀q∈qs,∃i,i<n∧q.x=(score T n i:Nat)∧q.y=(i:Nat):=fun q hq=>by
   obtain⟨i,hi⟩:=List.mem_iff_getElem?.mp hq;have hin:i<n:=by have:=(EB.mp hi).1;omega
   obtain⟨g1,g2,g3⟩:=hg i hin;rw[hi]at g1;have:=Option.some.inj g1;exact⟨i,hin,this▸g2,this▸g3⟩
  refine⟨_,_,Less.refl,?_⟩;show"w144@M74";refine qH (qs:=qs) (by show"mem") (fun q hq=> ?_) (fun q hq=> ?_) (by omega) (by omega) (fun i j hi hj hij=> ?_) fun r qs' hp hpw=> ?_
  ·have:(q.a,bV [.int q.x,.int q.y])∈ez qs++aa:=EY _ (EP.mpr ⟨q,hq,rfl⟩)
   show"mem"
  ·obtain⟨i,hi,_,hy⟩:=hmem q hq
   omega
  ·obtain⟨_,a1,a2⟩:=hg i (by omega)
   obtain⟨_,b1,b2⟩:=hg j (by omega);unfold i0 at hij;dsimp only at hij;rw[a1,a2,b1,b2]at hij;omega
  have hq'l:qs'.length=n:=by rw[hp.length_eq];exact hql
  refine⟨_,aW (vs:=eC qs') (.head _) ?_⟩;intro acc3 L3 cs3 hcs3;rw[af (cs:=cs3) hcs3];show aR _ _ 0 acc3 (aM (j_ Γ.w.params) (E4 Γ.w.params L C) L3 []) _ _ _ ((L3,ab [("score",none),("one",none)])::lL acc3 []::lL r (eC qs')::lL acc (eC qs)::cR C.scores sc::(L,ab (("due",u_due)::RL))::(ez qs++aa)) _;refine aB (fun i o=>∃x y,o=(L3,ab [("score",x),("one",y)])::lL acc3 (ae ((qs'.map fun q=>q.y.toNat).take i))::lL r (eC qs')::lL acc (eC qs)::cR C.scores sc::(L,ab (("due",u_due)::RL))::(ez qs++aa)) rfl rfl ⟨none,none,rfl⟩ ?_ ?_ ?_
  ·rintro i o ⟨x,y,rfl⟩;show"mem"
  ·rintro i J it o h2 hit2 ⟨x,y,rfl⟩ hs2
   obtain⟨q,rfl,hq⟩:=BV hit2;have hqm:=hp.mem_iff.mp (EF hq);obtain⟨j,hj,_,hyq⟩:=hmem q hqm;have htp:(q.a,bV [.int q.x,.int q.y])∈ez qs++aa:=EY _ (EP.mpr ⟨q,hqm,rfl⟩);show WAsg _ _ _ _ _ _;refine aI (as:=[.int q.x,.int q.y]) (by show"mem") rfl ?_;show"w144A";refine⟨_,_,_,.tail .head,ac (by rw[aj,EJ,En];omega),Less.refl,some (.int q.x),some (.int q.y),?_⟩;rw[E5,Eu,hq,cz]
   rw[show ae (Option.map (fun q:Pr=>q.y.toNat) (some q)).toList =[AV.int q.y]from by
    show [AV.int ((q.y.toNat:Nat):Int)]=_;rw[show((q.y.toNat:Nat):Int)=q.y from by omega]]
  ·rintro o ⟨x,y,rfl⟩
   rw[En,En,show qs'.length=(qs'.map fun q=>q.y.toNat).length from(En ..).symm,EW];refine⟨_,_,Less.refl,?_⟩;show"w144@M74";subst hq0;refine⟨_,_,Less.refl,rfl,acc3,qs'.map fun q=>q.y.toNat,?_,?_,?_⟩
   ·have h1:=hp.map fun q=>q.y.toNat
    have h2:qs.map (fun q=>q.y.toNat)=Et n:=by
     refine HL (by simp[hql]) fun i h1 h2=> ?_;rw[En]at h1;obtain⟨g1,_,g3⟩:=hg i (by omega);rw[Ex h1]at g1;rw[Hc,G6,Option.some.inj g1,g3,Es]
    rwa [h2]at h1
   ·rw[G8]
    refine hpw.imp_of_mem fun {a b} ha hb hab=> ?_;obtain⟨i,hi,a1,a2⟩:=hmem a (hp.mem_iff.mp ha);obtain⟨j,hj,b1,b2⟩:=hmem b (hp.mem_iff.mp hb);rw[a1,a2,b1,b2]at hab;show cg (score T n) a.y.toNat b.y.toNat;rw[a2,b2,Es,Es];unfold cg;omega
   ·have hl:Less (cR C.scores sc::(L,ab (nR "due" acc3::RL))::lL acc3 (ae (qs'.map fun q=>q.y.toNat))::aa) (cR C.scores sc::(L,ab (nR "due" acc3::RL))::lL acc3 (ae (qs'.map fun q=>q.y.toNat))::(ez qs++aa)):=tE (F:=cR C.scores sc::(L,ab (nR "due" acc3::RL))::[lL acc3 (ae (qs'.map fun q:Pr=>q.y.toNat))]) (X:=ez qs) (aa:=aa)
    exact Less.trans hl (by show"less")
end
end
section
section
variable {RL:Loc}
theorem wi {R r0 r1 ra du ba ta sc:Addr} {rw rk tl sl:List Nat} (hR:lL R [.ref r0,.ref r1]∈aa) (h0:lL r0 (ae rw)∈aa) (h1:lL r1 (ae rw)∈aa) (h2:lL ra (ae rk)∈aa) (h3:lL du (ae rk)∈aa) (h4:lL ba (ae rk)∈aa) (h5:lL ta (ae tl)∈aa) (h6:lL sc (ae sl)∈aa) (hT:TopG Γ) (hsl:sl.length≤8) (hp:tl.Perm sl) (hpw:tl.Pairwise (·≤·)):
 WX Γ (E4 Γ.w.params L C) (aY Γ.w.params 34) (cR C.scores sc::cR C.ranked ra::cR C.back ba::(L,ab (nR "rows" R::nR "tally" ta::nR "due" du::RL))::aa) fun f o=>f= .ret (.bool true):=by
 have eq1:∀l:List Nat,decide (ci l=ci l)=true:=fun l=>decide_eq_true rfl;refine x_Return ?_;refine w_BoolOp ?_;refine gK ?_;show"w144@M75";refine ar (vs:=[.ref r0,.ref r1]) (by show"mem") (by decide) (by decide) rfl ?_;show"w144@M75";refine ar (vs:=[.ref r0,.ref r1]) (by show"mem") (by decide) (by decide) rfl ?_;refine dP (ns:=ci rw) (ms:=ci rw) (by rw[←bo];show"mem") (by rw[←bo];show"mem") ?_;rw[eq1];refine wtr_bool ?_;refine gK ?_;show"w144@M75";refine dP (ns:=ci rk) (ms:=ci rk) (by rw[←bo];show"mem") (by rw[←bo];show"mem") ?_;rw[eq1];refine wtr_bool ?_;refine gK ?_;show"w144@M75";refine dP (ns:=ci rk) (ms:=ci rk) (by rw[←bo];show"mem") (by rw[←bo];show"mem") ?_;rw[eq1];refine wtr_bool ?_;refine nv ?_;show"w144@M75";refine mK (ns:=ci sl) (by rw[←bo];show"mem") (by rw[En];omega) fun r ns' hp2 hpw2=> ?_;refine dP (ns:=ci tl) (ms:=ns') (by rw[←bo];show"mem") (.head _) ?_;have e:ci tl=ns':=gn ((hp.map _).trans hp2.symm) (by rw[G8];exact hpw.imp fun h=>Gk.mpr h) hpw2;rw[decide_eq_true e]
end
end
section
theorem lk_zde_class:typeLookup (.type "ZeroDivisionError") "__class__"=pure (some (.builtin "object.__class__")):=by rw[typeLookup_type,builtinLookup_eq_fast];kernel_rfl
section
variable {prog:Program} {g:Array GenState} {d:Drawn} {t:Nat} {os:OsState} {a:Addr}
theorem qK {tk:Tok} {Q:PySem.Fin->Shared->Prop} (hx:h.get? a=some o) (hc:o.cls= .type "ZeroDivisionError") (hq:Q (.done (.ret (.type "ZeroDivisionError"))) ⟨h,g,d,t,os⟩):
 wpAny (model prog w) A (Builtin.«object.__getattribute__» ⟨[.ref a,.str "__class__" tk],[]⟩) Q E ⟨h,g,d,t,os⟩:=by
 have hT:(⟨h,g,d,t,os⟩:Shared).TypeIs (.ref a) "ZeroDivisionError":=⟨_,hx,hc⟩;have hT5:(⟨h,g,d,t,os⟩:Shared).TypeIs (.builtin "object.__class__") "getset_descriptor":=F.typeOf_object_class;have f4:=lk_zde_class;have f5:=F.typeOf_object_class;have f6:=F.slot_gs_get.lookup;have f7:=F.slot_gs_set.lookup
 have f8:isSubtype (.type "ZeroDivisionError") (.type (".".intercalate ("object.__class__".cutAt '.').dropLast))=pure true:=by
  rw[F.owner_object_class,isSubtype_type];kernel_rfl
 repeat (any_goals (first|assumption|wp_step))
 refine codeAny_call_builtin F.slot_gs_get.plain F.entry_gs_get (F.slot_gs_get.check _ _ _ _ _ _ _ _ hT5 (F.args_gs_get _ _ _) ?_)
 repeat (any_goals (first|assumption|wp_step))
 refine⟨Code.quiet_builtin _ (by decide+kernel),codeAny_builtin F.entry_object_class ?_⟩
 repeat (any_goals (first|assumption|wp_step))
theorem zY {tk:Tok} (hx:h.get? a=some o) (hc:o.cls= .type "ZeroDivisionError") (hq:Q (.type "ZeroDivisionError") ⟨h,g,d,t,os⟩):wpAny (model prog w) A (getAttrBy (.ref a) (.str "__class__" tk) false) Q E ⟨h,g,d,t,os⟩:=by
 have hT:(⟨h,g,d,t,os⟩:Shared).TypeIs (.ref a) "ZeroDivisionError":=⟨_,hx,hc⟩;have f2:=F.attr_ZeroDivisionError.ga.lookup;have f3:=F.attr_ZeroDivisionError.ga.bind (.ref a)
 repeat (any_goals (first|assumption|wp_step))
 refine codeAny_call_builtin F.attr_ZeroDivisionError.ga.plain F.entry_bexc_ga (F.attr_ZeroDivisionError.ga.check _ _ _ _ _ _ _ _ hT (F.args_bexc_ga _ _) (qK hx hc ?_))
 repeat (any_goals (first|assumption|wp_step))
theorem tF {Q:Option Value->Shared->Prop} (hx:h.get? a=some o) (hc:o.cls= .type "ZeroDivisionError") (hq:Q (some (.type "ZeroDivisionError")) ⟨h,g,d,t+1,os⟩):wpAny (model prog w) A (getAttr? (.ref a) "__class__") Q E ⟨h,g,d,t,os⟩:=by
 unfold getAttr? getAttrBy?
 repeat (any_goals (first|assumption|with_reducible apply zY hx hc|wp_step))
theorem oB {dep:Int} {tk:Tok} {Q:PySem.Fin->Shared->Prop} (hx:h.get? a=some o) (hc:o.cls= .type "ZeroDivisionError") (hq:Q (.done (.ret (.bool false))) ⟨h,g,d,t+1,os⟩):
 wpAny (model prog w) A (Builtin.«isinstance.nested» ⟨[.ref a,.type "ValueError",.int dep tk],[]⟩) Q E ⟨h,g,d,t,os⟩:=by
 have hT:(⟨h,g,d,t,os⟩:Shared).TypeIs (.ref a) "ZeroDivisionError":=⟨_,hx,hc⟩;have hne:(Value.type "ZeroDivisionError"==Value.type "ValueError")=false:=by decide+kernel
 have hty:typeOf (.type "ValueError")=pure (.type "type"):=by kernel_rfl
 have hsub:isSubtype (.type "ZeroDivisionError") (.type "ValueError")=pure false:=by rw[isSubtype_type];kernel_rfl
 repeat (any_goals (first|assumption|with_reducible apply tF hx hc|wp_step))
end
section
variable {prog:Program} {a:Addr}
theorem wj (hT:s.TypeIs (.ref a) "ZeroDivisionError") (h:Q (.bool false) {s with toks:=s.toks+1}):wpAny (model prog w) A (call (.builtin "isinstance") [.ref a,.type "ValueError"]) Q E s:=by
 obtain⟨o,ho,hc⟩:=id hT;refine call_isinstance_of ?_;exact oB (h:=s.heap) (g:=s.gens) (d:=s.drawn) (t:=s.toks) (os:=s.os) ho hc h
theorem zZ (hT:s.TypeIs (.ref a) "ValueError") (h:Q (.bool true) s):wpAny (model prog w) A (call (.builtin "isinstance") [.ref a,.type "ValueError"]) Q E s:=
 call_isinstance_yes hT (by kernel_rfl) F.self_ValueError h
end
section
variable {prog:Program}
theorem qL {x:Str} {np:Pos} {Q:Flow->Shared->Prop} (hh:A.handled=none) (hx:wpAny (model prog w) A (eval (.Name x np) env) (fun v s₁=>v= .type "ZeroDivisionError"∧s₁=s) E s) (h:∀h' e,Heap.MadeExc s.heap h' e "ZeroDivisionError" []->E (.ref e) {s with heap:=h'}):
 wpAny (model prog w) A (exec (.Raise (some (.Name x np)) none pos) env) Q E s:=by
 have hb:isSubtype (.type "ZeroDivisionError") (.type "BaseException")=pure true:=F.isExc_ZeroDivisionError;show wpAny (model prog w) A (do standAt pos;raiseStmt env (some (do let v ←eval (.Name x np) env;standAt pos;pure v)) none) Q E s;refine wpAny_bind (wpAny_standAt ?_);unfold raiseStmt;dsimp only;refine wpAny_bind (wpAny_bind (wpAny_mono hx (fun v s₁ h₁=>wpAny_bind (wpAny_standAt (wpAny_pure ?_))) fun _ _ e=>e));obtain⟨rfl,hs₁⟩:=h₁;subst s₁;refine wpAny_bind (wpAny_pure ?_);dsimp only;refine wpAny_bind (wpAny_holding ?_);unfold excFromValue isExcClass;refine wpAny_bind (wpAny_bind (wpAny_pure ?_));simp only[if_true];rw[hb];refine wpAny_pure ?_;simp only[if_true];obtain⟨hp,g,d,tk,os⟩:=s;refine wpAny_bind (wpAny_call_exc F.excCall_ZeroDivisionError (rest:=[]) fun h' e hn=> ?_);obtain⟨t,he,_⟩:=hn.there;have hT:(⟨h',g,d,tk,os⟩:Shared).TypeIs (.ref e) "ZeroDivisionError":=⟨_,he,rfl⟩;refine wpAny_bind (wpAny_isInstance hT hb ?_);simp only[GT,E1,if_false];refine wpAny_pure ?_
 first|(refine wpAny_bind (m:=isType (.type "ZeroDivisionError")) (wpAny_pure ?_))|(refine wpAny_bind (wpAny_pure ?_))
 first|(rw[if_pos rfl])|(simp only[if_true])|dsimp only
 refine wpAny_bind (wpAny_holding ?_);unfold raisedFor
 first|(simp only[E1,if_false])|(rw[if_neg (by decide)])|skip
 first|(refine wpAny_bind (wpAny_typeOf hT ?_))|(refine wpAny_bind ?_;refine wpAny_bind (wpAny_typeOf hT ?_))
 refine wpAny_bind (call_issubclass (issubclass_self excClass_ZeroDivisionError F.self_ZeroDivisionError) ?_)
 first|(refine wpAny_bind (wpAny_truthy_bool ?_))|(refine wpAny_truthy_bool ?_)|(dsimp only[wants];first|(refine wpAny_bind (wpAny_truthy_bool ?_))|(refine wpAny_truthy_bool ?_))
 first|(rw[if_pos rfl])|(simp only[if_true])|skip
 refine wpAny_pure ?_;unfold setFlight raiseNew;refine wpAny_bind (wpAny_bind (wpAny_field (i:=1) (x:=Value.none) he rfl rfl ?_));rw[if_neg (by decide)];refine wpAny_pure (wpAny_bind (wpAny_handled ?_));rw[hh]
 first
  |exact wpAny_throw (h h' e hn)
  |exact wpAny_bind (wpAny_pure (wpAny_throw (h h' e hn)))
end
end
section
structure Base (Γ:Cx) (ownT ownR:Led) (s0:Shared) (frs:List Addr) (fr:List Env):Prop where
 less:Less ownT ownR
 R:R Γ ownR s0
 ns:∀L∈frs,∃loc,(L,ab loc)∈ownR
 fr:∀env∈fr,env.scope.kind≠ .module ∧∃L,env.frame=some L∧L∈frs
noncomputable def Du (Γ:Cx) (ownT:Led) (fr:List Env) (X:String) (args:List AV) (e:Value) (s':Shared):Prop:=
 ∃a ownR s0 frs vs,e= .ref a∧Base Γ ownT ownR s0 frs fr∧VRs args vs∧s'.gens=s0.gens∧s'.os=s0.os∧Heap.MadeExcOf s0.heap s'.heap a (.type X) vs
noncomputable def hZ (Γ:Cx) (ownT:Led) (fr:List Env) (X:String) (args:List AV) (e:Value) (s':Shared):Prop:=
 ∃a t ownR s0 frs vs,e= .ref a∧Base Γ ownT ownR s0 frs fr∧VRs args vs∧s'.gens=s0.gens∧s'.os=s0.os∧Heap.FlyingW (hideAll s0.heap frs) fr a (.type X) (.ref t) s'.heap∧s'.heap.TupAt t vs∧s0.heap.UpToSlots s'.heap
noncomputable abbrev Up (Γ:Cx) (ownT:Led) (fr:List Env) (X:String) (args:List AV) (e:Value) (s':Shared):Prop:=Du Γ ownT fr X args e s'∨hZ Γ ownT fr X args e s'
section
variable {ownR:Led} {s' s0:Shared} {fr:List Env} {frs:List Addr} {X:String} {args:List AV} {e:Value} {M:Model}
theorem R.slots (hR:Mine.Internal.R Γ aa s) (hfr:∀L∈frs,∃loc,(L,ab loc)∈aa) (hk:(hideAll s.heap frs).StaysIn s'.heap) (hu:s.heap.UpToSlots s'.heap) (hg:s'.gens=s.gens) (ho:s'.os=s.os):Mine.Internal.R Γ aa s':=by
 have stay:∀b o,b∉frs->s.heap.get? b=some o->s'.heap.get? b=some o:=fun b o hb e=>hk b o (hideAll_get _ e hb)
 have notfr:∀b,b∉keys aa->b∉frs:=fun b hb hm=>by
  obtain⟨loc,h⟩:=hfr b hm;exact hb (EE (f:=(·.1)) h)
 have hcr:∀cv q,s.heap.CodeRec cv q->s'.heap.CodeRec cv q:=fun cv q x=>by
  obtain⟨c,o,vs,t,e1,e2,e3,e4⟩:=x;refine⟨c,o,vs,t,e1,stay c o (fun hm=> ?_) e2,e3,e4⟩;obtain⟨loc,h⟩:=hfr c hm;obtain⟨o',e',_,_,_,hd,_⟩:=hR.get h;rw[e2]at e';cases e';rw[e3]at hd;cases hd
 refine⟨fun b o e=>stay b o (notfr b fun hm=> ?_) (hR.keep b o e),fun p hp=> ?_,hR.nd,hR.ap,hg.trans hR.gens,ho.trans hR.os,fun t ht=>⟨(hR.tb t ht).1,?_⟩,fun p hp o e=> ?_⟩
 ·obtain⟨p,hp,rfl⟩:=EP.mp hm
  rw[hR.ap p hp]at e;cases e
 ·obtain⟨o,e,hP⟩:=hR.ow p hp
  by_cases hm:p.1∈frs
  ·obtain⟨loc,h⟩:=hfr _ hm
   have hq:p=(p.1,ab loc):=lG hR.nd hp h rfl;obtain⟨o',e',hns⟩:=hR.get h;obtain⟨es,ep,m,hd,r⟩:=id hns;obtain⟨sl,e2⟩:=hu _ _ e' fun vs q=>by rw[hd]at q;cases q
   rw[hq];exact⟨_,e2,es,ep,m,hd,r⟩
  ·exact⟨o,stay _ _ hm e,hP⟩
 ·obtain⟨q1,ps,q2,q3,q4⟩:=(hR.tb t ht).2
  refine⟨q1,ps,stay _ _ (notfr _ q1) q2,q3,fun pos cv e=> ?_⟩;obtain⟨c,r1,r2,r3,r4⟩:=q4 pos cv e;exact⟨c,r1,r2,hcr _ _ r3,r4⟩
 ·intro fd hd
  obtain⟨o1,ho1,_⟩:=hR.ow p hp;by_cases hm:p.1∈frs
  ·obtain⟨loc,h⟩:=hfr _ hm
   obtain⟨o',e',es,ep,m,hd',_⟩:=hR.get h;obtain⟨sl,e2⟩:=hu _ _ e' fun vs q=>by rw[hd']at q;cases q
   rw[e]at e2;cases e2;rw[show o'.data= .func fd from hd]at hd';cases hd'
  ·have z:=stay _ _ hm ho1
   rw[e]at z;cases z;obtain⟨c,r1,r2,r3⟩:=hR.fn p hp _ ho1 fd hd;exact⟨c,r1,r2,hcr _ _ r3⟩
theorem oC (hR:Mine.Internal.R Γ aa s) (hns:∀L∈frs,∃loc,(L,ab loc)∈aa):∀fr:List Env,(∀env∈fr,env.scope.kind≠ .module ∧∃L,env.frame=some L∧L∈frs)->s.heap.FunFrames (hideAll s.heap frs) fr:=fun z_=>by
 induction z_ with
 |nil=>exact fun _=>trivial
 |cons env r ih=>
  intro h;obtain⟨hk,L,hf,hL⟩:=h env (.head _);obtain⟨loc,hm⟩:=hns L hL;obtain⟨o,ho,es,ep,m,hd,_⟩:=hR.get hm;exact⟨hk,⟨L,o,hf,hideAll_none _ hL,ho,fun vs q=>by rw[hd]at q;cases q⟩,ih fun x hx=>h x (.tail _ hx)⟩
theorem Base.tail {fr:List Env} (h:Base Γ ownT ownR s0 frs (env::fr)):Base Γ ownT ownR s0 frs fr:=⟨h.less,h.R,h.ns,fun x hx=>h.fr x (.tail _ hx)⟩
theorem nh (hfr:A.frames=some (env::fr)) (h:Up Γ ownT (env::fr) X args e s') {Q:Unit->Shared->Prop} (hQ:∀s'',hZ Γ ownT fr X args e s''->Q () s''):wpAny M A (leaving env e) Q E s':=by
 rcases h with⟨a,ownR,s0,frs,vs,rfl,hb,hv,hg,ho,hx⟩|⟨a,t,ownR,s0,frs,vs,rfl,hb,hv,hg,ho,hfl,htp,hu⟩
 ·obtain⟨_,L,hf,_⟩:=hb.fr env (.head _)
  exact wpAny_leaves_madeW (base:=hideAll s0.heap frs) hfr hf (fun b o q=>of_hideAll _ q) (oC hb.R hb.ns _ hb.fr) hx fun h' t f1 f2 _ f4=>
   hQ _ ⟨a,t,ownR,s0,frs,vs,rfl,hb.tail,hv,hg,ho,f1,f2,(Heap.UpToSlots.of_keeps hx.keeps).trans f4⟩
 ·obtain⟨_,L,hf,_⟩:=hb.fr env (.head _)
  exact wpAny_leaves_onW hfr hf hfl fun h' f1 f2=>hQ _ ⟨a,t,ownR,s0,frs,vs,rfl,hb.tail,hv,hg,ho,f1,htp.of_slots f2,hu.trans f2⟩
theorem wl (hfr:A.frames=some (env::fr)) (h:hZ Γ ownT (env::fr) X args e s') {Q:Unit->Shared->Prop} (hQ:∀s'',hZ Γ ownT (env::fr) X args e s''->Q () s''):
 wpAny M A (noteFrame e env) (fun _ s2=>wpAny M A (setFlight e none) Q E s2) E s':=by
 obtain⟨a,t,ownR,s0,frs,vs,rfl,hb,hv,hg,ho,hfl,htp,hu⟩:=h;obtain⟨_,L,hf,_⟩:=hb.fr env (.head _);refine wpAny_looks_onW hfr hf hfl fun h' f1 f2=> ?_;refine wpAny_landsW f1 fun h'' f3 f4=> ?_;exact hQ _ ⟨a,t,ownR,s0,frs,vs,rfl,hb,hv,hg,ho,f3,(htp.of_slots f2).of_slots f4,(hu.trans f2).trans f4⟩
theorem tG (h:hZ Γ ownT fr X args e s') {Q:Unit->Shared->Prop} (hQ:∀s'',hZ Γ ownT fr X args e s''->Q () s''):wpAny M A (setFlight e none) Q E s':=by
 obtain⟨a,t,ownR,s0,frs,vs,rfl,hb,hv,hg,ho,hfl,htp,hu⟩:=h;exact lands_againW hfl fun h'' f3 f4=>hQ _ ⟨a,t,ownR,s0,frs,vs,rfl,hb,hv,hg,ho,f3,htp.of_slots f4,hu.trans f4⟩
theorem hZ.keeps {tk:Tok} (h:hZ Γ ownT fr X args e s') (k:∀b o,s'.heap.get? b=some o->h'.get? b=some o):hZ Γ ownT fr X args e {s' with heap:=h',toks:=tk}:=by
 obtain⟨a,t,ownR,s0,frs,vs,rfl,hb,hv,hg,ho,hfl,htp,hu⟩:=h;exact⟨a,t,ownR,s0,frs,vs,rfl,hb,hv,hg,ho,flying_keeps hfl k,htp.keeps k,hu.trans (Heap.UpToSlots.of_keeps k)⟩
theorem hZ.back (h:hZ Γ ownT fr X args e s'):∃a t vs,e= .ref a∧Mine.Internal.R Γ ownT s'∧VRs args vs∧s'.heap.ExcAt a X (.ref t)∧s'.heap.TupAt t vs:=by
 obtain⟨a,t,ownR,s0,frs,vs,rfl,hb,hv,hg,ho,hfl,htp,hu⟩:=h;obtain⟨oe,ws,h1,h2,h3,h4⟩:=hfl.first;exact⟨a,t,vs,rfl,(hb.R.slots hb.ns hfl.1 hu hg ho).sub hb.less,hv,⟨oe,ws,h1,h2,h3,h4⟩,htp⟩
end
noncomputable def WZ (Γ:Cx) (t:Sem α) (aa:Led) (F:Value->Shared->Prop):Prop:=∀A s,gJ Γ A->R Γ aa s->wpAny (model PR Γ.w) A t (fun _ _=>False) F s
noncomputable def bz (Γ:Cx) (f:Value) (as:List AV) (ks:List (Str×AV)) (aa:Led) (F:Value->Shared->Prop):Prop:=∀vs kv,VRs as vs->All2 KR ks kv->WZ Γ (call f vs kv) aa F
section
variable {γ:Type} {F F':Value->Shared->Prop}
theorem WZ.mono (h:WZ Γ m aa F) (hF:∀e s,F e s->F' e s):WZ Γ m aa F':=fun A s hA hR=>wpAny_mono (h A s hA hR) (fun _ _ x=>x) hF
theorem WZ.of_eq {m':Sem α} (e:m=m') (h:WZ Γ m' aa F):WZ Γ m aa F:=e▸h
theorem WZ.after {rel:β->α->Prop} {f:α->Sem γ} (h:W rel Γ m aa fun b o=>∀v,rel b v->WZ Γ (f v) o F):WZ Γ (m>>=f) aa F:=by
 intro A s hA hR;refine wpAny_bind (wpAny_mono (dJ (h A s hA hR)) ?_ fun _ _ x=>x);rintro v s' ⟨b,o,hv,hR',h⟩;exact h v hv A s' hA hR'
theorem df {st:Stmt} {rest:List Stmt} (h:WZ Γ (exec st env) aa F):WZ Γ (execs (st::rest) env) aa F:=fun A s hA hR=>
 wpAny_execs_cons (wpAny_mono (h A s hA hR) (fun _ _ x=>x.elim) fun _ _ x=>x)
theorem ni {test:Expr} {orelse:List Stmt} (h:WT Γ env test aa fun b o=>if b then WZ Γ (execs body env) o F else WZ Γ (execs orelse env) o F):WZ Γ (exec (.If test body orelse pos) env) aa F:=by
 intro A s hA hR;refine wpAny_If (wpAny_mono (dJ (h A s hA hR)) ?_ fun _ _ x=>x);rintro b s1 ⟨c,o1,rfl,hR1,h1⟩;cases c<;>exact h1 A s1 hA hR1
theorem qM {e:Expr} (h:WZ Γ (eval e env) aa F):WZ Γ (exec (.Return (some e) pos) env) aa F:=fun A s hA hR=>
 wpAny_Return_some (wpAny_mono (h A s hA hR) (fun _ _ x=>x.elim) fun _ _ x=>x)
theorem fO {x:Str} {p':Pos} {e:Expr} (h:WZ Γ (eval e env) aa F) (hs:swapsWith e (some (.Name x p')) pos.line env=pure false:=by kernel_rfl):WZ Γ (exec (.Assign [.Name x p'] e pos) env) aa F:=fun A s hA hR=>
 wpAny_Assign_Name (wpAny_mono (h A s hA hR) (fun _ _ x=>x.elim) fun _ _ x=>x) hs
theorem oE {f:Value} {first:List Value} {fas:List AV} {args:List Expr} {kws:List Keyword} (hf:VRs fas first) (h:WArgs Γ env pos args aa fun as o2=>WKw Γ env pos kws o2 fun ks o3=>
 bu Γ o3 f∧bz Γ f (fas++as) (((backToKw pos (keywordEach kws env)).filterMap (·.1)).zip ks) o3 F) (hplain:((backTo pos (starEach args env)).any (·.1)||(backToKw pos (keywordEach kws env)).any (·.1.isNone))=false:=by kernel_rfl) (hall:(backToKw pos (keywordEach kws env)).all (·.1.isSome)=true:=by kernel_rfl):
 WZ Γ (callWith pos f first (backTo pos (starEach args env)) (backToKw pos (keywordEach kws env))) aa F:=by
 have hlone:∀x,backTo pos (starEach args env)≠[(true,x)]:=fun x e=>by rw[e]at hplain;simp at hplain
 intro A s hA hR;refine callWith_of (P:=fun h=>∃o3 s',s'.heap=h∧R Γ o3 s'∧bu Γ o3 f) hplain (fun h hk=> ?_) ?_
 ·obtain⟨o3,s',rfl,hR',hk⟩:=hk
  exact hk s' hR'
 ·unfold WArgs at h
  generalize backTo pos (starEach args env)=L at h hlone
  have go:wpAny (model PR Γ.w) A (spliced L>>=fun vs=>holding (vs++(none:Option Value).toList) (do
   let ks ←evalAll ((backToKw pos (keywordEach kws env)).map (·.2))
   let ps ←(Pure.pure vs:Sem (List Value))
   (Pure.pure ⟨ps,((backToKw pos (keywordEach kws env)).filterMap (·.1)).zip ks⟩:Sem Args)))
   (fun a s₁=>(∃o3 s',s'.heap=s₁.heap∧R Γ o3 s'∧bu Γ o3 f)∧wpAny (model PR Γ.w) A (call f (first++a.pos) a.kw) (fun _ _=>False) F s₁) F s:=by
   refine wpAny_bind (wpAny_mono (dJ (h A s hA hR)) ?_ fun _ _ x=>x);rintro vs s2 ⟨as,o2,hvs,hR2,h2⟩;refine wpAny_holding (wpAny_bind (wpAny_mono (dJ (h2 A s2 hA hR2)) ?_ fun _ _ x=>x));rintro ks s3 ⟨kas,o3,hks,hR3,hk,h3⟩;refine wpAny_bind (wpAny_pure (wpAny_pure ⟨⟨o3,s3,rfl,hR3,hk⟩,?_⟩));exact h3 _ _ (hf.append hvs) (qV hks) A s3 hA hR3
  unfold evalArgs;rcases L with _|⟨⟨b,x⟩,_|⟨p,r⟩⟩
  ·rw[hall];exact go
  ·cases b with
   |true=>exact absurd rfl (hlone x)
   |false=>rw[hall];exact go
  ·cases b<;>(rw[hall];exact go)
theorem iD {func:Expr} {args:List Expr} {kws:List Keyword} (h:WE Γ env func aa fun fa o1=>∃f,fa= .val f∧WArgs Γ env pos args o1 fun as o2=>WKw Γ env pos kws o2 fun ks o3=>
 bu Γ o3 f∧bz Γ f as (((backToKw pos (keywordEach kws env)).filterMap (·.1)).zip ks) o3 F) (he:eval (.Call func args kws pos) env=(do callWith pos (←eval func env) [] (backTo pos (starEach args env)) (backToKw pos (keywordEach kws env))):=by kernel_rfl) (hplain:((backTo pos (starEach args env)).any (·.1)||(backToKw pos (keywordEach kws env)).any (·.1.isNone))=false:=by kernel_rfl) (hall:(backToKw pos (keywordEach kws env)).all (·.1.isSome)=true:=by kernel_rfl):WZ Γ (eval (.Call func args kws pos) env) aa F:=by
 refine WZ.of_eq he (WZ.after (rel:=VR) (h.mono fun fa o1 h1 v hv=> ?_));obtain⟨f,rfl,h1⟩:=h1;cases hv;exact oE (fas:=[]) .nil (by simpa using h1) hplain hall
noncomputable abbrev Cx.fr (Γ:Cx) (fr:List Env):Cx:={Γ with k:=Γ.k-1,pa:=fun f=>f=some fr}
theorem gJ.fr {fr:List Env} (h:gJ Γ A) (hk:0<Γ.k) (hpa:∀x,Γ.pa x->x=some fr):gJ (Γ.fr (env::fr)) (A.deeper env):=by
 obtain⟨h1,h2,h3,h4⟩:=h;refine⟨h1,?_,?_,?_⟩
 ·show A.depth+1+(Γ.k-1)<700;omega
 ·show A.units+3+16*(Γ.k-1)<5000;omega
 ·show A.frames.map (env::·)=some (env::fr)
  rw[hpa _ h4];rfl
theorem hZ.cx {fr fr':List Env} {X:String} {args:List AV} {e:Value} {s':Shared} (h:hZ (Γ.fr fr') ownT fr X args e s'):hZ Γ ownT fr X args e s':=by
 obtain⟨a,t,ownR,s0,frs,vs,rfl,hb,r⟩:=h;exact⟨a,t,ownR,s0,frs,vs,rfl,⟨hb.less,⟨hb.R.keep,hb.R.ow,hb.R.nd,hb.R.ap,hb.R.gens,hb.R.os,hb.R.tb,hb.R.fn⟩,hb.ns,hb.fr⟩,r⟩
theorem R.fr {fr:List Env} (h:R Γ.dn aa s):R (Γ.fr fr) aa s:=⟨h.keep,h.ow,h.nd,h.ap,h.gens,h.os,h.tb,h.fn⟩
theorem fP {fr:List Env} {X:String} {args:List AV} (hk:0<Γ.k) (hT:TopG Γ) (hpa:∀x,Γ.pa x->x=some fr) (hf:∀s,R Γ aa s->(∃o,s.heap.get? f=some o∧o.data= .func fd)∧s.heap.CodeRec fd.code fd.qualname) (hbody:fd.body= .stmts body) (hn:(loc.map (·.1)).Nodup) (h0:∀p∈loc,p.2=none) (h:WB Γ.dn fd as ks aa fun abs o=>∀L cs,cs.map (·.1)=a_ fd.scope.names->WBinds Γ.dn (ah fd f L (cs++fd.closure)) abs (cJ cs++(L,ab loc)::o)
 fun o1=>WZ (Γ.fr (ah fd f L (cs++fd.closure)::fr)) (execs body (ah fd f L (cs++fd.closure))) o1 (Up (Γ.fr (ah fd f L (cs++fd.closure)::fr)) ownT (ah fd f L (cs++fd.closure)::fr) X args)) (hco:fd.scope.isCoroutine=false:=by rfl) (hgen:fd.scope.isGenerator=false:=by rfl):bz Γ (.ref f) as ks aa (hZ Γ ownT fr X args):=by
 intro vs kv hvs hkv A s hA hR;obtain⟨⟨o,ho,hd⟩,hcd⟩:=hf s hR;refine wpAny_call (codeAny_call_function hA.room ho hd hco hgen hbody hcd ?_);refine W.go (h vs kv hvs hkv) (hA.in1 hk) hR.dn fun binds s1 abs o1 hbs hR1 h1=> ?_;refine W.goE (eG (Γ:=Γ.dn) (K:=fun env o1=>WZ (Γ.fr (env::fr)) (execs body env) o1 (Up (Γ.fr (env::fr)) ownT (env::fr) X args)) hbs hn h0 h1) (hA.in1 hk) hR1 fun env' s2 o1 hR2 h2=> ?_;refine⟨hT.nolimit hR2.up,codeAny_func (wpAny_mono (h2 _ s2 (hA.fr hk hpa) hR2.fr) (fun _ _ x=>x.elim) fun e s3 hup=> ?_)⟩;exact nh (Around.frames_deeper (hpa _ hA.2.2.2)) hup fun s4 h4=>h4.cx
theorem iE {body:Expr} {fr:List Env} {X:String} {args:List AV} (hk:0<Γ.k) (hT:TopG Γ) (hpa:∀x,Γ.pa x->x=some fr) (hf:∀s,R Γ aa s->(∃o,s.heap.get? f=some o∧o.data= .func fd)∧s.heap.CodeRec fd.code fd.qualname) (hbody:fd.body= .expr body) (hn:(loc.map (·.1)).Nodup) (h0:∀p∈loc,p.2=none) (h:WB Γ.dn fd as ks aa fun abs o=>∀L cs,cs.map (·.1)=a_ fd.scope.names->WBinds Γ.dn (ah fd f L (cs++fd.closure)) abs (cJ cs++(L,ab loc)::o)
 fun o1=>WZ (Γ.fr (ah fd f L (cs++fd.closure)::fr)) (eval body (ah fd f L (cs++fd.closure))) o1 (Up (Γ.fr (ah fd f L (cs++fd.closure)::fr)) ownT (ah fd f L (cs++fd.closure)::fr) X args)) (hco:fd.scope.isCoroutine=false:=by rfl) (hgen:fd.scope.isGenerator=false:=by rfl):bz Γ (.ref f) as ks aa (hZ Γ ownT fr X args):=by
 intro vs kv hvs hkv A s hA hR;obtain⟨⟨o,ho,hd⟩,hcd⟩:=hf s hR;refine wpAny_call (kla_callFunE hA.room ho hd hco hgen hbody hcd ?_);refine W.go (h vs kv hvs hkv) (hA.in1 hk) hR.dn fun binds s1 abs o1 hbs hR1 h1=> ?_;refine W.goE (eG (Γ:=Γ.dn) (K:=fun env o1=>WZ (Γ.fr (env::fr)) (eval body env) o1 (Up (Γ.fr (env::fr)) ownT (env::fr) X args)) hbs hn h0 h1) (hA.in1 hk) hR1 fun env' s2 o1 hR2 h2=> ?_;refine⟨hT.nolimit hR2.up,kla_codeExpr (wpAny_mono (h2 _ s2 (hA.fr hk hpa) hR2.fr) (fun _ _ x=>x.elim) fun e s3 hup=> ?_)⟩;exact nh (Around.frames_deeper (hpa _ hA.2.2.2)) hup fun s4 h4=>h4.cx
theorem pz {fr:List Env} {X:String} {vs:List Value} {e:Addr} (hR:R Γ aa s) (hfr:∀env∈fr,env.scope.kind≠ .module ∧∃L loc,env.frame=some L∧(L,ab loc)∈aa) (hl:Less ownT aa) (hv:VRs as vs) (hx:Heap.MadeExc s.heap h' e X vs):Du Γ ownT fr X as (.ref e) {s with heap:=h'}:=
 ⟨e,aa,s,fr.filterMap (·.frame),vs,rfl,⟨hl,hR,fun L hL=>by
   obtain⟨env,he,hf⟩:=IA.mp hL;obtain⟨_,L',loc,hf',hm⟩:=hfr env he;rw[hf]at hf';cases hf';exact⟨loc,hm⟩,fun env he=>by
   obtain⟨hk,L,loc,hf,_⟩:=hfr env he;exact⟨hk,L,hf,IA.mpr ⟨env,he,hf⟩⟩⟩,hv,rfl,rfl,⟨hx.keeps,hx.new,hx.there⟩⟩
theorem lv {x:Str} {np cpos:Pos} {e₀:Expr} {rest:List Expr} {fr:List Env} (h:WE Γ env (.Name x np) aa fun a o=>a= .val (.type "ValueError")∧WArgs Γ env cpos (e₀::rest) o fun vs o2=>vs=as∧as.length≤sizeLine∧Less ownT o2∧∀env∈fr,env.scope.kind≠ .module ∧∃L loc,env.frame=some L∧(L,ab loc)∈o2) (he:starEach (e₀::rest) env=(false,eval e₀ env)::starEach rest env:=by kernel_rfl) (hplain:(backTo cpos (starEach rest env)).any (·.1)=false:=by kernel_rfl):
 WZ Γ (exec (.Raise (some (.Call (.Name x np) (e₀::rest) [] cpos)) none pos) env) aa (Up Γ ownT fr "ValueError" as):=by
 intro A s hA hR;refine Raise_madeB F.excCall_ValueError F.excRaise_ValueError hA.1 (wpAny_mono (dJ (h A s hA hR)) ?_ fun _ _ x=>x) he hplain;rintro v s1 ⟨a,o1,hv,hR1,rfl,h1⟩;cases hv;refine⟨rfl,wpAny_mono (dJ (h1 A s1 hA hR1)) ?_ fun _ _ x=>x⟩;rintro vs s2 ⟨as',o2,hvs,hR2,rfl,hz,hl,hfr⟩;exact⟨by rw[←hvs.length];exact hz,fun h' e hx=> .inl (pz hR2 hfr hl hvs hx)⟩
theorem qN {x:Str} {np:Pos} {fr:List Env} (hT:TopG Γ) (hk:Kd env x .globalImplicit) (he:EnvOk env) (e:nsIn (Mine.Internal.hd.heap_1 Γ.w.params) mainGlobals x=some none) (hv:bootBuiltins x=some (.type "ZeroDivisionError")) (hn:(x==("__name__":Str))=false) (hl:Less ownT aa) (hfr:∀env∈fr,env.scope.kind≠ .module ∧∃L loc,env.frame=some L∧(L,ab loc)∈aa):WZ Γ (exec (.Raise (some (.Name x np)) none pos) env) aa (Up Γ ownT fr "ZeroDivisionError" []):=by
 intro A s hA hR;obtain⟨p,l,T⟩:=hT.T;refine qL hA.1 (Calls.Name_function_global hk.f hk.k (Calls.loadGlobal_builtin (by rw[he.g];exact T.g.keeps hR.keep) (mg_none_of hT.X T.g e) (by rw[he.b];exact T.b.keeps hR.keep) ((T.builtins x (fun q=>by rw[q]at hn;simp at hn)).trans hv) ⟨rfl,rfl⟩) hk.d) fun h' e hx=> .inl (pz hR hfr hl .nil hx)
end
end
section
noncomputable abbrev q31:Str:="law.<locals>.<lambda>.<locals>.<lambda>"
noncomputable abbrev Cx.mv (Γ:Cx) (h:Heap) (c P:Addr):Cx:={Γ with h0:=h,tabs:=(c,P,q31)::Γ.tabs,fl:=false}
inductive PostM {α β:Type} (rel:β->α->Prop) (Γ:Cx) (K:β->Led->Heap->Addr->Addr->Prop) (v:α) (s:Shared):Prop|mk (b:β) (o:Led) (h:Heap) (c P:Addr):rel b v->Sub Γ h->R (Γ.mv h c P) o s->K b o h c P->PostM rel Γ K v s
noncomputable def WM (rel:β->α->Prop) (Γ:Cx) (t:Sem α) (aa:Led) (K:β->Led->Heap->Addr->Addr->Prop):Prop:=
 ∀A s,gJ Γ A->R Γ aa s->wpAny (model PR Γ.w) A t (PostM rel Γ K) (fun _ _=>False) s
section
variable {γ δ:Type} {rel:β->α->Prop} {rel2:δ->γ->Prop}
theorem WM.bind {f:α->Sem γ} {K:δ->Led->Heap->Addr->Addr->Prop} (h:WM rel Γ m aa fun b o h c P=>∀v,rel b v->W rel2 (Γ.mv h c P) (f v) o fun d o2=>K d o2 h c P):WM rel2 Γ (m>>=f) aa K:=by
 intro A s hA hR;refine wpAny_bind (wpAny_mono (h A s hA hR) ?_ fun _ _ x=>x);rintro v s' ⟨b,o1,hh,c,P,hv,hU,hR',h⟩;refine wpAny_mono (h v hv A s' hA hR') ?_ fun _ _ x=>x;rintro v2 s2 ⟨d,o2,hv2,hR2,hK⟩;exact⟨d,o2,hh,c,P,hv2,hU,hR2,hK⟩
theorem WM.after {f:α->Sem γ} {K:δ->Led->Heap->Addr->Addr->Prop} (h:W rel Γ m aa fun b o=>∀v,rel b v->WM rel2 Γ (f v) o K):WM rel2 Γ (m>>=f) aa K:=by
 intro A s hA hR;refine wpAny_bind (wpAny_mono (h A s hA hR) ?_ fun _ _ x=>x);rintro v s' ⟨b,o1,hv,hR',h⟩;exact h v hv A s' hA hR'
theorem WM.of_eq {m':Sem α} {K:β->Led->Heap->Addr->Addr->Prop} (e:m=m') (h:WM rel Γ m' aa K):WM rel Γ m aa K:=e▸h
theorem WM.sub {K:β->Led->Heap->Addr->Addr->Prop} (hs:Less ao aa) (h:WM rel Γ m ao K):WM rel Γ m aa K:=fun A s hA hR=>h A s hA (hR.sub hs)
noncomputable abbrev kg (Γ:Cx) (env:Env) (pos:Pos) (es:List Expr) (aa:Led) (K:List AV->Led->Heap->Addr->Addr->Prop):Prop:=WM VRs Γ (spliced (backTo pos (starEach es env))) aa K
theorem wm {e:Expr} {rest:List Expr} {K:List AV->Led->Heap->Addr->Addr->Prop} (h:WE Γ env e aa fun a o1=>kg Γ env pos rest o1 fun as o2=>K (a::as) o2) (he:starEach (e::rest) env=(false,eval e env)::starEach rest env:=by kernel_rfl):kg Γ env pos (e::rest) aa K:=by
 intro A s hA hR;refine wpAny_items_cons (wpAny_mono (h A s hA hR) ?_ fun _ _ x=>x) he;rintro v s1 ⟨a,o1,hv,hR1,h1⟩;refine wpAny_mono (h1 A s1 hA hR1) ?_ fun _ _ x=>x;rintro vs s2 ⟨as,o2,hh,c,P,hvs,hU,hR2,h2⟩;exact⟨_,o2,hh,c,P,.cons hv hvs,hU,hR2,h2⟩
theorem wn {e:Expr} {rest:List Expr} {K:List AV->Led->Heap->Addr->Addr->Prop} (h:WM VR Γ (eval e env) aa fun a o1 h c P=>WArgs (Γ.mv h c P) env pos rest o1 fun as o2=>K (a::as) o2 h c P) (he:starEach (e::rest) env=(false,eval e env)::starEach rest env:=by kernel_rfl):kg Γ env pos (e::rest) aa K:=by
 intro A s hA hR;refine wpAny_items_cons (wpAny_mono (h A s hA hR) ?_ fun _ _ x=>x) he;rintro v s1 ⟨a,o1,hh,c,P,hv,hU,hR1,h1⟩;refine wpAny_mono (h1 A s1 hA hR1) ?_ fun _ _ x=>x;rintro vs s2 ⟨as,o2,hvs,hR2,h2⟩;exact⟨_,o2,hh,c,P,.cons hv hvs,hU,hR2,h2⟩
theorem z7 {K:AV->Led->Heap->Addr->Addr->Prop} (h:kg Γ env pos elts aa fun as o h c P=>as.length≤sizeLine∧∀a,K (.ref a) (lL a as::o) h c P):WM VR Γ (eval (.List elts pos) env) aa K:=by
 refine WM.of_eq (arm_eval_List elts pos env) (WM.after (rel:=fun(_:Unit) (_:Unit)=>True) (W.standAt fun _ _=>WM.bind (rel:=VRs) fun A s hA hR=>wpAny_mono (h A s hA hR) ?_ fun _ _ x=>x));rintro vs s' ⟨as,o,hh,c,P,hv,hU,hR',hz,hK⟩;exact⟨as,o,hh,c,P,hv,hU,hR',fun v hv=>ib hv hz hK⟩
theorem kh {x:Str} {p':Pos} {e:Expr} {K:AF->Led->Heap->Addr->Addr->Prop} (h:WM VR Γ (eval e env) aa fun a o h c P=>WSt (Γ.mv h c P) env x a o fun o2=>K .next o2 h c P) (hs:swapsWith e (some (.Name x p')) pos.line env=pure false:=by kernel_rfl):WM FR Γ (exec (.Assign [.Name x p'] e pos) env) aa K:=by
 intro A s hA hR;refine wpAny_Assign_Name (wpAny_mono (h A s hA hR) ?_ fun _ _ x=>x) hs;rintro v s1 ⟨a,o1,hh,c,P,hv,hU,hR1,h1⟩;refine wpAny_mono (h1 v hv A s1 hA hR1) ?_ fun _ _ x=>x;rintro _ s2 ⟨_,o2,_,hR2,h2⟩;exact⟨_,o2,hh,c,P,.next,hU,hR2,h2⟩
theorem wo {st:Stmt} {rest:List Stmt} {K:AF->Led->Heap->Addr->Addr->Prop} (J:Led->Prop) (h:WX Γ env st aa fun f o=>f= .next ∧J o) (h2:∀o,J o->WM FR Γ (execs rest env) o K):WM FR Γ (execs (st::rest) env) aa K:=by
 intro A s hA hR;refine wpAny_execs_cons (wpAny_mono (h A s hA hR) ?_ fun _ _ x=>x);rintro f s1 ⟨c,o1,hf,hR1,rfl,h1⟩;cases hf;exact h2 o1 h1 A s1 hA hR1
theorem wp {st:Stmt} {rest:List Stmt} {K:AF->Led->Heap->Addr->Addr->Prop} (J:Led->Heap->Addr->Addr->Prop) (h:WM FR Γ (exec st env) aa fun f o h c P=>f= .next ∧J o h c P) (h2:∀o h c P,J o h c P->WS (Γ.mv h c P) env rest o fun f o2=>K f o2 h c P):WM FR Γ (execs (st::rest) env) aa K:=by
 intro A s hA hR;refine wpAny_execs_cons (wpAny_mono (h A s hA hR) ?_ fun _ _ x=>x);rintro f s1 ⟨c0,o1,hh,c,P,hf,hU,hR1,rfl,h1⟩;cases hf;refine wpAny_mono (h2 o1 hh c P h1 A s1 hA hR1) ?_ fun _ _ x=>x;rintro f s2 ⟨c1,o2,hf,hR2,hK⟩;exact⟨c1,o2,hh,c,P,hf,hU,hR2,hK⟩
end
section
variable {M:Model} {name qual:Str} {params:Arguments} {body:Expr} {c P:Addr} {ps:Array Value} {firstLine:Nat} {mg:Str->Option Value} {q:Str×Addr} {r:List (Str×Addr)}
theorem z8 (hcl:closureFor scope env=pure (q::r)) (hge0:env.globals=mainGlobals) (hg:s.heap.Ns mainGlobals mg) (hcode:env.code= .ref c) (C:CodeHd s.heap c P) (hP:s.heap.get? P=some (tabObj ps)) (ht:TriplesOk ps.toList) (hnf:codeAmong pos ps.toList=none) (hgP:mainGlobals≠P) (hb:s.heap.BuiltinsAt mg P) (h:∀c' aq h' tk P',Heap.ExtBut P s.heap h'->s.heap.objs.size≤c'->c'<h'.objs.size->h'.CodeRec (.ref c') qual->h'.get? P=some (tabObj (ps++ #[rawInt pos.line,rawInt pos.col,.ref c']))->s.heap.objs.size≤P'->CodeHd h' c' P'->h'.get? P'=some (tabObj #[])->
 Q (.ref h'.objs.size) {s with heap:=h'.push (kla_obj name qual params body scope (q::r) ((mg "__name__").getD .none) c' aq),toks:=tk}):
 wpAny M A (makeFunction name qual params (.expr body) scope env [] [] [] pos firstLine) Q E s:=by
 rw[makeFunction_eq];simp only[List.zip_nil_right,List.filterMap_nil,IZ,if_true,pure_bind];obtain⟨bm,ob,hbm,hne0,_,hneP,hbo,hcls,hdict,hdata⟩:=hb;unfold makeTail;rw[hcl,hge0];refine wpAny_bind (wpAny_pure ?_);simp only[List.isEmpty_cons,E1,if_false];refine wpAny_bind (wpAny_newTextTuple ?_);refine wpAny_bind (wpAny_functionCodeX hcode ((C.keeps fun b o e=>Heap.get?_push_of_some _ e).code (Heap.get?_push_of_some _ hP) ht) ((C.keeps fun b o e=>Heap.get?_push_of_some _ e).tab (Heap.get?_push_of_some _ hP)) hnf fun c' h' tk hx hge hlt _ hrec htb hT=> ?_);obtain⟨P',hPs,hPc,hPt⟩:=hT;have hg':=(hg.push _).extBut hx hgP;have hx':Heap.ExtBut P s.heap h':=fun b o hb' e=>hx b o hb' (Heap.get?_push_of_some _ e);have hge':s.heap.objs.size≤c':=Ep (by rw[Heap.size_push];omega) hge;have hPs':s.heap.objs.size≤P':=Ep (by rw[Heap.size_push];omega) hPs;refine wpAny_bind (wpAny_builtinsFor hg' hbm hne0 (hx' _ _ hneP hbo) hcls hdict hdata ?_);refine wpAny_bind (wpAny_nsGet hg' ?_);exact wpAny_bind (wpAny_pure (wpAny_newObj_type (h c' _ h' tk P' hx' hge' hlt hrec htb.2 hPs' (CodeHd.of hPc hPt) hPt.2) (by size_fits)))
end
section
theorem R.nofl (h:R Γ aa s):R {Γ with fl:=false} aa s:=
 ⟨h.keep,h.ow,h.nd,h.ap,h.gens,h.os,fun t ht=>⟨(h.tb t ht).1,(h.tb t ht).2.elim fun a x=>x.elim fun ps y=>⟨a,ps,y.1,y.2.1,fun pos cv e=>(y.2.2 pos cv e).elim fun c z=>⟨c,z.1,z.2.1,z.2.2.1,fun q=>nomatch q⟩⟩⟩,h.fn⟩
theorem tH {params:Arguments} {body:Expr} {a0:Str×Addr} {r0:List (Str×Addr)} {c P:Addr} {q:Str} {K:AV->Led->Heap->Addr->Addr->Prop} (hS:Std Γ) (hfl:Γ.fl=true) (hp:tU pos=true) (ht:(c,P,q)∈fX) (hcode:env.code= .ref c) (hge:env.globals=mainGlobals) (hq:env.qual++("<lambda>":Str)=q) (hdef:defaultsOf params env=([],[])) (hcl:closureFor scope env=pure (a0::r0)) (h:∀f pm c' aq h P',Std (Γ.mv h c' P')->K (.ref f) ((f,bg (kla_obj "<lambda>" q params body scope (a0::r0) pm c' aq))::aa) h c' P'):WM VR Γ (eval (.Lambda params body scope pos) env) aa K:=by
 intro A s hA hR;refine kla_eval hdef ?_;rw[hq];have hT:=hS.T;have htm:=hS.mem _ ht;obtain⟨hP0,hPk,ps,hP,htr,hall⟩:=hR.tb _ htm;have C:=(hT.C _ htm).keeps hR.keep;obtain⟨hgP,hb,hg⟩:=hT.bat hR hP0
 have hnf:codeAmong pos ps.toList=none:=by
  cases e:codeAmong pos ps.toList with
  |none=>rfl
  |some cv=>
   obtain⟨_,_,_,_,x⟩:=hall _ _ e;rw[x hfl]at hp;cases hp
 refine z8 hcl hge hg hcode C hP htr hnf hgP hb fun c' aq h' tk P' hx hge' hlt hrec htb hPs hCh hPt=> ?_;have hR0:R {Γ with fl:=false} aa {s with heap:=h',toks:=tk}:=hR.nofl.tabUpd (pos:=pos) (tk:=tk) htm (hS.uniq ht) hP hx htb hrec hge' fun q=>nomatch q;have notown:∀b,s.heap.objs.size≤b->b∉keys aa:=fun b hb hm=>absurd (hR.lt hm) (F3.mpr hb);have nottab:∀b,s.heap.objs.size≤b->b∉dD Γ:=fun b hb hm=>absurd (hR.tab_lt hm) (F3.mpr hb);have hPlt:P'<h'.objs.size:=Heap.lt_size hPt
 have hge2:∀b,b∈keys aa->b≠h'.objs.size:=fun b hm e=>by
  have:=hR0.lt hm;rw[e]at this;exact absurd this (Fa _)
 generalize hob:kla_obj "<lambda>" q params body scope (a0::r0) ((Γ.mg "__name__").getD .none) c' aq=ob at*
 have hcode':∀fd,ob.data= .func fd->fd.code= .ref c'∧fd.qualname=q:=fun fd e=>by
  rw[←hob]at e;cases e;exact⟨rfl,rfl⟩
 have hR1:R {Γ with fl:=false} ((h'.objs.size,bg ob)::aa) {s with heap:=h'.push ob,toks:=tk}:=by
  refine R.new (t:=tk) hR0 (h':=h'.push ob) (a:=h'.objs.size) (P:=bg ob) (fun _ _ e=>Heap.get?_push_of_some _ e) (Heap.get?_push_size _ (by rw[←hob];rfl)) rfl (Heap.get?_none_of_le (EL _)) ?_ ?_
  ·intro fd e
   obtain⟨e1,e2⟩:=hcode' fd e;rw[e1,e2];exact⟨c',rfl,notown _ hge',hrec.keeps fun _ _ e=>Heap.get?_push_of_some _ e⟩
  ·intro fd e e2
   rw[(hcode' fd e).1]at e2;cases e2;exact absurd hlt (Fa _)
 let H:Heap:=hideAll (h'.push ob) (P'::(keys ((h'.objs.size,bg ob)::aa)++dD Γ))
 have hsub:Sub Γ H:=fun b o e=>by
  have e1:=hR1.keep b o e;refine hideAll_get _ e1 fun hm=> ?_;rcases EG.mp hm with hm|hm
  ·have:=Heap.lt_size (hR.keep b o e)
   rw[hm]at this;exact absurd (Ev this hPs) (Fa _)
  ·rcases E3.mp hm with hm|hm
   ·obtain⟨p,hp,rfl⟩:=EP.mp hm
    have:=hR1.ap p hp;rw[show Γ.h0.get? p.1=none from this]at e;cases e
   ·obtain⟨t,ht',rfl⟩:=EP.mp hm
    rw[(hR.tb t ht').1]at e;cases e
 have hPn:P'∉dD Γ:=nottab _ hPs
 have hS':Std (Γ.mv H c' P'):=by
  refine⟨⟨(hT.at hsub).T,(hT.at hsub).X,fun t ht'=> ?_⟩,fun t ht'=> .tail _ (hS.mem t ht'),?_⟩
  ·rcases EG.mp ht' with rfl|ht'
   ·show CodeHd H c' P'
    obtain⟨o,vs,file,tf,flags,tg,inF,text,tt,e,r1,r2,r3,r4,r5,r6,r7,r8,r9⟩:=hCh;refine⟨o,vs,file,tf,flags,tg,inF,text,tt,hideAll_get _ (Heap.get?_push_of_some _ e) (fun hm=> ?_),r1,r2,r3,r4,r5,r6,r7,r8,r9⟩;rcases EG.mp hm with hm|hm
    ·exact r9 hm
    ·rcases E3.mp hm with hm|hm
     ·rcases EG.mp hm with hm|hm
      ·exact absurd (show c'<h'.objs.size from hlt) (by rw[show c'=h'.objs.size from hm];exact Fa _)
      ·exact notown _ hge' hm
     ·exact nottab _ hge' hm
   ·exact(hT.C t ht').keeps hsub
  ·show((P'::Γ.tabs.map (·.2.1)):List Addr).Nodup
   rw[E2];exact⟨hPn,hS.nd⟩
 have hR2:R (Γ.mv H c' P') ((h'.objs.size,bg ob)::aa) {s with heap:=h'.push ob,toks:=tk}:=by
  refine⟨fun b o e=>of_hideAll _ e,hR1.ow,hR1.nd,fun p hp=>hideAll_none _ (.tail _ (EY _ (EE (f:=(·.1)) hp))),hR1.gens,hR1.os,fun t ht'=> ?_,hR1.fn⟩;rcases EG.mp ht' with rfl|ht'
  ·refine⟨hideAll_none _ (.head _),fun hm=> ?_,#[],Heap.get?_push_of_some _ hPt,trivial,fun pos cv e=>nomatch e⟩
   rcases EG.mp hm with hm|hm
   ·exact absurd (show P'<h'.objs.size from hPlt) (by rw[show P'=h'.objs.size from hm];exact Fa _)
   ·exact notown _ hPs hm
  ·exact⟨hideAll_none _ (.tail _ (EC _ (EE (f:=(·.2.1)) ht'))),(hR1.tb t ht').2⟩
 refine⟨.ref h'.objs.size,_,H,c',P',.val _,hsub,hR2,?_⟩;have:=h h'.objs.size ((Γ.mg "__name__").getD .none) c' aq H P' hS';rw[hob]at this;exact this
end
end
section
noncomputable def cu (aa:Led) (fr:List Env):Prop:=∀env∈fr,env.scope.kind≠ .module ∧∃L loc,env.frame=some L∧(L,ab loc)∈aa
theorem cu.up {fr:List Env} (h:cu aa fr) (hs:∀q,q∈aa->q∈ao):cu ao fr:=fun env he=>by
 obtain⟨a,L,loc,b,c⟩:=h env he;exact⟨a,L,loc,b,hs _ c⟩
theorem cu.cons {fr:List Env} {q:Addr×OP} (h:cu aa fr):cu (q::aa) fr:=h.up fun _=> .tail _
theorem cu.push {fr:List Env} (h:cu aa fr) (hm:(L,ab loc)∈aa) (hk:fd.scope.kind≠ .module):cu aa (ah fd f L cs::fr):=fun env he=>by
 rcases EG.mp he with rfl|he
 ·exact⟨hk,L,loc,rfl,hm⟩
 ·exact h env he
theorem TopG.fr (h:TopG Γ) {fr:List Env}:TopG (Γ.fr fr):=⟨h.T,h.X,h.C⟩
theorem Std.fr (h:Std Γ) {fr:List Env}:Std (Γ.fr fr):=⟨h.T.fr,h.mem,h.nd⟩
theorem bz.mono {f:Value} {F F':Value->Shared->Prop} (h:bz Γ f as ks aa F) (hF:∀e s,F e s->F' e s):bz Γ f as ks aa F':=fun vs kv h1 h2=>(h vs kv h1 h2).mono hF
noncomputable abbrev dz:AV:= .str "lo must be non-negative"
theorem Eg {l x hi key:AV} {fr:List Env} (hT0:TopG Γ) (hk:0<Γ.k) (hpa:∀x,Γ.pa x->x=some fr) (hfr:cu aa fr) (hl:Less ownT aa) (hb:∀{K':List (Str×AV)->Led->Prop},K' [("a",l),("x",x),("lo",.int (-1)),("hi",hi),("key",key)] aa->WB Γ.dn (ak Γ.w.params 32) as ks aa K'):
 bz Γ (.ref 32) as ks aa (hZ Γ ownT fr "ValueError" [dz]):=by
 refine fP hk hT0 hpa (fun s hR=>(ny _).hf hT0 s hR) (rp _) B9 B_ (hb fun L cs hcs=> ?_) (by kernel_rfl) (by kernel_rfl);rw[af (cs:=cs) hcs];show WBinds _ (ah (ak Γ.w.params 32) 32 L []) _ ((L,ab _)::aa) _;refine st_local (ka32.at 0 (by kernel_rfl)) lf (by show"upd") (by show"put") ?_;refine st_local (ka32.at 1 (by kernel_rfl)) lf (by show"upd") (by show"put") ?_;refine st_local (ka32.at 2 (by kernel_rfl)) lf (by show"upd") (by show"put") ?_;refine st_local (ka32.at 3 (by kernel_rfl)) lf (by show"upd") (by show"put") ?_;refine st_local (ka32.at 4 (by kernel_rfl)) lf (by show"upd") (by show"put") ?_;show WZ (Γ.fr (ah (ak Γ.w.params 32) 32 L []::fr)) (execs (ay Γ.w.params 32) (ah (ak Γ.w.params 32) 32 L [])) ((L,ab [("a",some l),("x",some x),nI "lo" (-1),("hi",some hi),("key",some key),("mid",none)])::aa) _;have hT:TopG (Γ.fr (ah (ak Γ.w.params 32) 32 L []::fr)):=hT0.fr;clear hT0;refine df (ni ?_);show"w32";rw[show decide ((-1:Int)<0)=true from rfl];show"w32";refine df (lv ?_);show"w32";refine⟨rfl,?_⟩;show"w32";refine⟨rfl,ac (Eo rfl),Less.skip hl,?_⟩;exact cu.push hfr.cons (.head _) (by intro h;exact nomatch (show ScopeKind.function=ScopeKind.module from h))
theorem Eh {l x hi key:AV} {fr:List Env} (hT0:TopG Γ) (hk:0<Γ.k) (hpa:∀x,Γ.pa x->x=some fr) (hfr:cu aa fr) (hl:Less ownT aa) (hb:∀{K':List (Str×AV)->Led->Prop},K' [("a",l),("x",x),("lo",.int (-1)),("hi",hi),("key",key)] aa->WB Γ.dn (ak Γ.w.params 50) as ks aa K'):
 bz Γ (.ref 50) as ks aa (hZ Γ ownT fr "ValueError" [dz]):=by
 refine fP hk hT0 hpa (fun s hR=>(nz _).hf hT0 s hR) (rA _) B9 B_ (hb fun L cs hcs=> ?_) (by kernel_rfl) (by kernel_rfl);rw[af (cs:=cs) hcs];show WBinds _ (ah (ak Γ.w.params 50) 50 L []) _ ((L,ab _)::aa) _;refine st_local (ka50.at 0 (by kernel_rfl)) lf (by show"upd") (by show"put") ?_;refine st_local (ka50.at 1 (by kernel_rfl)) lf (by show"upd") (by show"put") ?_;refine st_local (ka50.at 2 (by kernel_rfl)) lf (by show"upd") (by show"put") ?_;refine st_local (ka50.at 3 (by kernel_rfl)) lf (by show"upd") (by show"put") ?_;refine st_local (ka50.at 4 (by kernel_rfl)) lf (by show"upd") (by show"put") ?_;show WZ (Γ.fr (ah (ak Γ.w.params 50) 50 L []::fr)) (execs (ay Γ.w.params 50) (ah (ak Γ.w.params 50) 50 L [])) ((L,ab [("a",some l),("x",some x),nI "lo" (-1),("hi",some hi),("key",some key),("mid",none)])::aa) _;have hT:TopG (Γ.fr (ah (ak Γ.w.params 50) 50 L []::fr)):=hT0.fr;clear hT0;refine df (ni ?_);show"w50";rw[show decide ((-1:Int)<0)=true from rfl];show"w50";refine df (lv ?_);show"w50";refine⟨rfl,?_⟩;show"w50";refine⟨rfl,ac (Eo rfl),Less.skip hl,?_⟩;exact cu.push hfr.cons (.head _) (by intro h;exact nomatch (show ScopeKind.function=ScopeKind.module from h))
theorem wq {l x lo:AV} {K:List (Str×AV)->Led->Prop} (hT:TopG Γ) (h:K [("a",l),("x",x),("lo",lo),("hi",.none),("key",.none)] aa):WB Γ (ak Γ.w.params 23) [l,x,lo] [] aa K:=by
 exact WB.p3 hT (exv:=[("hi",.none),("key",.none)]) (fun _ _ _=>by kernel_rfl) (.cons (dj (.val _)) (.cons (dj (.val _)) .nil)) h
theorem wr {l x key:AV} {fr:List Env} (hT0:TopG Γ) (hk:0<Γ.k) (hpa:∀x,Γ.pa x->x=some fr) (hb:∀{K':List (Str×AV)->Led->Prop},K' [("a",l),("x",x),("lo",.int (-1)),("hi",.none),("key",key)] aa->WB Γ.dn (ak Γ.w.params 23) as ks aa K') (h:∀L,WZ (Γ.fr (ah (ak Γ.w.params 23) 23 L []::fr)) (execs (ay Γ.w.params 23) (ah (ak Γ.w.params 23) 23 L [])) ((L,ab [("a",some l),("x",some x),nI "lo" (-1),("hi",some .none),("key",some key)])::aa) (Up (Γ.fr (ah (ak Γ.w.params 23) 23 L []::fr)) ownT (ah (ak Γ.w.params 23) 23 L []::fr) "ValueError" [dz])):
 bz Γ (.ref 23) as ks aa (hZ Γ ownT fr "ValueError" [dz]):=by
 refine fP hk hT0 hpa (fun s hR=>(pP _).hf hT0 s hR) (rD _) Ca Cb (hb fun L cs hcs=> ?_) (by kernel_rfl) (by kernel_rfl);rw[af (cs:=cs) hcs];show WBinds _ (ah (ak Γ.w.params 23) 23 L []) _ ((L,ab _)::aa) _;refine st_local (ka23.at 0 (by kernel_rfl)) lf (by show"upd") (by show"put") ?_;refine st_local (ka23.at 1 (by kernel_rfl)) lf (by show"upd") (by show"put") ?_;refine st_local (ka23.at 2 (by kernel_rfl)) lf (by show"upd") (by show"put") ?_;refine st_local (ka23.at 3 (by kernel_rfl)) lf (by show"upd") (by show"put") ?_;refine st_local (ka23.at 4 (by kernel_rfl)) lf (by show"upd") (by show"put") ?_;exact h L
theorem wt {l x lo f:AV} {K:List (Str×AV)->Led->Prop} (hT:TopG Γ) (h:K [("a",l),("x",x),("lo",lo),("hi",.none),("key",f)] aa):WB Γ (ak Γ.w.params 41) [l,x,lo] [("key",f)] aa K:=by
 exact WB.k3 hT (exv:=fun w=>[("hi",.none),("key",w)]) (fun _ _ _ _=>by kernel_rfl) (fun w hw=> .cons (dj (.val _)) (.cons (dj hw) .nil)) h
theorem wu {l x key:AV} {fr:List Env} (hT0:TopG Γ) (hk:0<Γ.k) (hpa:∀x,Γ.pa x->x=some fr) (hb:∀{K':List (Str×AV)->Led->Prop},K' [("a",l),("x",x),("lo",.int (-1)),("hi",.none),("key",key)] aa->WB Γ.dn (ak Γ.w.params 41) as ks aa K') (h:∀L,WZ (Γ.fr (ah (ak Γ.w.params 41) 41 L []::fr)) (execs (ay Γ.w.params 41) (ah (ak Γ.w.params 41) 41 L [])) ((L,ab [("a",some l),("x",some x),nI "lo" (-1),("hi",some .none),("key",some key)])::aa) (Up (Γ.fr (ah (ak Γ.w.params 41) 41 L []::fr)) ownT (ah (ak Γ.w.params 41) 41 L []::fr) "ValueError" [dz])):
 bz Γ (.ref 41) as ks aa (hZ Γ ownT fr "ValueError" [dz]):=by
 refine fP hk hT0 hpa (fun s hR=>(pQ _).hf hT0 s hR) (rF _) Ca Cb (hb fun L cs hcs=> ?_) (by kernel_rfl) (by kernel_rfl);rw[af (cs:=cs) hcs];show WBinds _ (ah (ak Γ.w.params 41) 41 L []) _ ((L,ab _)::aa) _;refine st_local (ka41.at 0 (by kernel_rfl)) lf (by show"upd") (by show"put") ?_;refine st_local (ka41.at 1 (by kernel_rfl)) lf (by show"upd") (by show"put") ?_;refine st_local (ka41.at 2 (by kernel_rfl)) lf (by show"upd") (by show"put") ?_;refine st_local (ka41.at 3 (by kernel_rfl)) lf (by show"upd") (by show"put") ?_;refine st_local (ka41.at 4 (by kernel_rfl)) lf (by show"upd") (by show"put") ?_;exact h L
theorem Ei {l x:AV} {fr:List Env} (hT0:TopG Γ) (hk:1<Γ.k) (hpa:∀x,Γ.pa x->x=some fr) (hfr:cu aa fr) (hl:Less ownT aa):
 bz Γ (.ref 23) [l,x,.int (-1)] [] aa (hZ Γ ownT fr "ValueError" [dz]):=by
 refine wr hT0 (by omega) hpa (fun h=>wq hT0.dn h) fun L=> ?_;have hT:TopG (Γ.fr (ah (ak Γ.w.params 23) 23 L []::fr)):=hT0.fr;clear hT0;refine df (ni ?_);show"w23";refine aX (b:=true) (by intro v h;cases h;rfl) ?_;show"w23";refine df (fO (iD ?_));show"w23";refine⟨am (ny _) hT,?_⟩;refine bz.mono (Eg hT (show 0<Γ.k-1 by omega) (fun _ h=>h) (cu.push hfr.cons (.head _) (by intro h;exact nomatch (show ScopeKind.function=ScopeKind.module from h))) (Less.skip hl) fun h=>rq hT.dn h) fun _ _ h=> .inr h
theorem Ej {l x:AV} {f:Value} {kx:AV} {fr:List Env} (hT0:TopG Γ) (hk:1<Γ.k) (hpa:∀x,Γ.pa x->x=some fr) (hfr:cu aa fr) (hl:Less ownT aa) (hf:(f==Value.none)=false) (hkey:∀(fr':List Env) (q:Addr×OP),bu (Γ.fr fr') (q::aa) f∧∀K:AV->Led->Prop,K kx (q::aa)->ai (Γ.fr fr') f [x] [] (q::aa) K):
 bz Γ (.ref 41) [l,x,.int (-1)] [("key",.val f)] aa (hZ Γ ownT fr "ValueError" [dz]):=by
 refine wu hT0 (by omega) hpa (fun h=>wt hT0.dn h) fun L=> ?_;have hT:TopG (Γ.fr (ah (ak Γ.w.params 41) 41 L []::fr)):=hT0.fr;clear hT0;refine df (ni ?_);show"w41";refine aX (b:=false) (by intro v h;cases h;exact hf) ?_;show"w41";refine df (fO (iD ?_));show"w41";refine⟨(hkey _ _).1,(hkey _ _).2 _ ?_⟩;show"w41";refine⟨am (nz _) hT,?_⟩;refine bz.mono (Eh hT (show 0<Γ.k-1 by omega) (fun _ h=>h) (cu.push hfr.cons (.head _) (by intro h;exact nomatch (show ScopeKind.function=ScopeKind.module from h))) (Less.skip hl) fun h=>nA hT.dn h) fun _ _ h=> .inr h
theorem Ek {x:AV} {fr:List Env} (hT0:TopG Γ) (hk:0<Γ.k) (hpa:∀x,Γ.pa x->x=some fr) (hfr:cu aa fr) (hl:Less ownT aa):
 bz Γ (.ref 92) [x,.int 0] [] aa (hZ Γ ownT fr "ZeroDivisionError" []):=by
 refine fP hk hT0 hpa (fun s hR=>(pR _).hf hT0 s hR) (rV _) Bd Be (Bf hT0.dn fun L cs hcs=> ?_) (by kernel_rfl) (by kernel_rfl);rw[af (cs:=cs) hcs];show WBinds _ (ah (ak Γ.w.params 92) 92 L []) _ ((L,ab _)::aa) _;refine st_local (ka92.at 0 (by kernel_rfl)) lf (by show"upd") (by show"put") ?_;refine st_local (ka92.at 1 (by kernel_rfl)) lf (by show"upd") (by show"put") ?_;show WZ (Γ.fr (ah (ak Γ.w.params 92) 92 L []::fr)) (execs (ay Γ.w.params 92) (ah (ak Γ.w.params 92) 92 L [])) ((L,ab [("a",some x),nI "b" 0,("q",none),("r",none)])::aa) _;have hT:TopG (Γ.fr (ah (ak Γ.w.params 92) 92 L []::fr)):=hT0.fr;clear hT0;refine df (ni ?_);show"w92";rw[show((0:Int)==0)=true from rfl];show"w92";exact df (qN hT (ka92.at 4 (by kernel_rfl)) ek92 gl_ZeroDivisionError bb_ZeroDivisionError (by kernel_rfl) (Less.skip hl) (cu.push hfr.cons (.head _) (by intro h;exact nomatch (show ScopeKind.function=ScopeKind.module from h))))
end
section
variable {c_top:Addr}
section
theorem R.unfr {fr:List Env} (h:R (Γ.fr fr) aa s):R Γ aa s:=⟨h.keep,h.ow,h.nd,h.ap,h.gens,h.os,h.tb,h.fn⟩
theorem tI {fr:List Env} (hk:0<Γ.k) (hT:TopG Γ) (hpa:∀x,Γ.pa x->x=some fr) (hf:∀s,R Γ aa s->(∃o,s.heap.get? f=some o∧o.data= .func fd)∧s.heap.CodeRec fd.code fd.qualname) (hbody:fd.body= .stmts body) (hn:(loc.map (·.1)).Nodup) (h0:∀p∈loc,p.2=none) (h:WB Γ.dn fd as ks aa fun abs o=>∀L cs,cs.map (·.1)=a_ fd.scope.names->WBinds Γ.dn (ah fd f L (cs++fd.closure)) abs (cJ cs++(L,ab loc)::o)
 fun o1=>WS (Γ.fr (ah fd f L (cs++fd.closure)::fr)) (ah fd f L (cs++fd.closure)) body o1 fun fl o2=>∃o3,Less o3 o2∧K fl.val o3) (hco:fd.scope.isCoroutine=false:=by rfl) (hgen:fd.scope.isGenerator=false:=by rfl):ai Γ (.ref f) as ks aa K:=by
 intro vs kv hvs hkv A s hA hR;obtain⟨⟨o,ho,hd⟩,hcd⟩:=hf s hR;refine wpAny_call (codeAny_call_function hA.room ho hd hco hgen hbody hcd ?_);refine W.go (h vs kv hvs hkv) (hA.in1 hk) hR.dn fun binds s1 abs o1 hbs hR1 h1=> ?_;refine W.goE (eG (Γ:=Γ.dn) (K:=fun env o1=>WS (Γ.fr (env::fr)) env body o1 fun fl o2=>∃o3,Less o3 o2∧K fl.val o3) hbs hn h0 h1) (hA.in1 hk) hR1 fun env' s2 o1 hR2 h2=> ?_;refine⟨hT.nolimit hR2.up,codeAny_func (W.go h2 (hA.fr hk hpa) hR2.fr fun fl s3 fl' o2 hfl hR3 hz=> ?_)⟩;obtain⟨o3,hs,h3⟩:=hz;have hR4:=(hR3.unfr).sub hs;cases hfl with
 |next=>exact⟨.none,o3,.val _,hR4,h3⟩
 |brk=>exact⟨.none,o3,.val _,hR4,h3⟩
 |cont=>exact⟨.none,o3,.val _,hR4,h3⟩
 |ret hv=>exact⟨_,o3,hv,hR4,h3⟩
structure ExcOf (X:String) (args:List AV) (bx:Bool) (msg:Str):Prop where
 any:∀p:Params,exmAny (Mine.Internal.hd.heap_1 p) (.type X) [.type "ValueError",.type "ZeroDivisionError"]=some true
 isi:∀(w:World) (A:Around) (E:Value->Shared->Prop) (s:Shared) (a:Addr) (Q:Value->Shared->Prop),s.TypeIs (.ref a) X->(∀tk,Q (.bool bx) {s with toks:=tk})->wpAny (model PR w) A (call (.builtin "isinstance") [.ref a,.type "ValueError"]) Q E s
 str:∀(w:World) (A:Around) (E:Value->Shared->Prop) (s:Shared) (a t:Addr) (vs:List Value) (Q:Value->Shared->Prop),A.units+2<cLine->VRs args vs->s.heap.ExcAt a X (.ref t)->s.heap.TupAt t vs->(∀tk tk',Q (.str msg tk) {s with toks:=tk'})->wpAny (model PR w) A (call (.type "str") [.ref a]) Q E s
theorem tJ (m:Str):ExcOf "ValueError" [.str m] true m where
 any:=fun p=>by kernel_rfl
 isi:=fun w A E s a Q hT h=>zZ hT (h s.toks)
 str:=fun w A E s a t vs Q hu hv hx ht h=>by
  obtain _|⟨h1,_|_⟩:=hv;cases h1;exact P.str_of_exc_one F.excStr_ValueError hu hx ht (h _ s.toks)
theorem wv:ExcOf "ZeroDivisionError" [] false "" where
 any:=fun p=>by kernel_rfl
 isi:=fun w A E s a Q hT h=>wj hT (h _)
 str:=fun w A E s a t vs Q hu hv hx ht h=>by
  cases hv;exact P.str_of_exc_none F.excStr_ZeroDivisionError hu hx ht (h _ _)
theorem ki {x:Str} (hT:TopG Γ) (hR:R Γ aa s) (hk:Kd env x .globalImplicit) (he:EnvOk env) (e:nsIn (Mine.Internal.hd.heap_1 Γ.w.params) mainGlobals x=some none) (hv:bootBuiltins x=some v) (hn:(x==("__name__":Str))=false) (h:Q v s):wpAny (model PR Γ.w) A (eval (.Name x pos) env) Q E s:=by
 obtain⟨p,l,T⟩:=hT.T;exact Calls.Name_function_global hk.f hk.k (Calls.loadGlobal_builtin (by rw[he.g];exact T.g.keeps hR.keep) (mg_none_of hT.X T.g e) (by rw[he.b];exact T.b.keeps hR.keep) ((T.builtins x (fun q=>by rw[q]at hn;simp at hn)).trans hv) h) hk.d
theorem tK {np:Pos} {x:Str} {e₀:Expr} {rest:List Expr} (hkp:∀h,Looks (model PR w) h (keeperOf v) Keeper.machine) (h:wpAny (model PR w) A (eval (.Name x np) env) (fun f s1=>f=v∧wpAny (model PR w) A (spliced (backTo pos (starEach (e₀::rest) env))) (fun vs s2=>wpAny (model PR w) A (call v vs) Q E s2) E s1) E s) (he:eval (.Call (.Name x np) (e₀::rest) [] pos) env=(do callWith pos (←eval (.Name x np) env) [] (backTo pos (starEach (e₀::rest) env)) (backToKw pos (keywordEach [] env))):=by kernel_rfl) (hse:starEach (e₀::rest) env=(false,eval e₀ env)::starEach rest env:=by kernel_rfl) (hplain:((backTo pos (starEach (e₀::rest) env)).any (·.1)||(backToKw pos (keywordEach [] env)).any (·.1.isNone))=false:=by kernel_rfl):
 wpAny (model PR w) A (eval (.Call (.Name x np) (e₀::rest) [] pos) env) Q E s:=by
 rw[he];refine wpAny_bind (wpAny_mono h ?_ fun _ _ x=>x);rintro f s1 ⟨rfl,h1⟩;refine callWith_of (P:=fun _=>True) hplain (fun hh _=>⟨_,.inr (.inl rfl),hkp hh⟩) ?_;rw[hse]at h1⊢;refine Calls.evalArgs_plain (wpAny_mono h1 (fun vs s2 h2=>⟨trivial,?_⟩) fun _ _ x=>x);exact h2
section
variable {own0:Led} {fr:List Env} {X:String} {args:List AV} {bx:Bool} {msg:Str} {p1 p2 p3 p4 p5 p6 p7 p8 p9 p10 p11 p12 p13:Pos} {kk:Nat} {K:AF->Led->Prop}
theorem z9 (hT:TopG Γ) (hpa:∀x,Γ.pa x->x=some (env::fr)) (hL:env.locals=L) (hX:ExcOf X args bx msg)
 (hb:WZ Γ (execs body env) ((L,ab loc)::own0) (hZ Γ ((L,ab loc)::own0) (env::fr) X args))
 (he:EnvOk env) (k1:Kd env "ValueError" .globalImplicit) (k2:Kd env "ZeroDivisionError" .globalImplicit) (k3:Kd env "isinstance" .globalImplicit) (k4:Kd env "str" .globalImplicit) (k5:Kd env "error" .local)
 (hK:∀r,K (.ret (.ref r)) (lL r [.bool bx,.str msg]::(L,ab [])::own0)):
 WX Γ env (.Try body [.ExceptHandler (some (.Tuple [.Name "ValueError" p1,.Name "ZeroDivisionError" p2] kk p3)) (some "error") [.Return (some (.List [.Call (.Name "isinstance" p4) [.Name "error" p5,.Name "ValueError" p6] [] p7,.Call (.Name "str" p8) [.Name "error" p9] [] p10] p11)) p12] p13] [] [] pos) ((L,ab loc)::own0) K:=by
 intro A s hA hR;have hns:(env.scope.kind==ScopeKind.class||(env.scope.kind==ScopeKind.module&&env.locals !=env.globals))=false:=by rw[k5.f];rfl
 refine wpAny_Try_except (wpAny_mono (hb A s hA hR) (fun _ _ x=>x.elim) fun e s1 hup=> ?_);refine wl (hpa _ hA.2.2.2) hup fun s2 h2=> ?_;obtain⟨a,t,vs,rfl,hR2,hv,hx2,ht2⟩:=h2.back;refine wpAny_handleBy_cons (codeAny_handlers_test ?_) (by intro q;cases q);refine wpAny_Tuple (wpAny_items_cons (ki hT hR2 k1 he gl_ValueError bb_ValueError (by kernel_rfl) (wpAny_items_cons (ki hT hR2 k2 he gl_ZeroDivisionError bb_ZeroDivisionError (by kernel_rfl) (wpAny_items_nil ⟨by size_fits,?_⟩)) (by kernel_rfl))) (by kernel_rfl));have kp:∀q o,s2.heap.get? q=some o->(s2.heap.push {cls:= .type "tuple",data:= .seq [Value.type "ValueError",Value.type "ZeroDivisionError"].toArray }).get? q=some o:=fun _ _ z=>Heap.get?_push_of_some _ z
 have hty:Looks (model PR Γ.w) s2.heap (typeOf (.ref a)) (.type X):=by
  obtain⟨o,hh,e1,e2,_⟩:=hx2;have:=Looks.ld (M:=model PR Γ.w) (part:=none) e1;rw[←e2];exact this.andThen .now
 refine(exm_tup2 ((hT.X.keeps hR2.keep).keeps kp) (hty.keeps kp) (Heap.get?_push_size s2.heap rfl) (hX.any _)).here ?_;have h3:=h2.keeps (tk:=s2.toks) kp;generalize hs3:({s2 with heap:=s2.heap.push {cls:= .type "tuple",data:= .seq [Value.type "ValueError",Value.type "ZeroDivisionError"].toArray },toks:=s2.toks}:Shared)=s3 at h3;show codeAny (model PR Γ.w) (A.mark (some (.ref a))) (.handlers (.ref a) [.ExceptHandler none (some "error") _ p13] env) _ _;clear hs3 kp hty hR2 hx2 ht2 hv h2;refine codeAny_handlers_suite_as (tG h3 fun s4 h4=> ?_);obtain⟨a',t',vs',e',hR4,hv4,hx4,ht4⟩:=h4.back;cases e';obtain⟨oL,hoL,hPL⟩:=hR4.get (.head _);obtain⟨m,hn,_⟩:=hPL.ns hoL
 have haL:a≠env.locals:=fun q=>by
  obtain⟨o,ws,e1,_,e3,_⟩:=hx4;obtain⟨es,ep,m',hd,_⟩:=hPL;rw[q,hL,hoL]at e1;cases e1;rw[hd]at e3;cases e3
 have htL:t'≠env.locals:=fun q=>by
  obtain⟨o,n,e1,_,e3⟩:=ht4;obtain⟨es,ep,m',hd,_⟩:=hPL;rw[q,hL,hoL]at e1;cases e1;rw[hd]at e3;cases e3
 refine wpAny_storeName_local k5.k (by rw[hL];exact hn) (fun h5 hn5 hs5=> ?_) hns
 have hR5:R Γ ((L,ab [nR "error" a])::own0) {s4 with heap:=h5,toks:=s4.toks+1}:=by
  refine hR4.upd (t:=s4.toks+1) (P:=ab loc) (P':=ab [nR "error" a]) .head (by rw[←hL];exact hs5.extBut) ?_ mo;refine ab.of (by rw[←hL];exact hn5) ⟨(by show(["error"]:List Str).Nodup;decide),fun x b hm=> ?_⟩;obtain e:=ED.mp hm;cases e;exact⟨.ref a,if_pos rfl,.val _⟩
 have hx5:h5.ExcAt a X (.ref t'):=by
  obtain⟨o,ws,e1,r⟩:=hx4;exact⟨o,ws,(hs5.2 a haL).trans e1,r⟩
 have ht5:h5.TupAt t' vs':=by
  obtain⟨o,n,e1,r⟩:=ht4;exact⟨o,n,(hs5.2 t' htL).trans e1,r⟩
 rw[hL]at hn5
 have herr:∀(s:Shared) (p:Pos) (Q:Value->Shared->Prop) (E:Value->Shared->Prop),s.heap=h5->Q (.ref a) s->wpAny (model PR Γ.w) (A.mark (some (.ref a))) (eval (.Name "error" p) env) Q E s:=fun s p Q E es hq=>
  wpAny_Name (wpAny_loadName_local k5.f k5.k (by rw[es,hL];exact hn5) (if_pos rfl) hq) k5.d
 have hu:(A.mark (some (.ref a))).units +2<cLine:=by
  have:A.units+16*Γ.k<5000:=hA.2.2.1;show A.units+2<cLine;have:(5002:Nat)≤cLine:=by decide
  omega
 refine wpAny_execs_cons (wpAny_Return_some ?_);rw[arm_eval_List];refine wpAny_bind (wpAny_standAt (wpAny_bind ?_));refine wpAny_items_cons (tK (v:= .builtin "isinstance") (fun _=>Looks.of_pure rfl) (ki hT hR5 k3 he gl_isinstance bb_isinstance (by kernel_rfl) ⟨rfl,wpAny_items_cons (herr _ _ _ _ rfl (wpAny_items_cons (ki hT hR5 k1 he gl_ValueError bb_ValueError (by kernel_rfl) (wpAny_items_nil ?_)) (by kernel_rfl))) (by kernel_rfl)⟩)) (by kernel_rfl);refine hX.isi _ _ _ _ _ _ (by obtain⟨o,ws,e1,e2,_⟩:=hx5;exact⟨o,e1,e2⟩) fun tk=> ?_;have hR6:R Γ ((L,ab [nR "error" a])::own0) {s4 with heap:=h5,toks:=tk}:=hR5.toks tk;refine wpAny_items_cons (tK (v:= .type "str") (fun _=>Looks.of_pure rfl) (ki hT hR6 k4 he gl_str bb_str (by kernel_rfl) ⟨rfl,wpAny_items_cons (herr _ _ _ _ rfl (wpAny_items_nil ?_)) (by kernel_rfl)⟩)) (by kernel_rfl);refine hX.str _ _ _ _ _ _ _ _ hu hv4 hx5 ht5 fun tk2 tk3=> ?_;refine wpAny_items_nil ?_;refine wpAny_newObj_type ?_ (by size_fits);show wpAny (model PR Γ.w) A (do bindName env "error" .none;unbindBehindTheSuite env "error" p13) (fun _ s₃=>Post FR Γ K (.ret (.ref h5.objs.size)) s₃) _ _;have hR7:R Γ ((L,ab [nR "error" a])::own0) {s4 with heap:=h5,toks:=tk3}:=hR5.toks tk3;have hR8:=hR7.push (t:=tk3) (o:={cls:= .type "list",data:= .seq [Value.bool bx,.str msg tk2].toArray }) (P:=bD [.bool bx,.str msg]) ⟨_,_,rfl,.cons (.val _) (.cons (.str _ _) .nil)⟩ km;have hn8:(h5.push {cls:= .type "list",data:= .seq [Value.bool bx,.str msg tk2].toArray }).Ns env.locals (fun x=>if x=("error":Str)then some (Value.ref a)else m x):=by rw[hL];exact hn5.push _
 refine wpAny_nameGoes k5.k hn8 hns fun h9 m9 hn9 hs9=> ?_;refine⟨.ret (.ref h5.objs.size),_,.ret (.val _),?_,hK _⟩;have hR9:=hR8.upd (t:=tk3+1) (h':=h9) (a:=L) (P:=ab [nR "error" a]) (P':=ab []) (.tail .head) (by rw[←hL];exact hs9.extBut) (ab.of (by rw[←hL];exact hn9) ⟨GO,fun _ _ h=>nomatch h⟩) mo;exact hR9
end
end
section
theorem ek139:EnvOk (ah (ak p 139) f L cs):=⟨by kernel_rfl,by kernel_rfl⟩
theorem ka139:KdA (ah (ak p 139) f L cs) [("deed",.local),("error",.local),("ValueError",.globalImplicit),("ZeroDivisionError",.globalImplicit),("isinstance",.globalImplicit),("str",.globalImplicit)]:=⟨by kernel_rfl,by kernel_rfl⟩
theorem ww (p:Params):(ak p 139).body = .stmts (ay p 139):=rfl
theorem BW:(([("deed",none),("error",none)]:Loc).map (·.1)).Nodup :=by decide
theorem BX:∀p∈([("deed",none),("error",none)]:Loc),p.2=none:=bF rfl
theorem BY {a_deed:AV} {K:List (Str×AV)->Led->Prop} (hT:TopG Γ) (h:K [("deed",a_deed)] aa):WB Γ (ak Γ.w.params 139) [a_deed] [] aa K:=by
 exact WB.p1 hT (fun _=>by kernel_rfl) .nil h
theorem Aa {g:Addr} {fr:List Env} {X:String} {args:List AV} {bx:Bool} {msg:Str} (hT0:TopG Γ) (hk:0<Γ.k) (hpa:∀x,Γ.pa x->x=some fr) (hX:ExcOf X args bx msg) (hkeep:∀(fr':List Env) (q:Addr×OP),bu (Γ.fr fr') (q::aa) (.ref g)) (hdeed:∀(L:Addr) (loc:Loc),bz (Γ.fr (ah (ak Γ.w.params 139) 139 L []::fr)) (.ref g) [] [] ((L,ab loc)::aa) (hZ (Γ.fr (ah (ak Γ.w.params 139) 139 L []::fr)) ((L,ab loc)::aa) (ah (ak Γ.w.params 139) 139 L []::fr) X args)) (hK:∀r,K (.ref r) (lL r [.bool bx,.str msg]::aa)):ai Γ (.ref 139) [.ref g] [] aa K:=by
 refine tI hk hT0 hpa (fun s hR=>(oJ _).hf hT0 s hR) (ww _) BW BX (BY hT0.dn fun L cs hcs=> ?_) (by kernel_rfl) (by kernel_rfl);rw[af (cs:=cs) hcs];show WBinds _ (ah (ak Γ.w.params 139) 139 L []) _ ((L,ab _)::aa) _;refine st_local (ka139.at 0 (by kernel_rfl)) lf (by show"upd") (by show"put") ?_;show WS (Γ.fr (ah (ak Γ.w.params 139) 139 L []::fr)) (ah (ak Γ.w.params 139) 139 L []) (ay Γ.w.params 139) ((L,ab [nR "deed" g,("error",none)])::aa) _;have hT:TopG (Γ.fr (ah (ak Γ.w.params 139) 139 L []::fr)):=hT0.fr;clear hT0;refine s_cons ?_;refine z9 (fr:=fr) (X:=X) (args:=args) (bx:=bx) (msg:=msg) hT (fun _ h=>h) rfl hX ?_ ek139 (ka139.at 2 (by kernel_rfl)) (ka139.at 3 (by kernel_rfl)) (ka139.at 4 (by kernel_rfl)) (ka139.at 5 (by kernel_rfl)) (ka139.at 1 (by kernel_rfl)) fun r=> ?_
 ·refine df (qM (iD ?_))
  show"w139";exact⟨hkeep _ _,hdeed L _⟩
 ·exact⟨_,Less.take .head (Less.skip Less.refl),hK r⟩
noncomputable def iF (p:Params) (c_top c_ranked:Addr) (pm:Value) (c':Addr) (aq:Value):Obj:=kla_obj "<lambda>" "law.<locals>.<lambda>" (bi p 144 [31,0,0]).args (bi p 144 [31,0,0]).expr (bS p 144 [31,0,0]) [("top",c_top),("ranked",c_ranked)] pm c' aq
noncomputable def d6 (p:Params) (c_top c_ranked:Addr) (pm:Value) (c':Addr) (aq:Value):FuncData:=gl (iF p c_top c_ranked pm c' aq)
theorem pA {c_ranked:Addr}:(iF p c_top c_ranked pm c' aq).data = .func (d6 p c_top c_ranked pm c' aq):=rfl
theorem wx {c_ranked:Addr}:(d6 p c_top c_ranked pm c' aq).body = .expr (bi p 144 [31,0,0]).expr :=rfl
theorem ek144P {c_ranked:Addr}:EnvOk (ah (d6 p c_top c_ranked pm c' aq) f L cs):=⟨by kernel_rfl,by kernel_rfl⟩
theorem ka144P {c_ranked:Addr}:KdA (ah (d6 p c_top c_ranked pm c' aq) f L cs) [("ranked",.free),("top",.free),("insort_right",.globalImplicit)]:=⟨by kernel_rfl,by kernel_rfl⟩
theorem Ab:(([]:Loc).map (·.1)).Nodup :=by decide
theorem Ac:∀p∈([]:Loc),p.2=none:=bF rfl
theorem Ad {c_ranked:Addr} {K:List (Str×AV)->Led->Prop} (h:K [] aa):WB Γ (d6 p c_top c_ranked pm c' aq) [] [] aa K:=by
 exact WB.q0 (by kernel_rfl) .nil h
noncomputable def iG (p:Params) (c_top c_scores c_back:Addr) (pm:Value) (c':Addr) (aq:Value):Obj:=kla_obj "<lambda>" "law.<locals>.<lambda>" (bi p 144 [31,0,1]).args (bi p 144 [31,0,1]).expr (bS p 144 [31,0,1]) [("top",c_top),("scores",c_scores),("back",c_back)] pm c' aq
noncomputable def dF (p:Params) (c_top c_scores c_back:Addr) (pm:Value) (c':Addr) (aq:Value):FuncData:=gl (iG p c_top c_scores c_back pm c' aq)
theorem pB {c_back:Addr}:(iG p c_top c_scores c_back pm c' aq).data = .func (dF p c_top c_scores c_back pm c' aq):=rfl
theorem wy {c_back:Addr}:(dF p c_top c_scores c_back pm c' aq).body = .expr (bi p 144 [31,0,1]).expr :=rfl
theorem ek144Q {c_back:Addr}:EnvOk (ah (dF p c_top c_scores c_back pm c' aq) f L cs):=⟨by kernel_rfl,by kernel_rfl⟩
theorem ka144Q {c_back:Addr}:KdA (ah (dF p c_top c_scores c_back pm c' aq) f L cs) [("back",.free),("scores",.free),("top",.free),("insort_left",.globalImplicit)]:=⟨by kernel_rfl,by kernel_rfl⟩
theorem Ae:(([]:Loc).map (·.1)).Nodup :=by decide
theorem Af:∀p∈([]:Loc),p.2=none:=bF rfl
theorem Ag {c_back:Addr} {K:List (Str×AV)->Led->Prop} (h:K [] aa):WB Γ (dF p c_top c_scores c_back pm c' aq) [] [] aa K:=by
 exact WB.q0 (by kernel_rfl) .nil h
noncomputable def iH (p:Params) (c_total:Addr) (pm:Value) (c':Addr) (aq:Value):Obj:=kla_obj "<lambda>" "law.<locals>.<lambda>" (bi p 144 [31,0,2]).args (bi p 144 [31,0,2]).expr (bS p 144 [31,0,2]) [("total",c_total)] pm c' aq
noncomputable def d7 (p:Params) (c_total:Addr) (pm:Value) (c':Addr) (aq:Value):FuncData:=gl (iH p c_total pm c' aq)
theorem pC {c_total:Addr}:(iH p c_total pm c' aq).data = .func (d7 p c_total pm c' aq):=rfl
theorem wz {c_total:Addr}:(d7 p c_total pm c' aq).body = .expr (bi p 144 [31,0,2]).expr :=rfl
theorem ek144R {c_total:Addr}:EnvOk (ah (d7 p c_total pm c' aq) f L cs):=⟨by kernel_rfl,by kernel_rfl⟩
theorem ka144R {c_total:Addr}:KdA (ah (d7 p c_total pm c' aq) f L cs) [("total",.free),("int_divmod",.globalImplicit)]:=⟨by kernel_rfl,by kernel_rfl⟩
theorem Ah:(([]:Loc).map (·.1)).Nodup :=by decide
theorem Ai:∀p∈([]:Loc),p.2=none:=bF rfl
theorem Aj {c_total:Addr} {K:List (Str×AV)->Led->Prop} (h:K [] aa):WB Γ (d7 p c_total pm c' aq) [] [] aa K:=by
 exact WB.q0 (by kernel_rfl) .nil h
noncomputable def ml (p:Params) (c_scores:Addr) (pm:Value) (c':Addr) (aq:Value):Obj:=kla_obj "<lambda>" "law.<locals>.<lambda>.<locals>.<lambda>" (bi p 144 [31,0,1,0,4]).args (bi p 144 [31,0,1,0,4]).expr (bS p 144 [31,0,1,0,4]) [("scores",c_scores)] pm c' aq
noncomputable def gI (p:Params) (c_scores:Addr) (pm:Value) (c':Addr) (aq:Value):FuncData:=gl (ml p c_scores pm c' aq)
theorem pD:(ml p c_scores pm c' aq).data = .func (gI p c_scores pm c' aq):=rfl
theorem wA:(gI p c_scores pm c' aq).body = .expr (bi p 144 [31,0,1,0,4]).expr :=rfl
theorem ka144S:KdA (ah (gI p c_scores pm c' aq) f L cs) [("other",.local),("scores",.free)]:=⟨by kernel_rfl,by kernel_rfl⟩
theorem Ak:(([("other",none)]:Loc).map (·.1)).Nodup :=by decide
theorem Al:∀p∈([("other",none)]:Loc),p.2=none:=bF rfl
theorem Am {a_other:AV} {K:List (Str×AV)->Led->Prop} (h:K [("other",a_other)] aa):WB Γ (gI p c_scores pm c' aq) [a_other] [] aa K:=by
 exact WB.q1 (fun _=>by kernel_rfl) .nil h
theorem wB {a_other:AV} (hT:TopG Γ) (hk:0<Γ.k) (hm:(f,bg (ml Γ.w.params c_scores pm c' aq))∈aa) (h:∀L,WE Γ.dn (ah (gI Γ.w.params c_scores pm c' aq) f L [("scores",c_scores)]) (bi Γ.w.params 144 [31,0,1,0,4]).expr ((L,ab [("other",some a_other)])::aa) fun a o2=>∃o3,Less o3 o2∧K a o3):ai Γ (.ref f) [a_other] [] aa K:=by
 refine cZ hk hT (cM hm pD) wA Ak Al (Am fun L cs hcs=> ?_) (by kernel_rfl) (by kernel_rfl);rw[af (cs:=cs) hcs];show WBinds _ (ah (gI Γ.w.params c_scores pm c' aq) f L [("scores",c_scores)]) _ ((L,ab _)::aa) fun o1=>WE _ (ah (gI Γ.w.params c_scores pm c' aq) f L [("scores",c_scores)]) _ o1 _;refine st_local (ka144S.at 0 (by kernel_rfl)) lf (by show"upd") (by show"put") ?_;exact h L
section
variable {ra ba sc c_ranked c_back c_total:Addr} {fr:List Env} {tot:Int}
theorem BZ (hT0:TopG Γ) (hk:0<Γ.k) (hk2:2<Γ.k) (hpa:∀x,Γ.pa x->x=some fr) (hfr:cu aa fr) (hl:Less ownT aa) (hm:(f,bg (iF Γ.w.params c_top c_ranked pm c' aq))∈aa)
 (h1:cI c_top (top:Nat)∈aa) (h2:cR c_ranked ra∈aa):bz Γ (.ref f) [] [] aa (hZ Γ ownT fr "ValueError" [dz]):=by
 refine iE hk hT0 hpa (cM hm pA) wx Ab Ac (Ad fun L cs hcs=> ?_) (by kernel_rfl) (by kernel_rfl);rw[af (cs:=cs) hcs];show WZ (Γ.fr (ah (d6 Γ.w.params c_top c_ranked pm c' aq) f L [("top",c_top),("ranked",c_ranked)]::fr)) (eval (bi Γ.w.params 144 [31,0,0]).expr (ah (d6 Γ.w.params c_top c_ranked pm c' aq) f L [("top",c_top),("ranked",c_ranked)])) ((L,ab [])::aa) (Up (Γ.fr (ah (d6 Γ.w.params c_top c_ranked pm c' aq) f L [("top",c_top),("ranked",c_ranked)]::fr)) ownT (ah (d6 Γ.w.params c_top c_ranked pm c' aq) f L [("top",c_top),("ranked",c_ranked)]::fr) _ _);have hT:TopG (Γ.fr (ah (d6 Γ.w.params c_top c_ranked pm c' aq) f L [("top",c_top),("ranked",c_ranked)]::fr)):=hT0.fr;have hfr2:cu ((L,ab [])::aa) (ah (d6 Γ.w.params c_top c_ranked pm c' aq) f L [("top",c_top),("ranked",c_ranked)]::fr):=cu.push hfr.cons (.head _) (by intro h;exact nomatch (show ScopeKind.function=ScopeKind.module from h));clear hT0;refine iD ?_;show"w144P";refine⟨am (pP _) hT,?_⟩;exact bz.mono (Ei hT (show 1<Γ.k-1 by omega) (fun _ h=>h) hfr2 (Less.skip hl)) fun _ _ h=> .inr h
theorem B0 (hT0:TopG Γ) (hk:0<Γ.k) (hk2:2<Γ.k) (hpa:∀x,Γ.pa x->x=some fr) (hfr:cu aa fr) (hl:Less ownT aa) (hm:(f,bg (iH Γ.w.params c_total pm c' aq))∈aa)
 (h1:cI c_total tot∈aa):bz Γ (.ref f) [] [] aa (hZ Γ ownT fr "ZeroDivisionError" []):=by
 refine iE hk hT0 hpa (cM hm pC) wz Ah Ai (Aj fun L cs hcs=> ?_) (by kernel_rfl) (by kernel_rfl);rw[af (cs:=cs) hcs];show WZ (Γ.fr (ah (d7 Γ.w.params c_total pm c' aq) f L [("total",c_total)]::fr)) (eval (bi Γ.w.params 144 [31,0,2]).expr (ah (d7 Γ.w.params c_total pm c' aq) f L [("total",c_total)])) ((L,ab [])::aa) (Up (Γ.fr (ah (d7 Γ.w.params c_total pm c' aq) f L [("total",c_total)]::fr)) ownT (ah (d7 Γ.w.params c_total pm c' aq) f L [("total",c_total)]::fr) _ _);have hT:TopG (Γ.fr (ah (d7 Γ.w.params c_total pm c' aq) f L [("total",c_total)]::fr)):=hT0.fr;have hfr2:cu ((L,ab [])::aa) (ah (d7 Γ.w.params c_total pm c' aq) f L [("total",c_total)]::fr):=cu.push hfr.cons (.head _) (by intro h;exact nomatch (show ScopeKind.function=ScopeKind.module from h));clear hT0;refine iD ?_;show"w144R";refine⟨am (pR _) hT,?_⟩;exact bz.mono (Ek hT (show 0<Γ.k-1 by omega) (fun _ h=>h) hfr2 (Less.skip hl)) fun _ _ h=> .inr h
theorem B1 {P':Addr} (hS0:Std Γ) (htab:(c',P',q31)∈Γ.tabs) (hfl:Γ.fl=false) (hk:0<Γ.k) (hk2:4<Γ.k) (hpa:∀x,Γ.pa x->x=some fr) (hfr:cu aa fr) (hl:Less ownT aa) (hm:(f,bg (iG Γ.w.params c_top c_scores c_back pm c' aq))∈aa) (h1:cI c_top (top:Nat)∈aa) (h2:cR c_scores sc∈aa) (h3:cR c_back ba∈aa) (h4:lL sc (ae (aK T n n))∈aa) (hn:n≤20) (ht:top<n):bz Γ (.ref f) [] [] aa (hZ Γ ownT fr "ValueError" [dz]):=by
 have hT0:=hS0.T;refine iE hk hT0 hpa (cM hm pB) wy Ae Af (Ag fun L cs hcs=> ?_) (by kernel_rfl) (by kernel_rfl);rw[af (cs:=cs) hcs];show WZ (Γ.fr (ah (dF Γ.w.params c_top c_scores c_back pm c' aq) f L [("top",c_top),("scores",c_scores),("back",c_back)]::fr)) (eval (bi Γ.w.params 144 [31,0,1]).expr (ah (dF Γ.w.params c_top c_scores c_back pm c' aq) f L [("top",c_top),("scores",c_scores),("back",c_back)])) ((L,ab [])::aa) (Up (Γ.fr (ah (dF Γ.w.params c_top c_scores c_back pm c' aq) f L [("top",c_top),("scores",c_scores),("back",c_back)]::fr)) ownT (ah (dF Γ.w.params c_top c_scores c_back pm c' aq) f L [("top",c_top),("scores",c_scores),("back",c_back)]::fr) _ _);have hT:TopG (Γ.fr (ah (dF Γ.w.params c_top c_scores c_back pm c' aq) f L [("top",c_top),("scores",c_scores),("back",c_back)]::fr)):=hT0.fr;have hfr2:cu ((L,ab [])::aa) (ah (dF Γ.w.params c_top c_scores c_back pm c' aq) f L [("top",c_top),("scores",c_scores),("back",c_back)]::fr):=cu.push hfr.cons (.head _) (by intro h;exact nomatch (show ScopeKind.function=ScopeKind.module from h));have hS:Std (Γ.fr (ah (dF Γ.w.params c_top c_scores c_back pm c' aq) f L [("top",c_top),("scores",c_scores),("back",c_back)]::fr)):=hS0.fr
 have hu:∀t∈Γ.tabs,t.2.1=P'->t.2.2=q31:=fun t ht e=>by
  have:=lG (g:=fun t:Addr×Addr×Str=>t.2.1) hS0.nd ht htab e;rw[this]
 clear hT0 hS0;refine iD ?_;show"w144Q";refine b7 (c:=c') (P:=P') (q:=q31) hT htab hu (by kernel_rfl) (by kernel_rfl) (by kernel_rfl) (by kernel_rfl) (clos:=[("scores",c_scores)]) (by kernel_rfl) fun g pm2 c2 ctv2=> ?_;show WKw _ _ _ _ ((g,bg (ml Γ.w.params c_scores pm2 c2 ctv2))::_) _;show"w144Q";refine⟨am (pQ _) hT,?_⟩;refine bz.mono (Ej (kx:= .int (score T n top:Nat)) hT (show 1<Γ.k-1 by omega) (fun _ h=>h) hfr2.cons (Less.skip (Less.skip hl)) rfl fun fr' q=>⟨aV (.tail _ (.head _)) pD,fun K hK=> ?_⟩) fun _ _ h=> .inr h;refine wB hT.fr (show 0<Γ.k-1-1 by omega) (.tail _ (.head _)) fun L2=> ?_;refine w_Subscript ?_;show"w144S";refine ar (vs:=ae (aK T n n)) (by show"mem") (Er _) (by omega) (by rw[Es];exact cm (dq ht)) ?_;exact⟨_,Less.skip Less.refl,hK⟩
end
end
section
theorem gl_law_refused:nsIn (hd.heap_1 p) mainGlobals "_law_refused"=some (some (.ref 139)):=by kernel_rfl
noncomputable def iI (p:Params):Scope:=bS p 144 [32,0,0]
theorem An (p:Params):(iI p).kind = .function :=by kernel_rfl
theorem Ao (p:Params):∀x∈(iI p).names,x.2= .local ->(iI p).names.lookup x.1=some .local :=aJ (by kernel_rfl)
theorem ek144T {L144T:Addr} {c144T:List (Str×Addr)}:EnvOk (aM (iI p) (E4 p L C) L144T c144T):=⟨by kernel_rfl,by kernel_rfl⟩
theorem ka144T {L144T:Addr} {c144T:List (Str×Addr)}:KdA (aM (iI p) (E4 p L C) L144T c144T) [("deed",.local),("_law_refused",.globalImplicit)]:=⟨by kernel_rfl,by kernel_rfl⟩
noncomputable abbrev dH (rs:List (Addr×Bool×Str)):Led:=rs.map fun q=>lL q.1 [.bool q.2.1,.str q.2.2]
noncomputable abbrev cw (rs:List (Addr×Bool×Str)):List AV:=rs.map fun q=> .ref q.1
noncomputable abbrev Ap:List (Bool×Str):=[(true,"lo must be non-negative"),(true,"lo must be non-negative"),(false,"")]
theorem mm {F:Led} {rs:List (Addr×Bool×Str)} {q:Addr×Bool×Str}:Less (F++(dH (rs++[q])++aa)) (lL q.1 [.bool q.2.1,.str q.2.2]::(F++(dH rs++aa))):=by
 have h:=Less.move (X:=[lL q.1 [.bool q.2.1,.str q.2.2]]) (Y:=F++dH rs) (Z:=aa);unfold dH at h⊢;rw[Ez,EQ,G4];simpa using h
section
variable {RL:Loc}
theorem wC (hS:Std Γ) (hfl:Γ.fl=true):
 WM FR Γ (exec (aY Γ.w.params 31) (E4 Γ.w.params L C)) ((L,ab (("deeds",u_deeds)::RL))::aa) fun f o h c P=>f= .next ∧∃de fA fB fC pmA cA ctvA pmB ctvB pmC cC ctvC,Std (Γ.mv h c P)∧Less ((L,ab (nR "deeds" de::RL))::lL de [.ref fA,.ref fB,.ref fC]::(fC,bg (iH Γ.w.params C.total pmC cC ctvC))::(fB,bg (iG Γ.w.params C.top C.scores C.back pmB c ctvB))::(fA,bg (iF Γ.w.params C.top C.ranked pmA cA ctvA))::aa) o:=by
 refine kh ?_;refine z7 ?_;refine wm ?_;refine b7 (c:=143) (P:=141) (q:="law.<locals>.<lambda>") hS.T (hS.mem _ (by show"mem")) (hS.uniq (by show"mem")) (by kernel_rfl) (by kernel_rfl) (by kernel_rfl) (by kernel_rfl) (clos:=[("top",C.top),("ranked",C.ranked)]) (by kernel_rfl) fun fA pmA cA ctvA=> ?_;show kg _ _ _ _ ((fA,bg (iF Γ.w.params C.top C.ranked pmA cA ctvA))::_) _;refine wn ?_;refine tH (c:=143) (P:=141) (q:="law.<locals>.<lambda>") (a0:=("top",C.top)) (r0:=[("scores",C.scores),("back",C.back)]) hS hfl (by kernel_rfl) (by show"mem") (by kernel_rfl) (by kernel_rfl) (by kernel_rfl) (by kernel_rfl) (by kernel_rfl) fun fB pmB c ctvB h P hS2=> ?_;show WArgs (Γ.mv h c P) _ _ _ ((fB,bg (iG Γ.w.params C.top C.scores C.back pmB c ctvB))::_) _;refine a_cons ?_;refine b7 (c:=143) (P:=141) (q:="law.<locals>.<lambda>") hS2.T (hS2.mem _ (by show"mem")) (hS2.uniq (by show"mem")) (by kernel_rfl) (by kernel_rfl) (by kernel_rfl) (by kernel_rfl) (clos:=[("total",C.total)]) (by kernel_rfl) fun fC pmC cC ctvC=> ?_;show WArgs (Γ.mv h c P) _ _ _ ((fC,bg (iH Γ.w.params C.total pmC cC ctvC))::_) _;refine a_nil ?_;refine⟨ac (Eo rfl),fun de=> ?_⟩;show"w144@M78";refine⟨rfl,de,fA,fB,fC,pmA,cA,ctvA,pmB,ctvB,pmC,cC,ctvC,hS2,?_⟩;show"less"
theorem B2 {P:Nat->Prop} (h0:P 0) (h1:P 1) (h2:∀j,P (j+2)) (i:Nat):P i:=by
 cases i with
 |zero=>exact h0
 |succ i=>
  cases i with
  |zero=>exact h1
  |succ i=>exact h2 i
theorem B3 {P:Nat->Prop} (h0:P 0) (h1:P 1) (h2:P 2) (h3:∀j,P (j+3)) (i:Nat):P i:=B2 h0 h1 (fun j=>by
 cases j with
 |zero=>exact h2
 |succ j=>exact h3 j) i
theorem Db {l:List α} (h:l.length=3):∃a b c,l=[a,b,c]:=by
 obtain⟨a,l1,rfl⟩:=GG h;obtain⟨b,l2,rfl⟩:=GG (Nat.succ.inj h);obtain⟨c,l3,rfl⟩:=GG (Nat.succ.inj (Nat.succ.inj h));cases List.eq_nil_of_length_eq_zero (Nat.succ.inj (Nat.succ.inj (Nat.succ.inj h)));exact⟨a,b,c,rfl⟩
theorem wD {de fA fB fC ra sc ba cA cC c P:Addr} {pmA ctvA pmB ctvB pmC ctvC:Value} {tot:Int} (hS:Std Γ) (htab:(c,P,q31)∈Γ.tabs) (hfl:Γ.fl=false) (hpa:∀x,Γ.pa x->x=some [(E4 Γ.w.params L C)]) (hk:60<Γ.k) (hn:n≤8) (ht:top<n) (hde:lL de [.ref fA,.ref fB,.ref fC]∈aa) (hfC:(fC,bg (iH Γ.w.params C.total pmC cC ctvC))∈aa) (hfB:(fB,bg (iG Γ.w.params C.top C.scores C.back pmB c ctvB))∈aa) (hfA:(fA,bg (iF Γ.w.params C.top C.ranked pmA cA ctvA))∈aa) (hsc:lL sc (ae (aK T n n))∈aa):
 WX Γ (E4 Γ.w.params L C) (aY Γ.w.params 32) (cI C.total tot::cI C.top (top:Nat)::cR C.scores sc::cR C.ranked ra::cR C.back ba::(L,ab (nR "deeds" de::RL))::aa) fun f o=>f= .next ∧Less (cI C.total tot::cI C.top (top:Nat)::cR C.scores sc::cR C.ranked ra::cR C.back ba::(L,ab (nR "deeds" de::RL))::aa) o:=by
 refine W.hide fun q0 hq0=> ?_;have hT:TopG Γ:=hS.T;refine x_If ?_;refine t_Compare ?_;refine aL (cl:=[]) (loc:=[("deed",none)]) (by kernel_rfl) (An Γ.w.params) (Ao Γ.w.params) (by decide) (by simp) ?_;unfold bC;show"w144@M78";refine⟨_,aW (vs:=[.ref fA,.ref fB,.ref fC]) (by show"mem") ?_⟩;intro acc L2 cs2 hcs2;rw[af (cs:=cs2) hcs2];show aR _ _ 0 acc (aM (iI Γ.w.params) (E4 Γ.w.params L C) L2 []) _ _ _ ((L2,ab [("deed",none)])::lL acc []::cI C.total tot::cI C.top (top:Nat)::cR C.scores sc::cR C.ranked ra::cR C.back ba::(L,ab (nR "deeds" de::RL))::aa) _;refine aB (fun i o=>∃x rs,rs.map (·.2)=Ap.take i∧o=(L2,ab [("deed",x)])::lL acc (cw rs)::cI C.total tot::cI C.top (top:Nat)::cR C.scores sc::cR C.ranked ra::cR C.back ba::(L,ab (nR "deeds" de::RL))::(dH rs++aa)) rfl rfl ⟨none,[],rfl,rfl⟩ ?_ ?_ ?_
 ·rintro i o ⟨x,rs,_,rfl⟩
  have:lL de [.ref fA,.ref fB,.ref fC]∈dH rs++aa:=EC _ hde;show"mem"
 ·rintro i J it o h' hit ⟨x,rs,hrs,rfl⟩ hs
  have hS2:Std (Γ.at h'):=hS.at hs;have hT2:TopG (Γ.at h'):=hS2.T;have hrl:rs.length≤3:=by have e:=congrArg Fb hrs;rw[En,EJ]at e;exact Ep (Fh e) (Fg ..)
  have mA:=EC (dH rs) hfA;have mB:=EC (dH rs) hfB;have mC:=EC (dH rs) hfC;have mS:=EC (dH rs) hsc;have fk:∀{fd:FuncData},fd.scope.kind= .function ->fd.scope.kind≠ .module :=fun h e=>by rw[h]at e;cases e
  have hk1:60<(Γ.at h').k :=hk;dsimp only[J];induction i using B3 with
  |h0=>
   cases hit;show WAsg _ _ _ _ _ _;show"w144T";refine⟨am (oJ _) hT2,?_⟩;refine Aa (fr:=[(E4 Γ.w.params L C)]) hT2 (by omega) hpa (tJ "lo must be non-negative") (fun fr' q=>aV (by show"mem") pA) (fun L3 loc=> ?_) fun r=> ?_
   ·exact BZ (top:=top) (ra:=ra) hT2.fr (show 0<Γ.k-1 by omega) (show 2<Γ.k-1 by omega) (fun _ h=>h) (cu.push (cu.push (fun _ h=>nomatch h) (by show"mem") (fk (by kernel_rfl))) (.head _) (fk (by kernel_rfl))) Less.refl (by show"mem") (by show"mem") (by show"mem")
   have hl:Less ((L2,ab [nR "deed" fA])::lL acc (cw (rs++[((r,true,("lo must be non-negative":Str)):Addr×Bool×Str)]))::cI C.total tot::cI C.top (top:Nat)::cR C.scores sc::cR C.ranked ra::cR C.back ba::(L,ab (nR "deeds" de::RL))::(dH (rs++[((r,true,("lo must be non-negative":Str)):Addr×Bool×Str)])++aa)) (lL r [.bool true,.str "lo must be non-negative"]::(L2,ab [nR "deed" fA])::lL acc (cw rs++[.ref r])::cI C.total tot::cI C.top (top:Nat)::cR C.scores sc::cR C.ranked ra::cR C.back ba::(L,ab (nR "deeds" de::RL))::(dH rs++aa)):=by
    rw[show cw (rs++[((r,true,("lo must be non-negative":Str)):Addr×Bool×Str)])=cw rs++[.ref r]from by unfold cw;rw[Ez];rfl];exact mm (F:=(L2,ab [nR "deed" fA])::lL acc (cw rs++[.ref r])::cI C.total tot::cI C.top (top:Nat)::cR C.scores sc::cR C.ranked ra::cR C.back ba::(L,ab (nR "deeds" de::RL))::[]) (rs:=rs) (q:=(r,true,("lo must be non-negative":Str))) (aa:=aa)
   refine⟨cw rs,_,_,by show"upd",ac (by rw[En];omega),hl,_,rs++[((r,true,("lo must be non-negative":Str)):Addr×Bool×Str)],?_,rfl⟩;rw[Ez,hrs];rfl
  |h1=>
   cases hit;show WAsg _ _ _ _ _ _;show"w144T";refine⟨am (oJ _) hT2,?_⟩;refine Aa (fr:=[(E4 Γ.w.params L C)]) hT2 (by omega) hpa (tJ "lo must be non-negative") (fun fr' q=>aV (by show"mem") pB) (fun L3 loc=> ?_) fun r=> ?_
   ·exact B1 (top:=top) (n:=n) (T:=T) (ba:=ba) (sc:=sc) hS2.fr htab hfl (show 0<Γ.k-1 by omega) (show 4<Γ.k-1 by omega) (fun _ h=>h) (cu.push (cu.push (fun _ h=>nomatch h) (by show"mem") (fk (by kernel_rfl))) (.head _) (fk (by kernel_rfl))) Less.refl (by show"mem") (by show"mem") (by show"mem") (by show"mem") (by show"mem") (by omega) ht
   have hl:Less ((L2,ab [nR "deed" fB])::lL acc (cw (rs++[((r,true,("lo must be non-negative":Str)):Addr×Bool×Str)]))::cI C.total tot::cI C.top (top:Nat)::cR C.scores sc::cR C.ranked ra::cR C.back ba::(L,ab (nR "deeds" de::RL))::(dH (rs++[((r,true,("lo must be non-negative":Str)):Addr×Bool×Str)])++aa)) (lL r [.bool true,.str "lo must be non-negative"]::(L2,ab [nR "deed" fB])::lL acc (cw rs++[.ref r])::cI C.total tot::cI C.top (top:Nat)::cR C.scores sc::cR C.ranked ra::cR C.back ba::(L,ab (nR "deeds" de::RL))::(dH rs++aa)):=by
    rw[show cw (rs++[((r,true,("lo must be non-negative":Str)):Addr×Bool×Str)])=cw rs++[.ref r]from by unfold cw;rw[Ez];rfl];exact mm (F:=(L2,ab [nR "deed" fB])::lL acc (cw rs++[.ref r])::cI C.total tot::cI C.top (top:Nat)::cR C.scores sc::cR C.ranked ra::cR C.back ba::(L,ab (nR "deeds" de::RL))::[]) (rs:=rs) (q:=(r,true,("lo must be non-negative":Str))) (aa:=aa)
   refine⟨cw rs,_,_,by show"upd",ac (by rw[En];omega),hl,_,rs++[((r,true,("lo must be non-negative":Str)):Addr×Bool×Str)],?_,rfl⟩;rw[Ez,hrs];rfl
  |h2=>
   cases hit;show WAsg _ _ _ _ _ _;show"w144T";refine⟨am (oJ _) hT2,?_⟩;refine Aa (fr:=[(E4 Γ.w.params L C)]) hT2 (by omega) hpa wv (fun fr' q=>aV (by show"mem") pC) (fun L3 loc=> ?_) fun r=> ?_
   ·exact B0 (tot:=tot) hT2.fr (show 0<Γ.k-1 by omega) (show 2<Γ.k-1 by omega) (fun _ h=>h) (cu.push (cu.push (fun _ h=>nomatch h) (by show"mem") (fk (by kernel_rfl))) (.head _) (fk (by kernel_rfl))) Less.refl (by show"mem") (by show"mem")
   have hl:Less ((L2,ab [nR "deed" fC])::lL acc (cw (rs++[((r,false,("":Str)):Addr×Bool×Str)]))::cI C.total tot::cI C.top (top:Nat)::cR C.scores sc::cR C.ranked ra::cR C.back ba::(L,ab (nR "deeds" de::RL))::(dH (rs++[((r,false,("":Str)):Addr×Bool×Str)])++aa)) (lL r [.bool false,.str ""]::(L2,ab [nR "deed" fC])::lL acc (cw rs++[.ref r])::cI C.total tot::cI C.top (top:Nat)::cR C.scores sc::cR C.ranked ra::cR C.back ba::(L,ab (nR "deeds" de::RL))::(dH rs++aa)):=by
    rw[show cw (rs++[((r,false,("":Str)):Addr×Bool×Str)])=cw rs++[.ref r]from by unfold cw;rw[Ez];rfl];exact mm (F:=(L2,ab [nR "deed" fC])::lL acc (cw rs++[.ref r])::cI C.total tot::cI C.top (top:Nat)::cR C.scores sc::cR C.ranked ra::cR C.back ba::(L,ab (nR "deeds" de::RL))::[]) (rs:=rs) (q:=(r,false,("":Str))) (aa:=aa)
   refine⟨cw rs,_,_,by show"upd",ac (by rw[En];omega),hl,_,rs++[((r,false,("":Str)):Addr×Bool×Str)],?_,rfl⟩;rw[Ez,hrs];rfl
  |h3 j=>cases hit
 ·rintro o ⟨x,rs,hrs,rfl⟩
  refine⟨_,_,Less.refl,?_⟩
  obtain⟨q0,q1,q2,rfl⟩:∃q0 q1 q2,rs=[q0,q1,q2]:=by
   exact Db ((En ..).symm.trans (congrArg Fb hrs))
  obtain⟨a0,b0,m0⟩:=q0;obtain⟨a1,b1,m1⟩:=q1;obtain⟨a2,b2',m2⟩:=q2;cases hrs;refine w_BinOp ?_;refine w_BinOp ?_;show"w144@M78";refine⟨ac (Eo rfl),fun z1=> ?_⟩;show"w144@M78";refine⟨ac (Eo rfl),fun z2=> ?_⟩;show"w144@M78";refine ii (vs:=[.ref z1]) (k:=2) (by show"mem") (Eo rfl) (by decide) fun z3=> ?_;rw[show(EH 2 [AV.ref z1]).flatten =[.ref z1,.ref z1]from rfl];show"w144@M78";refine⟨ac (Eo rfl),fun z4=> ?_⟩;show"w144@M78";refine⟨ac (Eo rfl),fun z5=> ?_⟩;refine bt (vs:=[.ref z1,.ref z1]) (ws:=[.ref z4]) (by show"mem") (by show"mem") (ac (Eo rfl)) fun z6=> ?_
  have pair:∀{Γ:Cx} {aa:Led} {b:Bool} {m:Str} (i:Nat) (x y:AV),([.bool b,.str m]:List AV)[i]? =some x->([.bool b,.str m]:List AV)[i]? =some y->dh 0 Γ aa x y:=fun i x y hx hy=>by
   induction i using B2 with
   |h0=>cases hx;cases hy;exact dh.val _
   |h1=>cases hx;cases hy;exact dh.str _
   |h2 j=>cases hx
  refine e_ (n:=1) (vs:=[.ref a0,.ref a1,.ref a2]) (ws:=[.ref z1,.ref z1,.ref z4]) (by show"mem") (.head _) rfl (by decide) (fun j u v hu hv=> ?_) ?_
  ·induction j using B3 with
   |h0=>cases hu;cases hv;exact cr.of (dh.list (n:=0) (vs:=[.bool true,.str "lo must be non-negative"]) (ws:=[.bool true,.str "lo must be non-negative"]) (by show"mem") (by show"mem") rfl pair)
   |h1=>cases hu;cases hv;exact cr.of (dh.list (n:=0) (vs:=[.bool true,.str "lo must be non-negative"]) (ws:=[.bool true,.str "lo must be non-negative"]) (by show"mem") (by show"mem") rfl pair)
   |h2=>cases hu;cases hv;exact cr.of (dh.list (n:=0) (vs:=[.bool false,.str ""]) (ws:=[.bool false,.str ""]) (by show"mem") (by show"mem") rfl pair)
   |h3 j=>cases hu
  show"w144@M78";subst hq0;refine⟨rfl,?_⟩;show Less (cI C.total tot::cI C.top (top:Nat)::cR C.scores sc::cR C.ranked ra::cR C.back ba::(L,ab (nR "deeds" de::RL))::aa) ((z6,_)::(z5,_)::(z4,_)::(z3,_)::(z2,_)::(z1,_)::(acc,_)::cI C.total tot::cI C.top (top:Nat)::cR C.scores sc::cR C.ranked ra::cR C.back ba::(L,ab (nR "deeds" de::RL))::lL a0 [.bool true,.str "lo must be non-negative"]::lL a1 [.bool true,.str "lo must be non-negative"]::lL a2 [.bool false,.str ""]::aa);show"less"
end
end
section
section
variable {rk:List Nat}
theorem nj (p:Nat->Bool):∀l,(l.filter p).length =aE (fun x=>bN (p x)) l:=fun z_=>by
 induction z_ with
 |nil=>exact rfl
 |cons a l ih=>
  have ih:=ih;rw[HK];show _=bN (p a)+aE _ l;cases h:p a<;>simp[bN,ih];omega
theorem pE (a:Nat):∀l:List Nat,aE (fun x=>bN (x==a)) l=l.count a:=fun z_=>by
 induction z_ with
 |nil=>exact rfl
 |cons b l ih=>
  have ih:=ih;rw[HS];show bN (b==a)+aE _ l=_;rw[ih];cases h:b==a<;>simp[bN];omega
theorem tL (a:Nat):∀l:List Nat,aE (fun x=>bN (a==x)) l=l.count a:=fun l=>by
 have e:∀x,(a==x)=(x==a):=fun x=>by
  by_cases h:a=x
  ·subst h;rfl
  ·rw[beq_eq_false_iff_ne.mpr h,beq_eq_false_iff_ne.mpr (Ne.symm h)]
 rw[←pE];exact aT fun x _=>by rw[e]
theorem Dc (hT:Tour n T) (hr:rk.Perm (Et n)) (hpw:rk.Pairwise (cg (score T n))) (hx:rk[rk.length-1]? =some top) {o:Nat} (ho:o<n) (h1:o≠top) (h2:T top o=false):∃b∈az T top n,dc T n top o=some b:=by
 obtain⟨hl,hx2⟩:=EB.mp hx;have htop:top<n:=EM.mp (hr.mem_iff.mp (hx2▸GE hl));cases hf:dc T n top o with
 |some b=>exact⟨b,List.mem_of_find?_eq_some hf,rfl⟩
 |none=>
  exfalso;have hno:∀b∈az T top n,¬T b o=true:=Hx.mp hf;have hot:T o top=true:=by rw[hT.anti o top ho htop h1,h2];rfl
  have hlt:score T n top<score T n o:=by
   rw[cV,cV,gC,gC];refine gb (fun y hy hty=> ?_) ⟨top,EM.mpr htop,hot,hT.irr _ htop⟩;have hyn:=EM.mp hy;have hyo:o≠y:=fun e=>by rw[e,hty]at h2;cases h2
   have:=hno y (Go.mpr ⟨hy,hty⟩);rw[hT.anti o y ho hyn hyo,Bool.eq_false_iff.mpr this];rfl
  obtain⟨i,hi,hio⟩:=cU (hr.mem_iff.mpr (EM.mpr ho));have:=eM hpw (i:=i) (j:=rk.length-1) (by omega) (by omega);rw[hio,Ey,hx]at this;exact absurd this (by simp;omega)
theorem qO (hT:Tour n T) (hr:rk.Perm (Et n)) (hpw:rk.Pairwise (cg (score T n))) (hx:rk[rk.length-1]? =some top) {o:Nat} (ho:o<n):
 aE (fun b=>bN (bd T n top b o)) (az T top n)=bN (!T top o&&decide (o≠top)):=by
 cases h:T top o with
 |true=>exact(aT fun b _=>by unfold bd;rw[h];rfl).trans (eO _)
 |false=>
  by_cases h1:o=top
  ·exact(aT fun b _=>by unfold bd;rw[h,show decide (o≠top)=false from decide_eq_false fun e=>e h1];rfl).trans ((eO _).trans (by rw[show decide (o≠top)=false from decide_eq_false fun e=>e h1];rfl))
  ·obtain⟨b,hb,hfb⟩:=Dc hT hr hpw hx ho h1 h
   have e1:decide (o≠top)=true:=decide_eq_true h1;rw[e1];refine(aT (g:=fun x=>bN (b==x)) fun x _=> ?_).trans ?_
   ·unfold bd
    rw[h,e1,hfb];rw[show(some b==some x)=(b==x)from rfl];rfl
   ·rw[tL,List.Nodup.count (show(az T top n).Nodup from List.nodup_range.filter _),if_pos hb]
    rfl
theorem qP (f:α->List β) (g:α->Nat) (h:∀x,(f x).length =g x):∀l:List α,(l.flatMap f).length =(l.map g).sum :=fun z_=>by
 induction z_ with
 |nil=>exact rfl
 |cons a l ih=>rw[Fu,EU,ih,h];rfl
theorem wE (hT:Tour n T) (hr:rk.Perm (Et n)) (hpw:rk.Pairwise (cg (score T n))) (hx:rk[rk.length-1]? =some top):
 (dM T n top (az T top n)).length =n:=by
 obtain⟨hl,hx2⟩:=EB.mp hx;have htop:top<n:=EM.mp (hr.mem_iff.mp (hx2▸GE hl));unfold dM;rw[EK,qP (m_ T n top) (fun b=>1+aE (fun o=>bN (bd T n top b o)) (Et n)) (fun b=>by unfold m_ ax;rw[EK,En,nj];omega),g9,cE,kZ]
 have e1:aE (fun _=>1) (az T top n)=aE (fun o=>bN (T top o)) (Et n):=by
  rw[←nj];show _=(az T top n).length;generalize az T top n=l;induction l with
  |nil=>rfl
  |cons a l ih=>show 1+aE _ l=l.length+1;rw[ih];omega
 rw[e1,aT (g:=fun o=>bN (!T top o&&decide (o≠top))) (fun o ho=>qO hT hr hpw hx (EM.mp ho)),←cE]
 have e2:aE (fun o=>bN (T top o)+bN (!T top o&&decide (o≠top))) (Et n)+aE (fun o=>bN (o==top)) (Et n)=n:=by
  rw[←cE]
  have e3:∀l:List Nat,aE (fun _=>1) l=l.length:=fun l=>by
   induction l with
   |nil=>rfl
   |cons a l ih=>show 1+aE _ l=l.length+1;rw[ih];omega
  refine(aT (g:=fun _=>1) fun o ho=> ?_).trans ((e3 _).trans EN);by_cases h:o=top
  ·subst h
   rw[hT.irr _ htop];simp[bN]
  ·cases T top o<;>simp[bN,h]
 rw[pE,List.Nodup.count Gf,if_pos (EM.mpr htop)]at e2;omega
end
end
section
section
variable {p q:α} {o o' r A M:List α}
theorem pk_head:(p::r).Perm (p::r):= .refl _
theorem pk_tail (h:(p::r).Perm o):(p::q::r).Perm (q::o):=(List.Perm.swap q p r).trans (h.cons q)
theorem pk_u1 {a:α}:(p::a::r).Perm (a::p::r):=pk_tail pk_head
theorem pk_u2 {a b:α}:(p::a::b::r).Perm (a::b::p::r):=pk_tail pk_u1
theorem pk_u3 {a b c:α}:(p::a::b::c::r).Perm (a::b::c::p::r):=pk_tail pk_u2
theorem pk_ut {a b c d:α} (h:(p::r).Perm o):(p::a::b::c::d::r).Perm (a::b::c::d::o):=pk_tail (pk_tail (pk_tail (pk_tail h)))
theorem pk_app (h:(p::r).Perm o):(p::(M++r)).Perm (M++o):=Hb.symm.trans (h.append_left M)
theorem pa_head:(A++r).Perm (A++r):= .refl _
theorem pa_tail (h:(A++r).Perm o):(A++q::r).Perm (q::o):=Hb.trans (h.cons q)
theorem pa_app (h:(A++r).Perm o):(A++(M++r)).Perm (M++o):=by
 refine List.Perm.trans ?_ (h.append_left M);rw[←EO,←EO];exact List.perm_append_comm.append_right r
theorem pm_take (h:(p::r).Perm o) (h':o'.Perm r):(p::o').Perm o:=(h'.cons p).trans h
theorem pm_takeA (h:(A++r).Perm o) (h':o'.Perm r):(A++o').Perm o:=(h'.append_left A).trans h
noncomputable def SubL (M o:List α):Prop:=∀q∈M,q∈o
theorem SubL.here:SubL M (M++o):=fun _ h=>EY _ h
theorem SubL.tail (h:SubL M o):SubL M (q::o):=fun _ h'=> .tail _ (h _ h')
theorem SubL.app (h:SubL M o):SubL M (A++o):=fun _ h'=>EC _ (h _ h')
theorem mem_app (h:p∈o):p∈A++o:=EC _ h
end
noncomputable def NSm (l' l:Loc):Prop:=∀x a,(x,some a)∈l'->(x,some a)∈l
theorem NSm.refl {l:Loc}:NSm l l:=fun _ _ h=>h
theorem NSm.take {p:Str×Option AV} {l l' r:Loc} (h:(p::r).Perm l) (h':NSm l' r):NSm (p::l') l:=fun x a hm=>
 h.mem_iff.mp ((EG.mp hm).elim (fun e=>e▸ .head _) fun hm=> .tail _ (h' x a hm))
theorem NSm.new {x:Str} {l l':Loc} (h':NSm l' l):NSm ((x,none)::l') l:=fun y a hm=>(EG.mp hm).elim (fun e=>nomatch e) (h' y a)
theorem ab.names {l l':Loc} (h:NSm l' l) (hn:(l'.map (·.1)).Nodup) (x:ab l o):ab l' o:=by
 obtain⟨es,ep,m,h1,h2,h3,h4,h5⟩:=x;exact⟨es,ep,m,h1,h2,h3,hn,fun x a hx=>h5 x a (h x a hx)⟩
noncomputable def Wk (_:Addr) (o' o:Led):Prop:=∀Γ s,R Γ o s->R Γ o' s
theorem Wk.mk {loc':Loc} {r o o':Led} (hp:((L,ab loc)::r).Perm o) (hs:o'.Perm ((L,ab loc')::r)) (hl:NSm loc' loc) (hn:decide (loc'.map (·.1)).Nodup =true):Wk L o' o:=fun _ _ h=>
 ((h.sub (Less.perm hp)).weak .head fun _ x=>x.names hl (of_decide_eq_true hn)).sub (Less.perm hs)
theorem WM.wk {rel:β->α->Prop} {K:β->Led->Heap->Addr->Addr->Prop} (hu:Wk L ao aa) (h:WM rel Γ m ao K):WM rel Γ m aa K:=fun A s hA hR=>h A s hA (hu _ _ hR)
theorem tM {f0:Addr} {st:Stmt} {rest:List Stmt} {K:AF->Led->Heap->Addr->Addr->Prop} {J:Led->Prop} (h:WX Γ (ah fd f0 L cs) st ao fun f o=>f= .next ∧J o) (hu:Wk L ao aa) (h2:∀o,J o->WM FR Γ (execs rest (ah fd f0 L cs)) o K):WM FR Γ (execs (st::rest) (ah fd f0 L cs)) aa K:=
 fun A s hA hR=>wo J h h2 A s hA (hu _ _ hR)
theorem tN {f0:Addr} {st:Stmt} {rest:List Stmt} {K:AF->Led->Heap->Addr->Addr->Prop} {J:Led->Heap->Addr->Addr->Prop} (h:WM FR Γ (exec st (ah fd f0 L cs)) ao fun f o h c P=>f= .next ∧J o h c P) (hu:Wk L ao aa) (h2:∀o h c P,J o h c P->WS (Γ.mv h c P) (ah fd f0 L cs) rest o fun f o2=>K f o2 h c P):WM FR Γ (execs (st::rest) (ah fd f0 L cs)) aa K:=
 fun A s hA hR=>wp J h h2 A s hA (hu _ _ hR)
theorem wF {f0:Addr} {st:Stmt} {rest:List Stmt} {K:AF->Led->Prop} {J:Led->Prop} (h:WX Γ (ah fd f0 L cs) st ao fun f o=>f= .next ∧J o) (hu:Wk L ao aa) (h2:∀o,J o->WS Γ (ah fd f0 L cs) rest o K):WS Γ (ah fd f0 L cs) (st::rest) aa K:=
 fun A s hA hR=>bv J h h2 A s hA (hu _ _ hR)
theorem wG {f0:Addr} {st:Stmt} {K:AF->Led->Prop} (h:WX Γ (ah fd f0 L cs) st ao fun f o=>f≠ .next ∧K f o) (hu:Wk L ao aa):WS Γ (ah fd f0 L cs) [st] aa K:=
 fun A s hA hR=>s_cons (W.mono h fun f o h=>by obtain⟨h1,h2⟩:=h;cases f<;>first|exact absurd rfl h1|exact h2) A s hA (hu _ _ hR)
theorem Arcs.of3 {A:Addr} (h:rs.length=n) (h1:lL A (rs.map AV.ref)∈aa) (h2:SubL (aZ (aO T) n 0 rs) aa):Arcs aa A n T rs:=
 ⟨h,h1,fun i r e=>h2 _ (by have:=js (aO T) n rs 0 i r e;rwa [E7]at this)⟩
theorem tO {R:El}:aA w R chs aa=aA w R chs []++aa:=by simp
theorem tP (h:SubL (cG T n top gs) aa):∀q∈gs,lL q.1 (ae (q.2::ax T n top q.2 n))∈aa:=fun q hq=>
 h _ (EE (f:=fun q:Addr×Nat=>(lL q.1 (ae (q.2::ax T n top q.2 n)):Addr×OP)) hq)
theorem pF (h:SubL (bw w rows) aa):∀r∈rows,(r.tp,bV [.str r.tag,.ref r.d])∈aa∧(r.d,bj w r.d r.kvs)∈aa:=fun r hr=>
 ⟨h _ (GD.mpr ⟨r,hr,.head _⟩),h _ (GD.mpr ⟨r,hr,.tail _ (.head _)⟩)⟩
theorem wH (h:SubL (bU rows) aa):∀r∈rows,(r.tp,bV [.str r.tag,.ref r.d])∈aa:=fun r hr=>
 h _ (EE (f:=fun r:Rw=>((r.tp,bV [.str r.tag,.ref r.d]):Addr×OP)) hr)
theorem qQ {l:List Nat}:(dM T n top l).map (·.1)=aD top::l.flatMap (gq T n top):=by
 unfold dM;rw[EQ,IY];refine congrArg _ (congrArg (fun f=>List.flatMap f l) (funext fun x=> ?_));unfold m_ gq;rw[EQ,FC];rfl
theorem nk (h:rows.map Rw.sp=dM T n top (az T top n)):rows.map (·.tag)=j4 T n top:=by
 have:=congrArg (List.map (·.1)) h;rw[qQ,FC]at this;exact this
theorem oF {l:List Nat}:∀p∈dM T n top l,dN p.2:=fun p hp=>by
 rcases EG.mp hp with rfl|hp
 ·exact nc
 ·obtain⟨x,_,hx⟩:=GD.mp hp
  rcases EG.mp hx with rfl|hx
  ·exact ou
  ·obtain⟨y,_,rfl⟩:=EP.mp hx
   exact oz
theorem tQ (hn:n≤8):(j5 T n top).length ≤300:=by
 have h2:(j5 T n top).length ≤16*(az T top n).length :=bK fun x _=>by
  have h3:(fj T n top x).length ≤2*(ax T n top x n).length :=bK fun _ _=>EL _;have:=bb (T:=T) (n:=n) (top:=top) (one:=x) (i:=n);omega
 have:=bJ (T:=T) (top:=top) (i:=n);omega
noncomputable def dI (p:Params) (k:Nat):List Stmt:=(ay p 144).drop k
theorem jc (p:Params) (h:IL k 35=true):dI p k=aY p k::dI p (k+1):=by
 have hl:(ay p 144).length =35:=by kernel_rfl
 have hk:k<(ay p 144).length :=hl▸Nat.blt_eq.mp h;unfold dI aY;rw[Fz hk,Ex hk];rfl
theorem wI (p:Params):dI p 34=[aY p 34]:=by
 have hl:(ay p 144).length =35:=by kernel_rfl
 rw[jc p rfl];refine congrArg _ (List.drop_eq_nil_of_le ?_);rw[hl];exact EL _
end
section
noncomputable def tR (Γ:Cx) (l:Addr) (vs:List AV):Prop:=∀aa s,R Γ aa s->∃items,s.heap.IsList l items∧VRs vs items.toList
theorem w_SliceH {value:Expr} {lower upper:Option Expr} {p:Pos} (h:WE Γ env value aa fun a o1=>WPart Γ env lower o1 fun lo o2=>WPart Γ env upper o2 fun hi o3=>ic lo∧ic hi∧∃l vs,a= .ref l∧tR Γ l vs∧vs.length≤sizeLine∧∀r,K (.ref r) (lL r (sliceL vs lo hi)::o3)) (hs:∀o i,subscripted (.Slice lower upper none p) false o i=operate [i,o] (getItem o i):=by intro _ _;kernel_rfl):WE Γ env (.Subscript value (.Slice lower upper none p) pos) aa K:=by
 intro A s hA hR;rw[arm_eval_Subscript];refine wpAny_bind (W.go h hA hR fun v s1 a o1 hv hR1 h1=> ?_);refine wpAny_bind (wpAny_holding (wpAny_Slice (W.go (fT h1) hA hR1 fun vl s2 lo o2 hl hR2 h2=> ?_)));refine W.go (fT h2) hA hR2 fun vu s3 hi o3 hu hR3 hz=> ?_;obtain⟨hlo,hhi,l,vs,rfl,hm,hz,hK⟩:=hz;cases hv;rw[evalPart_none];refine wpAny_pure ?_;obtain⟨items,hL,hvs⟩:=hm o3 s3 hR3;have hsz:items.size≤sizeLine:=by have:=hvs.size;omega
 refine wpAny_bind (wpAny_standAt ?_);unfold getitemInPython;refine wpAny_bind (wpAny_bind (wpAny_specialOf (hL.push _).typeIs list_getitem_lookup (wpAny_pure ?_)));rw[hs];refine wpAny_bind (wpAny_operate' (wpAny_getItem_list_slice (hL.push _) (Heap.IsSliceOf.new ..) hl hu .none (by simp) ?_ hsz));have hR4:=hR3.grow (t:=s3.toks) (h':=s3.heap.push {cls:= .type "slice",data:= .fields #[vl,vu,.none]}) (fun _ _ e=>Heap.get?_push_of_some _ e)
 have hR5:=hR4.push (t:=s3.toks) (o:={cls:= .type "list",data:= .seq (slicePick items lo hi none)}) (P:=bD (sliceL vs lo hi)) ⟨_,_,rfl,by rw[iO _ _ _ hlo hhi];exact hvs.sliceL _ _⟩ km;exact wpAny_bind (wpAny_letTemporaryGo (wpAny_pure ⟨_,_,.val _,hR5,hK _⟩))
section
variable {RL:Loc}
theorem wJ {sl:Addr} {ss:List Int} (hT:TopG Γ) (hz:ss.length≤63) (hm:tR Γ sl (aH ss)):
 WX Γ (E4 Γ.w.params L C) (aY Γ.w.params 0) (cO C.total u_total::(L,ab (nR "script" sl::("row",u_row)::RL))::aa) fun f o=>f= .next ∧∃rl,Less ((C.total,h_ (some (.int (ss.take 60).sum)))::(L,ab (nR "script" sl::nR "row" rl::RL))::lL rl (aH (ss.take 60))::aa) o:=by
 have hz2:(aH ss).length ≤sizeLine:=ac (by rw[En];omega);refine bO ?_;show"w144@M79b";refine⟨trivial,(by decide:(0:Int)≤60),sl,aH ss,rfl,hm,hz2,fun rl=> ?_⟩;rw[show sliceL (aH ss) none (some 60)=aH (ss.take 60)from im ss 60];show"w144@M79b";refine⟨trivial,(by decide:(0:Int)≤60),sl,aH ss,rfl,hm,hz2,fun r2=> ?_⟩;rw[show sliceL (aH ss) none (some 60)=aH (ss.take 60)from im ss 60];show"w144@M79b";refine mJ (ns:=ss.take 60) (by show"mem") ?_;show"w144@M79b";refine⟨ac (Eo rfl),fun t=> ?_⟩;refine aI (.head _) rfl ?_;show"w144@M79b";refine⟨rfl,rl,?_⟩;show"less"
end
end
section
theorem B4 {f0:Addr} {st:Stmt} {a:AF} {K:AF->Led->Prop} (h:WX Γ (ah fd f0 L cs) st ao fun f _=>f=a) (hu:Wk L ao aa) (ha:a≠ .next) (hk:∀o,K a o):WS Γ (ah fd f0 L cs) [st] aa K:=
 wG (W.mono h fun f o e=>by subst e;exact⟨ha,hk o⟩) hu
theorem NSm.nil {l:Loc}:NSm [] l:=fun _ _ h=>nomatch h
theorem aF {K:AF->Led->Heap->Addr->Addr->Prop} {J:Led->Prop} (h:WX Γ (E4 Γ.w.params L C) (aY Γ.w.params i) ao fun f o=>f= .next ∧J o) (hu:Wk L ao aa) (h2:∀o,J o->WM FR Γ (execs (dI Γ.w.params (i+1)) (E4 Γ.w.params L C)) o K) (hi:IL i 35=true:=by kernel_rfl):WM FR Γ (execs (dI Γ.w.params i) (E4 Γ.w.params L C)) aa K:=jc _ hi▸tM h hu h2
theorem tS {K:AF->Led->Heap->Addr->Addr->Prop} {J:Led->Heap->Addr->Addr->Prop} (h:WM FR Γ (exec (aY Γ.w.params i) (E4 Γ.w.params L C)) ao fun f o h c P=>f= .next ∧J o h c P) (hu:Wk L ao aa) (h2:∀o h c P,J o h c P->WS (Γ.mv h c P) (E4 Γ.w.params L C) (dI Γ.w.params (i+1)) o fun f o=>K f o h c P) (hi:IL i 35=true:=by kernel_rfl):WM FR Γ (execs (dI Γ.w.params i) (E4 Γ.w.params L C)) aa K:=jc _ hi▸tN h hu h2
theorem pG {K:AF->Led->Prop} {J:Led->Prop} (h:WX Γ (E4 p L C) (aY p i) ao fun f o=>f= .next ∧J o) (hu:Wk L ao aa) (h2:∀o,J o->WS Γ (E4 p L C) (dI p (i+1)) o K) (hi:IL i 35=true:=by kernel_rfl):WS Γ (E4 p L C) (dI p i) aa K:=jc _ hi▸wF h hu h2
theorem Wk.mk2 {loc':Loc} {r o o':Led} (hp:((L,ab loc)::r).Perm o) (hs:Less o' ((L,ab loc')::r)) (hl:NSm loc' loc) (hn:decide (loc'.map (·.1)).Nodup =true):Wk L o' o:=fun _ _ h=>
 ((h.sub (Less.perm hp)).weak .head fun _ x=>x.names hl (of_decide_eq_true hn)).sub hs
theorem Less.takeP {p:Addr×OP} {r o o':Led} (h:(p::r).Perm o) (h':Less o' r):Less (p::o') o:=
 Less.trans (Less.take .head h') (Less.perm h)
theorem Less.takeA {A r o o':List (Addr×OP)} (h:(A++r).Perm o) (h':Less o' r):Less (A++o') o:=by
 refine Less.trans ?_ (Less.perm h);clear h;induction A with
 |nil=>exact h'
 |cons q A ih=>exact Less.take .head ih
theorem Less.skipA {A o o':List (Addr×OP)} (h:Less o' o):Less o' (A++o):=by
 induction A with
 |nil=>exact h
 |cons q A ih=>exact Less.skip ih
noncomputable def Ax (Γ:Cx) (L:Addr) (C:Cs) (i j:Nat) (aa:Led) (J:Led->Prop):Prop:=∀(K:AF->Led->Heap->Addr->Addr->Prop),(∀o,J o->WM FR Γ (execs (dI Γ.w.params j) (E4 Γ.w.params L C)) o K)->WM FR Γ (execs (dI Γ.w.params i) (E4 Γ.w.params L C)) aa K
theorem fQ {K:AF->Led->Heap->Addr->Addr->Prop} {J:Led->Prop} (h:Ax Γ L C i j ao J) (hu:Wk L ao aa) (h2:∀o,J o->WM FR Γ (execs (dI Γ.w.params j) (E4 Γ.w.params L C)) o K):WM FR Γ (execs (dI Γ.w.params i) (E4 Γ.w.params L C)) aa K:=WM.wk hu (h K h2)
section
theorem Aq {sl:Addr} {ss:List Int} (hS:Std Γ) (hk:60<Γ.k) (hz:ss.length≤63) (hm:tR Γ sl (aH ss)):
 Ax Γ L C 0 5 (cN C.total::cN C.asked::cN C.count::cN C.arcs::(L,ab [nR "script" sl])::aa) fun o=>∃n A rs T R r0 r1,2≤n∧n≤8∧rs.length=n∧Tour n T∧Less ((C.total,h_ (some (.int (ss.take 60).sum)))::cI C.count n::cR C.arcs A::(L,ab [nR "rows" R])::lL r0 (ae (an T n))::lL r1 (ae (an T n))::lL R [.ref r0,.ref r1]::lL A (rs.map AV.ref)::(aZ (aO T) n 0 rs++aa)) o:=by
 intro K k;have hT:=hS.T
 with_reducible_and_instances refine' aF (wJ hT hz hm) ?hu_0 ?_
 case hu_0=>show"use"
 rintro o ⟨rl,hl⟩
 with_reducible_and_instances refine WM.sub hl ?_
 clear hl
 with_reducible_and_instances refine' aF (x_ hT ?z0_1 ?hm_1) ?hu_1 ?_
 case hu_1=>show"use"
 case hm_1=>show"has"
 case z0_1=>rw[EJ];omega
 rintro o ⟨nl,ns,n5,n8,hl⟩
 with_reducible_and_instances refine WM.sub hl ?_
 clear hl
 with_reducible_and_instances refine' aF (ya hT ?z0_2 ?z1_2 ?hm_2) ?hu_2 ?_
 case hu_2=>show"use"
 case hm_2=>show"has"
 case z0_2=>omega
 case z1_2=>omega
 rintro o ⟨A,rl,ll,rs,T,hrs,hTo,hl⟩
 with_reducible_and_instances refine WM.sub hl ?_
 clear hl;generalize ns.length=n at*;have hA:∀{o:Led},lL A (rs.map AV.ref)∈o->SubL (aZ (aO T) n 0 rs) o->Arcs o A n T rs:=fun h1 h2=>Arcs.of3 hrs h1 h2
 with_reducible_and_instances refine' aF (yb (rl:=rl) (ll:=ll) hS ?z0_3 ?z1_3 ?hA_3 hTo) ?hu_3 ?_
 case hu_3=>show"use"
 case hA_3=>exact hA (by show"has") (by show"sub")
 case z0_3=>omega
 case z1_3=>omega
 rintro o ⟨R,r0,r1,hl⟩
 with_reducible_and_instances refine WM.sub hl ?_
 clear hl
 with_reducible_and_instances refine' aF (yg hT ?z0_4 ?hA_4 hTo ?hR_4 ?h0_4 ?h1_4 ?hrl_4 ?hll_4) ?hu_4 ?_
 case hu_4=>show"use"
 case hA_4=>exact hA (by show"has") (by show"sub")
 case hR_4=>show"has"
 case h0_4=>show"has"
 case h1_4=>show"has"
 case hrl_4=>show"has"
 case hll_4=>show"has"
 case z0_4=>omega
 rintro o ⟨x4,y4,hl⟩
 with_reducible_and_instances refine WM.sub hl ?_
 clear hl
 with_reducible_and_instances refine WM.wk (L:=L) ?fu (k _ ⟨n,A,rs,T,R,r0,r1,Ep (by decide) n5,n8,hrs,hTo,.refl⟩)
 case fu=>show"usl"
theorem Ar {tot:Int} {A:Addr} {R:Addr} (hS:Std Γ) (hk:60<Γ.k) (n8:n≤8) (hr:rs.length=n) (hAA:lL A (rs.map AV.ref)∈aa) (hMM:SubL (aZ (aO T) n 0 rs) aa) (hTo:Tour n T):
 Ax Γ L C 5 9 (cI C.total tot::cN C.scores::cN C.ranked::cN C.unit::cN C.one::cI C.count n::cR C.arcs A::(L,ab [nR "rows" R])::aa) fun o=>∃sc ta ra x ts,ts.Perm (aK T n n)∧ts.Pairwise (·≤·)∧Less (cI C.total tot::cR C.scores sc::cR C.ranked ra::cO C.one x::cI C.count n::cR C.arcs A::(L,ab [nR "rows" R,nR "tally" ta])::lL ta (ae ts)::lL sc (ae (aK T n n))::lL ra []::aa) o:=by
 intro K k;have hT:=hS.T;have hA:∀{o:Led},lL A (rs.map AV.ref)∈o->SubL (aZ (aO T) n 0 rs) o->Arcs o A n T rs:=fun h1 h2=>Arcs.of3 hr h1 h2
 with_reducible_and_instances refine' aF (yh) ?hu_5 ?_
 case hu_5=>show"use"
 rintro o ⟨w,hw,hl⟩
 with_reducible_and_instances refine WM.sub hl ?_
 clear hl
 with_reducible_and_instances refine' aF (yk hw) ?hu_6 ?_
 case hu_6=>show"use"
 rintro o ⟨e,he,hl⟩
 with_reducible_and_instances refine WM.sub hl ?_
 clear hl
 with_reducible_and_instances refine' aF (yl) ?hu_7 ?_
 case hu_7=>show"use"
 rintro o ⟨sc,ta,ra,hl⟩
 with_reducible_and_instances refine WM.sub hl ?_
 clear hl
 with_reducible_and_instances refine' aF (yr (ta:=ta) hS hk n8 ?hA_8 hTo hw he rfl) ?hu_8 ?_
 case hu_8=>show"use"
 case hA_8=>exact hA (by show"has") (by show"sub")
 rintro o ⟨y1,y2,y3,y4,y5,y6,y7,ts,hts,htp,hl⟩
 with_reducible_and_instances refine WM.sub hl ?_
 clear hl
 with_reducible_and_instances refine WM.wk (L:=L) ?fu (k _ ⟨sc,ta,ra,y1,ts,hts,htp,.refl⟩)
 case fu=>show"usl"
theorem As {A:Addr} {R sc ta ra:Addr} {x:Option AV} (hS:Std Γ) (hk:60<Γ.k) (n8:n≤8) (n2:2≤n) (hr:rs.length=n) (hAA:lL A (rs.map AV.ref)∈aa) (hMM:SubL (aZ (aO T) n 0 rs) aa) (hTo:Tour n T) (hsc:lL sc (ae (aK T n n))∈aa):
 Ax Γ L C 9 17 (cR C.scores sc::cR C.ranked ra::cN C.over::cO C.one x::cI C.count n::cR C.arcs A::(L,ab [nR "rows" R,nR "tally" ta])::lL ra []::aa) fun o=>∃x rk,rk.Perm (Et n)∧rk.Pairwise (cg (score T n))∧Less (cR C.scores sc::cR C.ranked ra::cO C.one x::cI C.count n::cR C.arcs A::(L,ab [nR "rows" R,nR "tally" ta])::lL ra (ae rk)::aa) o:=by
 intro K k;have hT:=hS.T;have hA:∀{o:Led},lL A (rs.map AV.ref)∈o->SubL (aZ (aO T) n 0 rs) o->Arcs o A n T rs:=fun h1 h2=>Arcs.of3 hr h1 h2
 with_reducible_and_instances refine' aF (yw hS hk n8 ?hsc_9) ?hu_9 ?_
 case hu_9=>show"use"
 case hsc_9=>show"has"
 rintro o ⟨y8,rk,hrk,hpw,hl⟩
 with_reducible_and_instances refine WM.sub hl ?_
 clear hl
 with_reducible_and_instances refine' aF (uZ hT n8 hTo hrk ?hsc_10 ?hra_10) ?hu_10 ?_
 case hu_10=>show"use"
 case hsc_10=>show"has"
 case hra_10=>show"has"
 rintro o ⟨ol,hl⟩
 with_reducible_and_instances refine WM.sub hl ?_
 clear hl
 with_reducible_and_instances refine' aF (u7 hT n8 ?hA_11 hTo hrk ?hra_11) ?hu_11 ?_
 case hu_11=>show"use"
 case hA_11=>exact hA (by show"has") (by show"sub")
 case hra_11=>show"has"
 rintro o ⟨cl,hl⟩
 with_reducible_and_instances refine WM.sub hl ?_
 clear hl
 with_reducible_and_instances refine' aF (u8 hT n8 ?z0_12 ?hol_12 ?hcl_12) ?hu_12 ?_
 case hu_12=>show"use"
 case hol_12=>show"has"
 case hcl_12=>show"has"
 case z0_12=>omega
 rintro o hl
 with_reducible_and_instances refine WM.sub hl ?_
 clear hl
 with_reducible_and_instances refine' aF (u9) ?hu_13 ?_
 case hu_13=>show"use"
 rintro o ⟨ri,hl⟩
 with_reducible_and_instances refine WM.sub hl ?_
 clear hl
 with_reducible_and_instances refine' aF (u_ hT n8 ?hA_14) ?hu_14 ?_
 case hu_14=>show"use"
 case hA_14=>exact hA (by show"has") (by show"sub")
 rintro o ⟨y9,hl⟩
 with_reducible_and_instances refine WM.sub hl ?_
 clear hl
 with_reducible_and_instances refine' aF (vd hT n8 ?z0_15 hTo ?hsc_15 ?hri_15) ?hu_15 ?_
 case hu_15=>show"use"
 case hsc_15=>show"has"
 case hri_15=>show"has"
 case z0_15=>omega
 rintro o hl
 with_reducible_and_instances refine WM.sub hl ?_
 clear hl
 with_reducible_and_instances refine' aF (wf hS hk n8 hTo hrk hpw ?hcl_16 ?hra_16 ?hri_16) ?hu_16 ?_
 case hu_16=>show"use"
 case hcl_16=>show"has"
 case hra_16=>show"has"
 case hri_16=>show"has"
 rintro o ⟨z1,z2,z3,z4,hl⟩
 with_reducible_and_instances refine WM.sub hl ?_
 clear hl
 with_reducible_and_instances refine WM.wk (L:=L) ?fu (k _ ⟨z2,rk,hrk,hpw,.refl⟩)
 case fu=>show"usl"
theorem At {A:Addr} {rk:List Nat} {R ta ra:Addr} (hS:Std Γ) (hk:60<Γ.k) (n8:n≤8) (hr:rs.length=n) (hAA:lL A (rs.map AV.ref)∈aa) (hMM:SubL (aZ (aO T) n 0 rs) aa) (hra:lL ra (ae rk)∈aa) (hrl:rk.length=n) (hx:rk[rk.length-1]? =some top) (ht:top<n):
 Ax Γ L C 17 23 (cN C.top::cR C.ranked ra::cN C.pieces::cN C.below::cI C.count n::cR C.arcs A::(L,ab [nR "rows" R,nR "tally" ta])::aa) fun o=>∃pd gd gr gs du rows2 pl Rt chs,gs.map (·.2)=az T top n∧gs.length≤8∧rows2.map Rw.sp=dM T n top (az T top n)∧TreeOk T n top Rt chs∧Less (cI C.top (top:Nat)::cR C.ranked ra::cR C.pieces pl::cI C.count n::(L,ab [nR "plain" pd,nR "given" gd,nR "root" Rt.f,nR "groups" gr,nR "due" du,nR "rows" R,nR "tally" ta])::lL pl []::(pd,bj Γ.w pd [])::(gd,bj Γ.w gd [("tail",.str "?")])::lL gr (gs.map fun q=>AV.ref q.1)::lL du (aC rows2)::(cG T n top gs++(bw Γ.w rows2++(aA Γ.w Rt chs []++aa)))) o:=by
 intro K k;have hT:=hS.T;have hA:∀{o:Led},lL A (rs.map AV.ref)∈o->SubL (aZ (aO T) n 0 rs) o->Arcs o A n T rs:=fun h1 h2=>Arcs.of3 hr h1 h2
 with_reducible_and_instances refine' aF (vJ hT ?hra_17 ?z0_17 hx) ?hu_17 ?_
 case hu_17=>show"use"
 case hra_17=>show"has"
 case z0_17=>omega
 rintro o ⟨pd,gd,hl⟩
 with_reducible_and_instances refine WM.sub hl ?_
 clear hl
 with_reducible_and_instances refine' aF (vK hT n8 ?hA_18 ht) ?hu_18 ?_
 case hu_18=>show"use"
 case hA_18=>exact hA (by show"has") (by show"sub")
 rintro o ⟨bl,hl⟩
 with_reducible_and_instances refine WM.sub hl ?_
 clear hl
 with_reducible_and_instances apply aF (vL hT n8 ?hA_19 ht ?hbl_19) ?hu_19
 case hu_19=>show"use"
 case hA_19=>exact hA (by show"has") (by show"sub")
 case hbl_19=>show"has"
 rintro o ⟨gr,gs,hgs,hl⟩
 with_reducible_and_instances refine WM.sub hl ?_
 clear hl;have hgl:gs.length≤8:=by have:=congrArg Fb hgs;rw[En]at this;rw[this];exact Ep bJ n8
 have hgn:∀q∈gs,q.2<n:=fun q hq=>iC (hgs▸EE (f:=fun q:Addr×Nat=>q.2) hq)
 with_reducible_and_instances apply aF (vM hT ?z0_20) ?hu_20
 case hu_20=>show"use"
 case z0_20=>omega
 rintro o ⟨du,rows,hrows,hl⟩
 with_reducible_and_instances refine WM.sub hl ?_
 clear hl
 with_reducible_and_instances refine' aF (vN hT n8 ?hgr_21 ?hgs_21 hgn hgl hrows) ?hu_21 ?_
 case hu_21=>show"use"
 case hgr_21=>show"has"
 case hgs_21=>exact tP (by show"sub")
 rintro o ⟨y10,rows2,hrows2,hl⟩
 with_reducible_and_instances refine WM.sub hl ?_
 clear hl;rw[hgs]at hrows2
 with_reducible_and_instances refine' aF (vO hS ?z0_22 n8 ?hA_22 ht ?hpd_22 ?hgd_22) ?hu_22 ?_
 case hu_22=>show"use"
 case hA_22=>exact hA (by show"has") (by show"sub")
 case hpd_22=>show"has"
 case hgd_22=>show"has"
 case z0_22=>omega
 rintro o ⟨pl,Rt,chs,htree,hl⟩;rw[tO]at hl
 with_reducible_and_instances refine WM.sub hl ?_
 clear hl
 with_reducible_and_instances refine WM.wk (L:=L) ?fu (k _ ⟨pd,gd,gr,gs,du,rows2,pl,Rt,chs,hgs,hgl,hrows2,htree,.refl⟩)
 case fu=>show"usl"
theorem Au {rows2:List Rw} {Rt:El} {R ta pd gd gr du pl:Addr} {x:Option AV} (hS:Std Γ) (hk:60<Γ.k) (n8:n≤8) (hr2l:rows2.length=n) (hdl:(dM T n top (az T top n)).length =n) (hgs:gs.map (·.2)=az T top n) (hgl:gs.length≤8) (hrows2:rows2.map Rw.sp=dM T n top (az T top n)) (htree:TreeOk T n top Rt chs) (h1:(pd,bj Γ.w pd [])∈aa) (h2:(gd,bj Γ.w gd [("tail",.str "?")])∈aa) (h3:lL gr (gs.map fun q=>AV.ref q.1)∈aa) (h4:lL du (aC rows2)∈aa) (h5:SubL (cG T n top gs) aa) (h6:SubL (bw Γ.w rows2) aa) (h7:SubL (aA Γ.w Rt chs []) aa):
 Ax Γ L C 23 29 (cR C.pieces pl::cO C.one x::cI C.count n::(L,ab [nR "plain" pd,nR "given" gd,nR "root" Rt.f,nR "groups" gr,nR "due" du,nR "rows" R,nR "tally" ta])::lL pl []::aa) fun o=>∃x,Less (cO C.one x::cI C.count n::(L,ab [nR "rows" R,nR "tally" ta])::aa) o:=by
 intro K k;have hT:=hS.T;have hI:∀{o:Led},SubL (aA Γ.w Rt chs []) o->TreeIn Γ.w T n top Rt chs o:=fun h=>(TreeIn.of htree).up h
 with_reducible_and_instances apply aF (vP (TreeIn.of htree) ?hsb_23) ?hu_23
 case hu_23=>show"use"
 case hsb_23=>show"sub"
 rintro o ⟨to,rws,hrws,hrd,hl⟩
 with_reducible_and_instances refine WM.sub hl ?_
 clear hl
 with_reducible_and_instances refine' aF (vQ (TreeIn.of htree) ?hsb_24 n8 hrws hrd) ?hu_24 ?_
 case hu_24=>show"use"
 case hsb_24=>show"sub"
 rintro o ⟨y11,rws2,hrws2,hrd2,hl⟩
 with_reducible_and_instances refine WM.sub hl ?_
 clear hl
 with_reducible_and_instances refine' aF (vR hS ?z0_25 ?hI_25 n8) ?hu_25 ?_
 case hu_25=>show"use"
 case hI_25=>exact hI (by show"sub")
 case z0_25=>omega
 rintro o ⟨y12,hl⟩
 with_reducible_and_instances refine WM.sub hl ?_
 clear hl
 with_reducible_and_instances refine' aF (vT ?hdu_26 ?hrw_26 ?z0_26) ?hu_26 ?_
 case hu_26=>show"use"
 case hdu_26=>show"has"
 case hrw_26=>exact fun r hr=>(pF (rows:=rows2) (by show"sub") r hr).1
 case z0_26=>omega
 rintro o ⟨tg,hl⟩;rw[nk hrows2]at hl
 with_reducible_and_instances refine WM.sub hl ?_
 clear hl
 with_reducible_and_instances refine' aF (vU n8 ?hgr_27 ?hgs_27 hgl) ?hu_27 ?_
 case hu_27=>show"use"
 case hgr_27=>show"has"
 case hgs_27=>exact tP (by show"sub")
 rintro o ⟨en,hl⟩;rw[hgs]at hl
 with_reducible_and_instances refine WM.sub hl ?_
 clear hl
 with_reducible_and_instances refine' aF (vV (ts:=j4 T n top) (es:=j5 T n top) hT n8 hdl hrows2 hrws2 oF ?hdu_28 ?t1_28 ?hto_28 ?t2_28 ?htg_28 ?hen_28 ?hpl_28 ?z0_28 (tQ n8) ?hpd_28 ?hgd_28) ?hu_28 ?_
 case hu_28=>show"use"
 case hdu_28=>show"has"
 case t1_28=>exact pF (by show"sub")
 case hto_28=>show"has"
 case t2_28=>exact fun r hr=>⟨wH (by show"sub") r hr,(show SubL (aA Γ.w Rt chs []) _ by show"sub") _ (hrd2 r hr)⟩
 case htg_28=>show"has"
 case hen_28=>show"has"
 case hpl_28=>show"has"
 case hpd_28=>show"has"
 case hgd_28=>show"has"
 case z0_28=>rw[←nk hrows2,En];omega
 rintro o hl
 with_reducible_and_instances refine WM.sub hl ?_
 clear hl
 with_reducible_and_instances refine WM.wk (L:=L) ?fu (k _ ⟨y11,.refl⟩)
 case fu=>show"usl"
theorem Av {rk ts:List Nat} {tot:Int} {R ra sc ta r0 r1:Addr} {x:Option AV} (hS:Std Γ) (hfl:Γ.fl=true) (hpa:∀x,Γ.pa x->x=some [(E4 Γ.w.params L C)]) (hk:60<Γ.k) (n8:n≤8) (n2:2≤n) (ht:top<n) (hrk:rk.Perm (Et n)) (hpw:rk.Pairwise (cg (score T n))) (hts:ts.Perm (aK T n n)) (htp:ts.Pairwise (·≤·)) (g1:lL R [.ref r0,.ref r1]∈aa) (g2:lL r0 (ae (an T n))∈aa) (g3:lL r1 (ae (an T n))∈aa) (g4:lL ra (ae rk)∈aa) (g5:lL ta (ae ts)∈aa) (g6:lL sc (ae (aK T n n))∈aa):
 WM FR Γ (execs (dI Γ.w.params 29) (E4 Γ.w.params L C)) (cI C.total tot::cI C.top (top:Nat)::cR C.scores sc::cR C.ranked ra::cN C.back::cO C.one x::cI C.count n::(L,ab [nR "rows" R,nR "tally" ta])::aa) fun f _ _ _ _=>f= .ret (.bool true):=by
 have hT:=hS.T
 with_reducible_and_instances refine' aF (v7) ?hu_29 ?_
 case hu_29=>show"use"
 rintro o ⟨ba,hl⟩
 with_reducible_and_instances refine WM.sub hl ?_
 clear hl
 with_reducible_and_instances refine' aF (v8 hS hk n8 ?hsc_30) ?hu_30 ?_
 case hu_30=>show"use"
 case hsc_30=>show"has"
 rintro o ⟨y13,bk,hbk,hbpw,hl⟩
 with_reducible_and_instances refine WM.sub hl ?_
 clear hl
 with_reducible_and_instances refine' tS (wC hS hfl) ?hu_31 ?_
 case hu_31=>show"use"
 rintro o h c P ⟨de,fA,fB,fC,pmA,cA,ctvA,pmB,ctvB,pmC,cC,ctvC,hS2,hl⟩
 with_reducible_and_instances refine W.sub hl ?_
 clear hl;have hT2:=hS2.T
 with_reducible_and_instances refine' pG (wD (Γ:=Γ.mv h c P) hS2 (.head _) rfl hpa hk n8 ht ?hde_32 ?hfC_32 ?hfB_32 ?hfA_32 ?hsc_32) ?hu_32 ?_
 case hu_32=>show"use"
 case hde_32=>show"has"
 case hfC_32=>show"has"
 case hfB_32=>show"has"
 case hfA_32=>show"has"
 case hsc_32=>show"has"
 rintro o hl
 with_reducible_and_instances refine W.sub hl ?_
 clear hl
 with_reducible_and_instances refine' pG (wh (Γ:=Γ.mv h c P) hT2 n8 ?z0_33 ?hsc_33) ?hu_33 ?_
 case hu_33=>show"use"
 case hsc_33=>show"has"
 case z0_33=>omega
 rintro o ⟨du2,dl,hdp,hdpw,hl⟩
 with_reducible_and_instances refine W.sub hl ?_
 clear hl;have e1:rk=bk:=kX mT (hrk.trans hbk.symm) hpw hbpw;have e2:rk=dl:=kX mT (hrk.trans hdp.symm) hpw hdpw;subst e1;subst e2;rw[wI];apply B4 (wi (Γ:=Γ.mv h c P) (rw:=an T n) (rk:=rk) (tl:=ts) (sl:=aK T n n) ?a1 ?a2 ?a3 ?a4 ?a5 ?a6 ?a7 ?a8 hT2 (by rw[b9];exact n8) hts htp) ?hu_34 (fun e=>nomatch e)
 case hu_34=>show"use"
 case a1=>show"has"
 case a2=>show"has"
 case a3=>show"has"
 case a4=>show"has"
 case a5=>show"has"
 case a6=>show"has"
 case a7=>show"has"
 case a8=>show"has"
 intro _;rfl
theorem wK {sl:Addr} {ss:List Int} (hS:Std Γ) (hfl:Γ.fl=true) (hpa:∀x,Γ.pa x->x=some [(E4 Γ.w.params L C)]) (hk:60<Γ.k) (hz:ss.length≤63) (hm:tR Γ sl (aH ss)):
 WM FR Γ (execs (ay Γ.w.params 144) (E4 Γ.w.params L C)) (cN C.total::cN C.top::cN C.scores::cN C.ranked::cN C.pieces::cN C.back::cN C.below::cN C.over::cN C.unit::cN C.one::cN C.asked::cN C.count::cN C.arcs::(L,ab [nR "script" sl])::aa) fun f _ _ _ _=>f= .ret (.bool true):=by
 have hT:=hS.T;refine(?_:WM FR Γ (execs (dI Γ.w.params 0) _) _ _)
 with_reducible_and_instances apply fQ (Aq hS hk hz hm) ?uA
 case uA=>show"use"
 rintro o ⟨n,A,rs,T,R,r0,r1,n2,n8,hr,hTo,hl⟩
 with_reducible_and_instances refine WM.sub hl ?_
 clear hl
 with_reducible_and_instances apply fQ (Ar hS hk n8 hr ?b1 ?b2 hTo) ?uB
 case uB=>show"use"
 case b1=>show"has"
 case b2=>show"sub"
 rintro o ⟨sc,ta,ra,x,ts,hts,htp,hl⟩
 with_reducible_and_instances refine WM.sub hl ?_
 clear hl
 with_reducible_and_instances apply fQ (As hS hk n8 n2 hr ?c1 ?c2 hTo ?c3) ?uC
 case uC=>show"use"
 case c1=>show"has"
 case c2=>show"sub"
 case c3=>show"has"
 rintro o ⟨x,rk,hrk,hpw,hl⟩
 with_reducible_and_instances refine WM.sub hl ?_
 clear hl;have hrl:rk.length=n:=by rw[hrk.length_eq,EN]
 obtain⟨top,hx⟩:∃x,rk[rk.length-1]? =some x:=⟨_,Ex (by omega)⟩;have ht:top<n:=EM.mp (hrk.mem_iff.mp (EF hx))
 with_reducible_and_instances apply fQ (At hS hk n8 hr ?d1 ?d2 ?d3 hrl hx ht) ?uD
 case uD=>show"use"
 case d1=>show"has"
 case d2=>show"sub"
 case d3=>show"has"
 rintro o ⟨pd,gd,gr,gs,du,rows2,pl,Rt,chs,hgs,hgl,hrows2,htree,hl⟩
 with_reducible_and_instances refine WM.sub hl ?_
 clear hl;have hdl:=wE hTo hrk hpw hx;have hr2l:rows2.length=n:=by have e:=congrArg Fb hrows2;rw[En]at e;rw[e];exact hdl
 with_reducible_and_instances apply fQ (Au hS hk n8 hr2l hdl hgs hgl hrows2 htree ?e1 ?e2 ?e3 ?e4 ?e5 ?e6 ?e7) ?uE
 case uE=>show"use"
 case e1=>show"has"
 case e2=>show"has"
 case e3=>show"has"
 case e4=>show"has"
 case e5=>show"sub"
 case e6=>show"sub"
 case e7=>show"sub"
 rintro o ⟨x,hl⟩
 with_reducible_and_instances refine WM.sub hl ?_
 clear hl
 with_reducible_and_instances apply WM.wk (L:=L) ?uF (Av (ra:=ra) (rk:=rk) (ts:=ts) hS hfl hpa hk n8 n2 ht hrk hpw hts htp ?f1 ?f2 ?f3 ?f4 ?f5 ?f6)
 case uF=>show"use"
 case f1=>show"has"
 case f2=>show"has"
 case f3=>show"has"
 case f4=>show"has"
 case f5=>show"has"
 case f6=>show"has"
end
end
section
noncomputable abbrev tabs9:List (Addr×Addr):=[(114,110),(126,122),(77,73),(70,66),(143,141)]
noncomputable abbrev tT (w:World) (s:Shared) (mg mb:Str->Option Value) (mean:ExcName->Option Value):Cx:={w:=w,h0:=ghostOf s.heap tabs9,os:=s.os,k:=200,tabs:=fX,mg:=mg,mb:=mb,mean:=mean,fl:=true,pa:=fun f=>f=some []}
theorem iJ {t:Addr×Addr×Str} (ht:t∈fX):(t.1,t.2.1)∈tabs9:=by
 unfold fX at ht;simp only[EG,IX,or_false]at ht;rcases ht with rfl|rfl|rfl|rfl|rfl<;>decide
theorem B5 {tabs:List (Addr×Addr)}:CodeAll tabs h->∀q∈tabs,CodeHd h q.1 q.2:=by
 induction tabs with
 |nil=>exact fun _ _ h=>nomatch h
 |cons p r ih=>exact fun k q hq=>(EG.mp hq).elim (fun e=>e▸k.1) (ih k.2 q)
theorem kj (hR:R Γ aa s) {t:Addr×Addr×Str} (ht:t∈Γ.tabs):GrownAt t.2.1 s.heap:=let⟨_,ps,e,_⟩:=(hR.tb t ht).2;⟨ps,e⟩
section
variable {s₁:Shared} {mg mb:Str->Option Value} {mean:ExcName->Option Value} {p:Program} {loose:List Str}
theorem Dd (T:Top p loose mean mg mb s₁.heap) (KX:(hd.heap_1 w.params).In s₁.heap) (hT9:TabsAt tabs9 s₁.heap):Std (tT w s₁ mg mb mean) where
 T:=⟨⟨_,_,ghost_top hT9 T⟩,ghost_K hT9 KX (by kernel_rfl),fun t ht=>B5 (ghost_code hT9) (t.1,t.2.1) (iJ ht)⟩
 mem:=fun _ h=>h
 nd:=by show([110,122,73,66,141]:List Nat).Nodup;decide
theorem r0 (hT9:TabsAt tabs9 s₁.heap) (hg:s₁.gens= #[]):R (tT w s₁ mg mb mean) [] s₁ where
 keep:=fun b o e=>of_hideAll _ e
 ow:=fun _ h=>nomatch h
 nd:=GO
 ap:=fun _ h=>nomatch h
 gens:=hg
 os:=rfl
 tb:=fun t ht=>⟨hideAll_none _ (EE (f:=(·.2)) (iJ ht)),(fun h=>nomatch h),#[],(hT9 _ (iJ ht)).2,trivial,fun _ _ e=>nomatch e⟩
 fn:=fun _ h=>nomatch h
theorem Em:gJ (tT w s₁ mg mb mean) callerA:=⟨rfl,by show 1+300+200<700;decide,by show 4+16*200<5000;decide,rfl⟩
theorem qR {vs:List Value} {ns:List Int} (h:IntsAre vs ns):VRs (aH ns) vs:=by
 induction h with
 |nil=>exact .nil
 |cons n t _ ih=>exact .cons (.int n t) ih
theorem law_top (T:Top p loose mean mg mb s₁.heap) (KX:(hd.heap_1 w.params).In s₁.heap) (hT9:TabsAt tabs9 s₁.heap) (hg:s₁.gens= #[]) {sl:Addr} {vs:List Value} {ns:List Int} (hL:s₁.heap.IsList sl vs.toArray) (hI:IntsAre vs ns) (hz:ns.length≤63):
 wpAny (model PR w) callerA (call (.ref 144) [.ref sl]) (fun v s'=>v= .bool true∧(∀b o,(ghostOf s₁.heap tabs9).get? b=some o->s'.heap.get? b=some o)∧GrownAll tabs9 s'.heap∧s'.gens= #[]∧s'.os=s₁.os) (fun _ _=>False) s₁:=by
 have hS:Std (tT w s₁ mg mb mean):=Dd T KX hT9;have hT:=hS.T;have hR:R (tT w s₁ mg mb mean) [] s₁:=r0 hT9 hg;have hA:gJ (tT w s₁ mg mb mean) callerA:=Em
 have hm:∀(Γ:Cx),Γ.h0=(tT w s₁ mg mb mean).h0 ->tR Γ sl (aH ns):=fun Γ e aa s hR'=>by
  obtain⟨o,ho,hc⟩:=ghost_list hT9 hL;exact⟨vs.toArray,⟨o,hR'.keep _ _ (by rw[e];exact ho),hc⟩,qR hI⟩
 obtain⟨⟨o,ho,hd⟩,hcd⟩:=(AT _).hf hT s₁ hR;refine wpAny_call (codeAny_call_function hA.room ho hd (by kernel_rfl) (by kernel_rfl) (uL _) hcd ?_);refine wpAny_mono (Bt (Γ:=(tT w s₁ mg mb mean).dn) (a_script:= .ref sl) (K:=fun abs o1=>abs=[(("script":Str),AV.ref sl)]∧o1=[]) hT.dn ⟨rfl,rfl⟩ [.ref sl] [] (.cons (.ref sl) .nil) .nil callerA.in1 s₁ (hA.in1 (show 0<200 by decide)) hR.dn) ?_ fun _ _ x=>x.elim;rintro binds s1 ⟨abs,o1,hbs,hR1,rfl,rfl⟩;refine wpAny_mono (eG (Γ:=(tT w s₁ mg mb mean).dn) (K:=fun env o1=>WM FR ((tT w s₁ mg mb mean).fr [env]) (execs (ay w.params 144) env) o1 fun f _ _ _ _=>f= .ret (.bool true)) hbs Br Bs (fun L cs hcs=> ?_) callerA.in1 s1 (hA.in1 (show 0<200 by decide)) hR1) ?_ fun _ _ x=>x.elim
 ·have hcs0:cs.map (·.1)=[("total":Str),("top":Str),("scores":Str),("ranked":Str),("pieces":Str),("back":Str),("below":Str),("over":Str),("unit":Str),("one":Str),("asked":Str),("count":Str),("arcs":Str)]:=hcs.trans (by kernel_rfl)
  obtain⟨C,rfl⟩:=uM hcs0;clear hcs hcs0;show WBinds _ (E4 w.params L C) _ (cN C.total::cN C.top::cN C.scores::cN C.ranked::cN C.pieces::cN C.back::cN C.below::cN C.over::cN C.unit::cN C.one::cN C.asked::cN C.count::cN C.arcs::(L,ab _)::[]) _;refine st_local (ka144.at 0 (by kernel_rfl)) lf4 (by show"upd") (by show"put") ?_;refine WM.wk (L:=L) ?u (wK (Γ:=(tT w s₁ mg mb mean).fr [(E4 w.params L C)]) (aa:=[]) (sl:=sl) (ss:=ns) ⟨⟨hT.T,hT.X,hT.C⟩,hS.mem,hS.nd⟩ rfl (fun _ e=>e) (show 60<199 by decide) hz (hm _ rfl))
  case u=>
   apply Wk.mk (L:=L) (loc':=[nR "script" sl])
   ·repeat (first|with_reducible exact pk_head|apply pk_tail)
   ·apply List.Perm.symm
    repeat (first|with_reducible exact pk_head|apply pk_tail)
   ·intro x a hm
    rw[ED.mp hm];exact .head _
   ·kernel_rfl
 ·rintro env s2 ⟨env',o1,rfl,hR2,h2⟩
  refine⟨hT.nolimit hR2.up,codeAny_func (wpAny_mono (h2 _ s2 (hA.fr (show 0<200 by decide) fun _ e=>e) hR2.fr) ?_ (fun _ _ x=>x.elim))⟩;rintro fl s3 ⟨fl',o2,hh,c,P,hfl,hU,hR3,rfl⟩;cases hfl with
  |ret hv=>
   cases hv;refine⟨rfl,fun b o e=>hR3.keep b o (hU b o e),?_,hR3.gens,hR3.os⟩;exact⟨kj hR3 (t:=(114,110,"_law_element.<locals>.<lambda>")) (.tail _ (by show"mem")),kj hR3 (t:=(126,122,"_law_rows.<locals>.<lambda>")) (.tail _ (by show"mem")),kj hR3 (t:=(77,73,"_digits2int.<locals>.inner")) (.tail _ (by show"mem")),kj hR3 (t:=(70,66,"_int2digits.<locals>.inner")) (.tail _ (by show"mem")),kj hR3 (t:=(143,141,"law.<locals>.<lambda>")) (.tail _ (by show"mem")),trivial⟩
end
end
theorem oldk {tabs:List (Addr×Addr)} {h₁:Heap} (hT:TabsAt tabs h₁) (hk:∀b o,(ghostOf h₁ tabs).get? b=some o->h'.get? b=some o) (hgr:GrownAll tabs h'):OldK h₁ h':=by
 have two:∀b o,h₁.get? b=some o->h'.get? b=some o∨(isCodeTable h₁ b∧o=tabObj #[]∧∃ps,h'.get? b=some (tabObj ps)):=fun b o e=>by
  by_cases hb:b∈tabs.map (·.2)
  ·obtain⟨q,hq,rfl⟩:=EP.mp hb
   obtain⟨hc,e2⟩:=hT q hq;rw[e]at e2;exact .inr ⟨(hc.tab (hT q hq).2).isCodeTable,Option.some.inj e2,hgr.get q hq⟩
  ·exact .inl (hk b o (ghost_ne e hb))
 refine⟨fun b o e=> ?_,fun b o e=> ?_⟩<;>rcases two b o e with x|⟨x,rfl,ps,y⟩
 ·exact .inl x
 ·exact .inr (.inl ⟨x,rfl,#[],ps,rfl,by rw[Array.empty_append];exact y⟩)
 ·exact⟨o,x⟩
 ·exact⟨_,y⟩
end
end Mine.Internal
theorem PySem.Challenge.cw_ta0042_01_holds : PySem.Challenge.rw_ta0042_01.Holds :=
 Mine.Internal.hd (by
 k_fill
 intro w s₀ s₁ mg mb G Y fa o pm cd doc dV kV ho hd hcd hD hmg hg args vals as hpre hlay hrd hwl hlo;have KX:=km_in_of Y
 km_tabs Y
 have hfa:=hmg;refine Ground.open G ?_;intro T B D TE TW
 try (refine guard_noD D (by decide+kernel) ?_;clear D)
 km_lay T hmg ho hd cd
 clear hmg
 wrow_args hpre hlay hrd hwl hlo
 rename_i ns _ _ _ _ _ _ _ sl vs _ hL _ _ _ hI _ hz _
 have e144:fa=144:=by
  have e:=mg_of (n:="law") (v:= .ref 144) KX T.g (by kernel_rfl);rw[show mg "law"=_ from hfa]at e;cases e;rfl
 subst e144;refine wpAny_mono (Mine.Internal.law_top T KX hT9 hg hL hI (by omega)) ?_ fun _ _ x=>x.elim;rintro v s' ⟨rfl,hk,hgr,hg',hos⟩;exact⟨.inl ⟨.bool true,.bool true,[],rfl,fun _=>rfl,.bool _,by kernel_rfl,fun _=>⟨GO,fun _ h=>nomatch h⟩⟩,Mine.Internal.oldk hT9 hk hgr,hos,.of_eq hg'⟩)
