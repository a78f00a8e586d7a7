import PyProof.Rows.All
import Wide.All
import OpenK.AllK
import Wide.FinOn
import OpenK.KMore
import KE.KTypeName
import KE.KStopIter
import PyProof.ListNew
import Lean
import PySem.Challenge.RW_op0290_01
open PySem renaming wpAny → J6, wpAny_bind → J7, World → J9, wpAny_pure → Kb, Value → Kd, sizeLine → Kg, Addr → Kj, Shared → Kl, NameKind → Ko, wpAny_mono → Kr, model → Kx, codeAny → Ky, Stmt → Kz, FuncData → KN, eval → KP, wpAny_holding → KQ, wpAny_standAt → KT, codeAny_of_tree → KV, bindArgs → K2, holding → K3, sizeLine_eq → K4, Params → K5, cellsFrom → K7, standAt → K8, mainGlobals → K9, theTreesLotGoes → Le, Around → Lj, wpAny_call → Ll, wpAny_noted → Lp, execs → Lq, builtinLookup_eq_fast → Ls, noteFrame → Ly, wpAny_load → LA, valueOrNone → LF, builtinsNs → LL, pushCells → LM, wpAny_execs_cons → LN, foldedSetIterable → LP, typeLookup → LS, swappedStores → LY, wpAny_newObj_type → L7, compTurn → L9, typeLookup_type → Ma, assignEach → Mb, DictEntry → Me, codeAny_builtin → Mh, wpAny_newFunctionEnv_cells → Mi, swapsWithSole → Mj, wpAny_Name → Mk, isSubtype_type → Mn, Result → Mo, wpAny_loadName_local → Mq, evalOpt → Mr, wpAny_seqItems → Mu, Keyword → Mv, whileTurn → MA, wpAny_allTrue_Or_cons → MD, codeAny_call_function → ME, Operator → MF, keywordEach → MH, behindInMarks → MT, wpAny_Constant_str → MU, slicePick → MX, wpAny_call_entry → M6, entryFor_of_tree → M7, wpAny_of_eq → Nb, wpAny_updateSeq → Ni, wpAny_getItem_list_slice → Nk, backToKw → Nl, forTurn → No, Program → Np, wpAny_callSpecial?_slot → Nt, wpAny_truthy_bool → Nw, wpAny_Return_some → Ny, wpAny_Assign_Name → Nz, getMethod_builtin → NA, wpAny_onRaise → NC, Comprehension → NE, wpAny_isTrue_Compare1 → NI, Arguments → NJ, importedModules → NR, codeAny_func → NS
open PySem.Str renaming ofString → J8
open List renaming mem_cons → Ka, getElem?_eq_getElem → Kc, getElem?_append_right → Ke, not_mem_nil → Kf, getD_eq_getElem?_getD → Kh, getElem?_append_left → Kn, mem_of_getElem? → Kq, mem_append_right → Kt, getElem?_eq_none → Kv, mem_singleton → Kw, map → KB, length_append → KC, mem_append_left → KD, append_assoc → KG, mem_filter → KI, mem_cons_of_mem → KO, length_map → KU, nodup_cons → KW, getElem?_map → KX, nodup_nil → KY, append_nil → KZ, range → K0, lookup_cons → K1, map_cons → K6, length_cons → Li, getElem_mem → Lk, filter_sublist → Lz, length_filter_le → LC, contains_iff_mem → LD, map_append → LK, nodup_append → LQ, map_map → LU, mem_cons_self → LV, pairwise_append → LX, replicate → L5, length_set → Mg, filter_cons → Ml, length_singleton → Mm, length_nil → Mp, pairwise_singleton → Ms, filter_append → Mw, isEmpty_iff → MO, getElem?_range → MP, getElem?_set_self → MY, length_range → M0, take_length → M4, getElem?_set_ne → M5, length_take → M9, nil_append → Ng, rel_of_pairwise_cons → Nh, getElem?_cons_succ → Nr, size_toArray → Nu, filter_congr → Nv, take_append_drop → NH, map_congr_left → NV
open PySem.Heap renaming get?_push_of_some → Ki, get?_push_size → Ku, lt_size → KJ, SameBut → Lb, get?_update_self → Lr, get?_update_other → LZ, size_push → L6, get?_none_of_le → NO
open Bool renaming and_eq_true → Kk, false_eq_true → LJ, eq_iff_iff → NN
open Nat renaming le_refl → Km, lt_irrefl → KM, ble → KS, le_of_ble_eq_true → La, sub_self → Lg, le_trans → Lh, le_of_succ_le → Lo, le_of_not_lt → Lv, beq → Lw, blt_eq → Lx, eq_of_beq_eq_true → MC, le_of_eq → MM, le_succ → MZ, ne_of_lt → M1, lt_of_lt_of_le → Nj
open PySem.NameKind renaming free → Ks, cell → LH, globalImplicit → Nq
open Array renaming length_toList → KH, getElem?_toList → Lm, getElem?_eq_getElem → MG, any_toList → NG, size_push → NK, toList_append → NU
open PySem.Heap.SameBut renaming update → Lc
open PySem.Builtin.Range renaming rangeSize → Ln, small → Mt
open Option.some renaming inj → Lu
open PyProof.Rows renaming tail_any → LB, Subscript_ → MQ, lookup_of_mem_nodup → Nf, loadName_read → ND, cellsFrom_names → NT
open PySem.W renaming findIn → LG, emptyDict → LW, looks_findIn → Mz, instObj → ML, specialIn → MW, looks_nsIn → M8, typeIn → Na
open PySem.F renaming type_list_append → Mc, slot_list_append → Md, plain_extend_loop → Nd, slot_dict_get → NP
open PySem.Obj renaming mapFields → Mf, mapSeq → Nn
open PySem.Code renaming quiet_builtin → Mx, builtin → NM
open PySem.Txt renaming contains → My, join → MN, slice → MV, replace → NX, isupper → NY
open LawfulBEq renaming eq_of_beq → MB
open PySem.Builtin renaming bitXor → MI
open PySem.PyData renaming keyHash → MJ
open Ne renaming symm → MK
open Prod.mk renaming injEq → MS
open PySem.Builtin.List renaming listExtendWith → M2
open PySem.Around renaming under_plainId → M3
open Int renaming toNat_of_nonneg → Nc
open PySem.Value renaming type → Nm, bool → NL
open PySem.W.Looks renaming of_peek → NB
open Option renaming getD_none → NF
open PySem.Calls renaming spliced_cons → NQ
open PySem.Challenge renaming pw_op0290_01 → NW
open PySem.Heap.IsSliceOf renaming new → NZ
open PySem PySem.W PyProof.Rows PySem.Calls
set_option Elab.async false
set_option linter.all false
set_option autoImplicit false
set_option maxRecDepth 100000
set_option maxHeartbeats 0
set_option genInjectivity false
set_option genSizeOf false
set_option tactic.hygienic false
set_option compiler.extract_closed false
local macro_rules
 | `(tactic| obtain ⟨$ps,*⟩ := $h) => do
  let l := ps.getElems
  let n := l.size
  if n < 2 || 9 < n then Lean.Macro.throwUnsupported
  let alts ← (Array.range n).mapM fun j => `(tactic| refine $(Lean.mkIdent (.mkStr `Mine.Internal s!"o{n - 1 - j}_{j + 1}")) $h ?_)
  let ins : Lean.TSyntaxArray `rintroPat := l.map fun p => ⟨Lean.mkNode `Lean.Parser.Tactic.rintroPat.one #[Lean.mkNode `Lean.Parser.Tactic.rcasesPat.paren #[Lean.mkAtom "(", p, Lean.mkAtom ")"]]⟩
  `(tactic| first | ((first $[| $alts:tactic]*); first | clear $(⟨h.raw⟩); rintro $ins* | rintro $ins*) | rcases $h:term with ⟨$ps,*⟩)
set_option bootstrap.genMatcherCode false
set_option backward.match.sparseCases false
local macro_rules
 | `(∅) => `(by kernel_rfl)
namespace Mine.Internal
variable {α β γ:Type} {P0 P1 P2 P3 P4 P5 P6:Prop} {x qual W out nm buf:Str} {a itA C fI L fi fn:Kj} {h h':Heap} {R R':List Kj->α->Prop} {l':List β} {m i D k tk n d di N j k' wi ti si ui n2:Nat} {P:K5} {ρ ρ' ν ρ1 ρ2 ow' ρ₀ fs:List Kj} {s s' s1 s2 s₀:Kl} {ob ob' o' ox:Obj} {env:Env} {sc scope:Scope} {A:Lj} {Q E:Kd->Kl->Prop} {pos px tp apos p1 p2 cp:Pos} {y oc code:Kd} {e func value slice iter test elt t2 iter2:Expr} {op:CmpOp} {M:Model} {kws:List Mv} {vs items:Array Kd} {p:Int} {od:Option Obj} {sl:Array (Option Kd)} {xs:List Int} {ns ms U ms':List Nat} {kd:Str->Option Ko} {cs:List (Str×Kd)} {body orelse l₁ l₂:List Kz} {lo hi:Option Expr} {acc cells:List (Str×Kj)} {prog:Np} {w:J9} {ts ifs ifs2:List Expr} {names:List (Str×Ko)} {en:List Me} {outer:List Env} {gens rest:List NE} {ps:List Prop} {ss:List Str} {gn:Array GenState} {dr:Drawn} {ty:String} {cd:ClassData} {ix:Nat->Nat} {np:Nat->Int}
theorem o0_2 {G:Prop} (h:P0/\P1) (k:P0->P1->G):G:=k h.1 h.2
theorem o0_3 {G:Prop} (h:P0/\P1/\P2) (k:P0->P1->P2->G):G:=o0_2 h.2 (k h.1)
theorem o0_4 {G:Prop} (h:P0/\P1/\P2/\P3) (k:P0->P1->P2->P3->G):G:=o0_3 h.2 (k h.1)
theorem o0_5 {G:Prop} (h:P0/\P1/\P2/\P3/\P4) (k:P0->P1->P2->P3->P4->G):G:=o0_4 h.2 (k h.1)
theorem o0_6 {G:Prop} (h:P0/\P1/\P2/\P3/\P4/\P5) (k:P0->P1->P2->P3->P4->P5->G):G:=o0_5 h.2 (k h.1)
theorem o0_7 {G:Prop} (h:P0/\P1/\P2/\P3/\P4/\P5/\P6) (k:P0->P1->P2->P3->P4->P5->P6->G):G:=o0_6 h.2 (k h.1)
theorem o0_8 {P7:Prop} {G:Prop} (h:P0/\P1/\P2/\P3/\P4/\P5/\P6/\P7) (k:P0->P1->P2->P3->P4->P5->P6->P7->G):G:=o0_7 h.2 (k h.1)
theorem o1_1.{u0} {α0:Sort u0} {P0:α0->Prop} {G:Prop} (h:∃x0,P0 x0) (k:∀x0,P0 x0->G):G:=h.elim k
theorem o1_2.{u0} {α0:Sort u0} {P0 P1:α0->Prop} {G:Prop} (h:∃x0,P0 x0/\P1 x0) (k:∀x0,P0 x0->P1 x0->G):G:=h.elim fun x0 h=>o0_2 h (k x0)
theorem o1_3.{u0} {α0:Sort u0} {P0 P1 P2:α0->Prop} {G:Prop} (h:∃x0,P0 x0/\P1 x0/\P2 x0) (k:∀x0,P0 x0->P1 x0->P2 x0->G):G:=h.elim fun x0 h=>o0_3 h (k x0)
theorem o1_4.{u0} {α0:Sort u0} {P0 P1 P2 P3:α0->Prop} {G:Prop} (h:∃x0,P0 x0/\P1 x0/\P2 x0/\P3 x0) (k:∀x0,P0 x0->P1 x0->P2 x0->P3 x0->G):G:=h.elim fun x0 h=>o0_4 h (k x0)
theorem o1_5.{u0} {α0:Sort u0} {P0 P1 P2 P3 P4:α0->Prop} {G:Prop} (h:∃x0,P0 x0/\P1 x0/\P2 x0/\P3 x0/\P4 x0) (k:∀x0,P0 x0->P1 x0->P2 x0->P3 x0->P4 x0->G):G:=h.elim fun x0 h=>o0_5 h (k x0)
theorem o1_6.{u0} {α0:Sort u0} {P0 P1 P2 P3 P4 P5:α0->Prop} {G:Prop} (h:∃x0,P0 x0/\P1 x0/\P2 x0/\P3 x0/\P4 x0/\P5 x0) (k:∀x0,P0 x0->P1 x0->P2 x0->P3 x0->P4 x0->P5 x0->G):G:=h.elim fun x0 h=>o0_6 h (k x0)
theorem o1_7.{u0} {α0:Sort u0} {P0 P1 P2 P3 P4 P5 P6:α0->Prop} {G:Prop} (h:∃x0,P0 x0/\P1 x0/\P2 x0/\P3 x0/\P4 x0/\P5 x0/\P6 x0) (k:∀x0,P0 x0->P1 x0->P2 x0->P3 x0->P4 x0->P5 x0->P6 x0->G):G:=h.elim fun x0 h=>o0_7 h (k x0)
theorem o1_8.{u0} {α0:Sort u0} {P0 P1 P2 P3 P4 P5 P6 P7:α0->Prop} {G:Prop} (h:∃x0,P0 x0/\P1 x0/\P2 x0/\P3 x0/\P4 x0/\P5 x0/\P6 x0/\P7 x0) (k:∀x0,P0 x0->P1 x0->P2 x0->P3 x0->P4 x0->P5 x0->P6 x0->P7 x0->G):G:=h.elim fun x0 h=>o0_8 h (k x0)
theorem o2_1.{u0,u1} {α0:Sort u0} {α1:Sort u1} {P0:α0->α1->Prop} {G:Prop} (h:∃x0 x1,P0 x0 x1) (k:∀x0 x1,P0 x0 x1->G):G:=h.elim fun x0 h=>o1_1 h (k x0)
theorem o2_2.{u0,u1} {α0:Sort u0} {α1:Sort u1} {P0 P1:α0->α1->Prop} {G:Prop} (h:∃x0 x1,P0 x0 x1/\P1 x0 x1) (k:∀x0 x1,P0 x0 x1->P1 x0 x1->G):G:=h.elim fun x0 h=>o1_2 h (k x0)
theorem o2_3.{u0,u1} {α0:Sort u0} {α1:Sort u1} {P0 P1 P2:α0->α1->Prop} {G:Prop} (h:∃x0 x1,P0 x0 x1/\P1 x0 x1/\P2 x0 x1) (k:∀x0 x1,P0 x0 x1->P1 x0 x1->P2 x0 x1->G):G:=h.elim fun x0 h=>o1_3 h (k x0)
theorem o2_4.{u0,u1} {α0:Sort u0} {α1:Sort u1} {P0 P1 P2 P3:α0->α1->Prop} {G:Prop} (h:∃x0 x1,P0 x0 x1/\P1 x0 x1/\P2 x0 x1/\P3 x0 x1) (k:∀x0 x1,P0 x0 x1->P1 x0 x1->P2 x0 x1->P3 x0 x1->G):G:=h.elim fun x0 h=>o1_4 h (k x0)
theorem o2_5.{u0,u1} {α0:Sort u0} {α1:Sort u1} {P0 P1 P2 P3 P4:α0->α1->Prop} {G:Prop} (h:∃x0 x1,P0 x0 x1/\P1 x0 x1/\P2 x0 x1/\P3 x0 x1/\P4 x0 x1) (k:∀x0 x1,P0 x0 x1->P1 x0 x1->P2 x0 x1->P3 x0 x1->P4 x0 x1->G):G:=h.elim fun x0 h=>o1_5 h (k x0)
theorem o2_6.{u0,u1} {α0:Sort u0} {α1:Sort u1} {P0 P1 P2 P3 P4 P5:α0->α1->Prop} {G:Prop} (h:∃x0 x1,P0 x0 x1/\P1 x0 x1/\P2 x0 x1/\P3 x0 x1/\P4 x0 x1/\P5 x0 x1) (k:∀x0 x1,P0 x0 x1->P1 x0 x1->P2 x0 x1->P3 x0 x1->P4 x0 x1->P5 x0 x1->G):G:=h.elim fun x0 h=>o1_6 h (k x0)
theorem o2_7.{u0,u1} {α0:Sort u0} {α1:Sort u1} {P0 P1 P2 P3 P4 P5 P6:α0->α1->Prop} {G:Prop} (h:∃x0 x1,P0 x0 x1/\P1 x0 x1/\P2 x0 x1/\P3 x0 x1/\P4 x0 x1/\P5 x0 x1/\P6 x0 x1) (k:∀x0 x1,P0 x0 x1->P1 x0 x1->P2 x0 x1->P3 x0 x1->P4 x0 x1->P5 x0 x1->P6 x0 x1->G):G:=h.elim fun x0 h=>o1_7 h (k x0)
theorem o3_1.{u0,u1,u2} {α0:Sort u0} {α1:Sort u1} {α2:Sort u2} {P0:α0->α1->α2->Prop} {G:Prop} (h:∃x0 x1 x2,P0 x0 x1 x2) (k:∀x0 x1 x2,P0 x0 x1 x2->G):G:=h.elim fun x0 h=>o2_1 h (k x0)
theorem o3_2.{u0,u1,u2} {α0:Sort u0} {α1:Sort u1} {α2:Sort u2} {P0 P1:α0->α1->α2->Prop} {G:Prop} (h:∃x0 x1 x2,P0 x0 x1 x2/\P1 x0 x1 x2) (k:∀x0 x1 x2,P0 x0 x1 x2->P1 x0 x1 x2->G):G:=h.elim fun x0 h=>o2_2 h (k x0)
theorem o3_3.{u0,u1,u2} {α0:Sort u0} {α1:Sort u1} {α2:Sort u2} {P0 P1 P2:α0->α1->α2->Prop} {G:Prop} (h:∃x0 x1 x2,P0 x0 x1 x2/\P1 x0 x1 x2/\P2 x0 x1 x2) (k:∀x0 x1 x2,P0 x0 x1 x2->P1 x0 x1 x2->P2 x0 x1 x2->G):G:=h.elim fun x0 h=>o2_3 h (k x0)
theorem o3_4.{u0,u1,u2} {α0:Sort u0} {α1:Sort u1} {α2:Sort u2} {P0 P1 P2 P3:α0->α1->α2->Prop} {G:Prop} (h:∃x0 x1 x2,P0 x0 x1 x2/\P1 x0 x1 x2/\P2 x0 x1 x2/\P3 x0 x1 x2) (k:∀x0 x1 x2,P0 x0 x1 x2->P1 x0 x1 x2->P2 x0 x1 x2->P3 x0 x1 x2->G):G:=h.elim fun x0 h=>o2_4 h (k x0)
theorem o3_5.{u0,u1,u2} {α0:Sort u0} {α1:Sort u1} {α2:Sort u2} {P0 P1 P2 P3 P4:α0->α1->α2->Prop} {G:Prop} (h:∃x0 x1 x2,P0 x0 x1 x2/\P1 x0 x1 x2/\P2 x0 x1 x2/\P3 x0 x1 x2/\P4 x0 x1 x2) (k:∀x0 x1 x2,P0 x0 x1 x2->P1 x0 x1 x2->P2 x0 x1 x2->P3 x0 x1 x2->P4 x0 x1 x2->G):G:=h.elim fun x0 h=>o2_5 h (k x0)
theorem o3_6.{u0,u1,u2} {α0:Sort u0} {α1:Sort u1} {α2:Sort u2} {P0 P1 P2 P3 P4 P5:α0->α1->α2->Prop} {G:Prop} (h:∃x0 x1 x2,P0 x0 x1 x2/\P1 x0 x1 x2/\P2 x0 x1 x2/\P3 x0 x1 x2/\P4 x0 x1 x2/\P5 x0 x1 x2) (k:∀x0 x1 x2,P0 x0 x1 x2->P1 x0 x1 x2->P2 x0 x1 x2->P3 x0 x1 x2->P4 x0 x1 x2->P5 x0 x1 x2->G):G:=h.elim fun x0 h=>o2_6 h (k x0)
theorem o4_1.{u0,u1,u2,u3} {α0:Sort u0} {α1:Sort u1} {α2:Sort u2} {α3:Sort u3} {P0:α0->α1->α2->α3->Prop} {G:Prop} (h:∃x0 x1 x2 x3,P0 x0 x1 x2 x3) (k:∀x0 x1 x2 x3,P0 x0 x1 x2 x3->G):G:=h.elim fun x0 h=>o3_1 h (k x0)
theorem o4_2.{u0,u1,u2,u3} {α0:Sort u0} {α1:Sort u1} {α2:Sort u2} {α3:Sort u3} {P0 P1:α0->α1->α2->α3->Prop} {G:Prop} (h:∃x0 x1 x2 x3,P0 x0 x1 x2 x3/\P1 x0 x1 x2 x3) (k:∀x0 x1 x2 x3,P0 x0 x1 x2 x3->P1 x0 x1 x2 x3->G):G:=h.elim fun x0 h=>o3_2 h (k x0)
theorem o4_3.{u0,u1,u2,u3} {α0:Sort u0} {α1:Sort u1} {α2:Sort u2} {α3:Sort u3} {P0 P1 P2:α0->α1->α2->α3->Prop} {G:Prop} (h:∃x0 x1 x2 x3,P0 x0 x1 x2 x3/\P1 x0 x1 x2 x3/\P2 x0 x1 x2 x3) (k:∀x0 x1 x2 x3,P0 x0 x1 x2 x3->P1 x0 x1 x2 x3->P2 x0 x1 x2 x3->G):G:=h.elim fun x0 h=>o3_3 h (k x0)
theorem o4_4.{u0,u1,u2,u3} {α0:Sort u0} {α1:Sort u1} {α2:Sort u2} {α3:Sort u3} {P0 P1 P2 P3:α0->α1->α2->α3->Prop} {G:Prop} (h:∃x0 x1 x2 x3,P0 x0 x1 x2 x3/\P1 x0 x1 x2 x3/\P2 x0 x1 x2 x3/\P3 x0 x1 x2 x3) (k:∀x0 x1 x2 x3,P0 x0 x1 x2 x3->P1 x0 x1 x2 x3->P2 x0 x1 x2 x3->P3 x0 x1 x2 x3->G):G:=h.elim fun x0 h=>o3_4 h (k x0)
theorem o4_5.{u0,u1,u2,u3} {α0:Sort u0} {α1:Sort u1} {α2:Sort u2} {α3:Sort u3} {P0 P1 P2 P3 P4:α0->α1->α2->α3->Prop} {G:Prop} (h:∃x0 x1 x2 x3,P0 x0 x1 x2 x3/\P1 x0 x1 x2 x3/\P2 x0 x1 x2 x3/\P3 x0 x1 x2 x3/\P4 x0 x1 x2 x3) (k:∀x0 x1 x2 x3,P0 x0 x1 x2 x3->P1 x0 x1 x2 x3->P2 x0 x1 x2 x3->P3 x0 x1 x2 x3->P4 x0 x1 x2 x3->G):G:=h.elim fun x0 h=>o3_5 h (k x0)
theorem o5_1.{u0,u1,u2,u3,u4} {α0:Sort u0} {α1:Sort u1} {α2:Sort u2} {α3:Sort u3} {α4:Sort u4} {P0:α0->α1->α2->α3->α4->Prop} {G:Prop} (h:∃x0 x1 x2 x3 x4,P0 x0 x1 x2 x3 x4) (k:∀x0 x1 x2 x3 x4,P0 x0 x1 x2 x3 x4->G):G:=h.elim fun x0 h=>o4_1 h (k x0)
theorem o5_2.{u0,u1,u2,u3,u4} {α0:Sort u0} {α1:Sort u1} {α2:Sort u2} {α3:Sort u3} {α4:Sort u4} {P0 P1:α0->α1->α2->α3->α4->Prop} {G:Prop} (h:∃x0 x1 x2 x3 x4,P0 x0 x1 x2 x3 x4/\P1 x0 x1 x2 x3 x4) (k:∀x0 x1 x2 x3 x4,P0 x0 x1 x2 x3 x4->P1 x0 x1 x2 x3 x4->G):G:=h.elim fun x0 h=>o4_2 h (k x0)
theorem o5_3.{u0,u1,u2,u3,u4} {α0:Sort u0} {α1:Sort u1} {α2:Sort u2} {α3:Sort u3} {α4:Sort u4} {P0 P1 P2:α0->α1->α2->α3->α4->Prop} {G:Prop} (h:∃x0 x1 x2 x3 x4,P0 x0 x1 x2 x3 x4/\P1 x0 x1 x2 x3 x4/\P2 x0 x1 x2 x3 x4) (k:∀x0 x1 x2 x3 x4,P0 x0 x1 x2 x3 x4->P1 x0 x1 x2 x3 x4->P2 x0 x1 x2 x3 x4->G):G:=h.elim fun x0 h=>o4_3 h (k x0)
theorem o5_4.{u0,u1,u2,u3,u4} {α0:Sort u0} {α1:Sort u1} {α2:Sort u2} {α3:Sort u3} {α4:Sort u4} {P0 P1 P2 P3:α0->α1->α2->α3->α4->Prop} {G:Prop} (h:∃x0 x1 x2 x3 x4,P0 x0 x1 x2 x3 x4/\P1 x0 x1 x2 x3 x4/\P2 x0 x1 x2 x3 x4/\P3 x0 x1 x2 x3 x4) (k:∀x0 x1 x2 x3 x4,P0 x0 x1 x2 x3 x4->P1 x0 x1 x2 x3 x4->P2 x0 x1 x2 x3 x4->P3 x0 x1 x2 x3 x4->G):G:=h.elim fun x0 h=>o4_4 h (k x0)
theorem o6_1.{u0,u1,u2,u3,u4,u5} {α0:Sort u0} {α1:Sort u1} {α2:Sort u2} {α3:Sort u3} {α4:Sort u4} {α5:Sort u5} {P0:α0->α1->α2->α3->α4->α5->Prop} {G:Prop} (h:∃x0 x1 x2 x3 x4 x5,P0 x0 x1 x2 x3 x4 x5) (k:∀x0 x1 x2 x3 x4 x5,P0 x0 x1 x2 x3 x4 x5->G):G:=h.elim fun x0 h=>o5_1 h (k x0)
theorem o6_2.{u0,u1,u2,u3,u4,u5} {α0:Sort u0} {α1:Sort u1} {α2:Sort u2} {α3:Sort u3} {α4:Sort u4} {α5:Sort u5} {P0 P1:α0->α1->α2->α3->α4->α5->Prop} {G:Prop} (h:∃x0 x1 x2 x3 x4 x5,P0 x0 x1 x2 x3 x4 x5/\P1 x0 x1 x2 x3 x4 x5) (k:∀x0 x1 x2 x3 x4 x5,P0 x0 x1 x2 x3 x4 x5->P1 x0 x1 x2 x3 x4 x5->G):G:=h.elim fun x0 h=>o5_2 h (k x0)
theorem o6_3.{u0,u1,u2,u3,u4,u5} {α0:Sort u0} {α1:Sort u1} {α2:Sort u2} {α3:Sort u3} {α4:Sort u4} {α5:Sort u5} {P0 P1 P2:α0->α1->α2->α3->α4->α5->Prop} {G:Prop} (h:∃x0 x1 x2 x3 x4 x5,P0 x0 x1 x2 x3 x4 x5/\P1 x0 x1 x2 x3 x4 x5/\P2 x0 x1 x2 x3 x4 x5) (k:∀x0 x1 x2 x3 x4 x5,P0 x0 x1 x2 x3 x4 x5->P1 x0 x1 x2 x3 x4 x5->P2 x0 x1 x2 x3 x4 x5->G):G:=h.elim fun x0 h=>o5_3 h (k x0)
theorem o7_1.{u0,u1,u2,u3,u4,u5,u6} {α0:Sort u0} {α1:Sort u1} {α2:Sort u2} {α3:Sort u3} {α4:Sort u4} {α5:Sort u5} {α6:Sort u6} {P0:α0->α1->α2->α3->α4->α5->α6->Prop} {G:Prop} (h:∃x0 x1 x2 x3 x4 x5 x6,P0 x0 x1 x2 x3 x4 x5 x6) (k:∀x0 x1 x2 x3 x4 x5 x6,P0 x0 x1 x2 x3 x4 x5 x6->G):G:=h.elim fun x0 h=>o6_1 h (k x0)
theorem o7_2.{u0,u1,u2,u3,u4,u5,u6} {α0:Sort u0} {α1:Sort u1} {α2:Sort u2} {α3:Sort u3} {α4:Sort u4} {α5:Sort u5} {α6:Sort u6} {P0 P1:α0->α1->α2->α3->α4->α5->α6->Prop} {G:Prop} (h:∃x0 x1 x2 x3 x4 x5 x6,P0 x0 x1 x2 x3 x4 x5 x6/\P1 x0 x1 x2 x3 x4 x5 x6) (k:∀x0 x1 x2 x3 x4 x5 x6,P0 x0 x1 x2 x3 x4 x5 x6->P1 x0 x1 x2 x3 x4 x5 x6->G):G:=h.elim fun x0 h=>o6_2 h (k x0)
theorem o8_1.{u0,u1,u2,u3,u4,u5,u6,u7} {α0:Sort u0} {α1:Sort u1} {α2:Sort u2} {α3:Sort u3} {α4:Sort u4} {α5:Sort u5} {α6:Sort u6} {α7:Sort u7} {P0:α0->α1->α2->α3->α4->α5->α6->α7->Prop} {G:Prop} (h:∃x0 x1 x2 x3 x4 x5 x6 x7,P0 x0 x1 x2 x3 x4 x5 x6 x7) (k:∀x0 x1 x2 x3 x4 x5 x6 x7,P0 x0 x1 x2 x3 x4 x5 x6 x7->G):G:=h.elim fun x0 h=>o7_1 h (k x0)
theorem nS {x:α} {G:Prop} (h:Option.none=some x):G:=nomatch h
theorem nB {G:Prop} (h:false=true):G:=nomatch h
abbrev PW:Np:=NW
noncomputable def N0:Nat:=935
noncomputable def TJ:Kj:=880
theorem dg (h:N0 <=a):a≠TJ:=fun e=>absurd h (by rw[e];decide)
noncomputable def dT (vs:Array Kd):Obj:={ cls:=.none,data:=.fields vs }
noncomputable def lK (b:Kj) (o:Obj) (h:Heap):Prop:=h.get? b=some o
theorem lK.map {b:Kj} {o:Obj} (x:lK b o h) (k:∀o',h.get? b=some o'->h'.get? b=some o'):lK b o h':=k _ x
inductive V where
 | none
 | bool (b:Bool)
 | int (i:Int)
 | str (s:Str)
 | top (v:Kd)
 | ref (i:Nat)
 deriving Inhabited
variable {v u:V} {es bs kw loc' locW locW' l0:List (Str×V)} {args kvs ys:List V}
noncomputable def RelV (ρ:List Kj):V->Kd->Prop
 | .none,x=>x=.none
 | .bool b,x=>x=.bool b
 | .int i,x=>∃t,x=.int i t
 | .str s,x=>∃t,x=.str s t
 | .top v,x=>x=v
 | .ref i,x=>∃a,ρ[i]?=some a/\x=.ref a
noncomputable def aL (ρ:List Kj):Option V->Option Kd->Prop
 | .none,.none=>True
 | .some v,.some x=>RelV ρ v x
 | _,_=>False
inductive ae {α β:Type} (R:α->β->Prop):List α->List β->Prop where
 | nil:ae R [] []
 | cons {a:α} {b:β} {l:List α} {l':List β}:R a b->ae R l l'->ae R (a::l) (b::l')
theorem ae.mono {R R':α->β->Prop} (h:∀a b,R a b->R' a b) {l:List α} (q:ae R l l'):ae R' l l':=by
 induction q with
 | nil=>exact .nil
 | cons x _ ih=>exact .cons (h _ _ x) ih
theorem ae.length {R:α->β->Prop} {l:List α} (h:ae R l l'):l'.length=l.length:=by
 induction h with
 | nil=>rfl
 | cons _ _ ih=>exact congrArg Nat.succ ih
theorem ae.get {R:α->β->Prop} {l:List α} (q:ae R l l'):∀{i:Nat} {a:α},l[i]?=some a->∃b,l'[i]?=some b/\R a b:=by
 induction q with
 | nil=>exact fun h=>nomatch h
 | cons x _ ih=>
  intro i a h
  cases i with
  | zero=>exact Lu h▸⟨_,rfl,x⟩
  | succ i=>exact ih h
theorem ae.append {R:α->β->Prop} {m:List α} {m':List β} (h:ae R m m') {l:List α} (q:ae R l l'):ae R (l++m) (l'++m'):=by
 induction q with
 | nil=>exact h
 | cons x _ ih=>exact .cons x ih
theorem ae.set {R:α->β->Prop} {a:α} {b:β} (h:R a b) {l:List α} (i:Nat) (q:ae R l l'):ae R (l.set i a) (l'.set i b):=by
 induction q generalizing i with
 | nil=>exact .nil
 | cons x r ih=>cases i with
  | zero=>exact .cons h r
  | succ i=>exact .cons x (ih i)
theorem wf {P:Nat->Prop} (h0:P 0) (h1:P 1) (h2:P 2) (h3:P 3) (h4:P 4) (h5:P 5) (h:∀j,P (j + 6)):∀j,P j
 | 0=>h0
 | 1=>h1
 | 2=>h2
 | 3=>h3
 | 4=>h4
 | 5=>h5
 | j + 6=>h j
theorem BZ {P:Nat->Prop} (j:Nat) (hj:j < 8) (h0:P 0) (h1:P 1) (h2:P 2) (h3:P 3) (h4:P 4) (h5:P 5) (h6:P 6) (h7:P 7):P j:=
 wf (P:=fun j=>j < 8->P j) (fun _=>h0) (fun _=>h1) (fun _=>h2) (fun _=>h3) (fun _=>h4) (fun _=>h5) (fun j hj=>match j with
  | 0=>h6
  | 1=>h7
  | j + 2=>absurd hj (by lia)) j hj
inductive O where
 | list (xs:List V)
 | tuple (xs:List V)
 | dict (es:List (Str×V)) (n:Nat)
 | inst (C:Kj) (d:Nat)
 | slots (C:Kj) (d:Nat) (vs:List (Option V))
 | range (a b c:Int)
 | flds (ty:String) (vs:List V)
 | set (ss:List Str)
 | fix (ob:Obj)
 | map (es:List (Str×V))
 | dead
 deriving Inhabited
variable {o:O} {os os' os₁ W' μ tl os0 osI Wz:List O} {nx:Nat->List O->Option (Option V)}
noncomputable def bZ (P:K5) (ρ:List Kj) (kv:Str×V) (e:Me):Prop:=(∃t,e.key=.str kv.1 t)/\e.hash=MJ P kv.1/\RelV ρ kv.2 e.val
noncomputable def bj (P:K5) (ρ:List Kj) (ob:Obj):O->Prop
 | .list xs=>∃vs n,ob=⟨.type "list",none,.seq vs n,#[]⟩/\ae (RelV ρ) xs vs.toList
 | .tuple xs=>∃vs n,ob=⟨.type "tuple",none,.seq vs n,#[]⟩/\ae (RelV ρ) xs vs.toList
 | .dict es n=>∃en,ob=⟨.type "dict",none,.dict en n,#[]⟩/\ae (bZ P ρ) es en.toList/\(es.map (·.1)).Nodup
 | .inst C d=>∃a,ρ[d]?=some a/\ob=⟨.ref C,some a,.plain,#[]⟩
 | .slots C d vs=>∃a sv,ρ[d]?=some a/\ob=⟨.ref C,some a,.plain,sv⟩/\ae (aL ρ) vs sv.toList
 | .fix ob'=>ob=ob'
 | .range a b c=>∃t u v,ob=⟨.type "range",none,.fields #[.int a t,.int b u,.int c v],#[]⟩
 | .flds ty vs=>∃a,ob=⟨.type ty,none,.fields a,#[]⟩/\ae (RelV ρ) vs a.toList
 | .map es=>∃en n,ob=⟨.type "dict",none,.dict en n,#[]⟩/\ae (bZ P ρ) es en.toList/\(es.map (·.1)).Nodup
 | .set ss=>∃w:J9,w.params=P/\PySem.Obj.SetObjOf (strKind PW w) ob (fun k=>decide (k∈ss)) ss.length
 | .dead=>True
structure HR (P:K5) (ρ:List Kj) (os:List O) (h:Heap):Prop where
 len:ρ.length=os.length
 nd:ρ.Nodup
 hi:∀a∈ρ,N0 <=a/\∃ob,h.get? a=some ob
 ob:∀(i:Nat) (o:O) (a:Kj),os[i]?=some o->ρ[i]?=some a->o=.dead\/∃ob,h.get? a=some ob/\bj P ρ ob o
structure ER (ρ:List Kj) (h:Heap) (env:Env) (lc:List (Str×V)):Prop where
 glob:env.globals=K9
 blt:env.builtins=LL
 kind:env.scope.kind=.function
 loc:∃m,h.Ns env.locals m/\∀x,env.kindOf x=some .local->aL ρ (lc.lookup x) (m x)
 cell:∀x,(env.kindOf x=some .cell\/env.kindOf x=some .free)->∃c o,env.cells.lookup x=some c/\h.IsCell c o/\aL ρ (lc.lookup x) o
 low:N0 <=env.locals/\env.locals∉ρ
 clow:∀p∈env.cells,N0 <=p.2/\(∃ob,h.get? p.2=some ob)/\p.2∉ρ/\p.2≠env.locals
 capart:∀x y c,(x,c)∈env.cells->(y,c)∈env.cells->x=y
structure G where
 w:J9
 K:Frag
 low:∀a o,K.lookup a=some o->a < N0
 lim:∀h:Heap,K.In h->h.NoLimit
 last:∃o,K.lookup (N0 - 1)=some o
 tj:K.lookup TJ=none
variable {g:G}
structure S where
 os:List O
 loc:List (Str×V)
variable {σ σ₁ σ₂ σ₃ σe σ':S} {J:β->S->Prop}
noncomputable def own (env:Env):List Kj:=env.locals::env.cells.map (·.2)
structure Go (ow:List Kj) (ρ:List Kj) (s:Kl) (ρ':List Kj) (s':Kl):Prop where
 pre:∃ν,ρ'=ρ++ν/\∀a∈ν,s.heap.get? a=none
 kept:∀b o,s.heap.get? b=some o->b∉ρ->b∉ow->lK b o s'.heap
 alive:∀b o,s.heap.get? b=some o->∃o',s'.heap.get? b=some o'
 gens:s'.gens=s.gens
 os:s'.os=s.os/\s'.drawn=s.drawn
theorem Go.of {ow:List Kj} (pre:∃ν,ρ'=ρ++ν/\∀a∈ν,s.heap.get? a=none) (keep:∀b o,s.heap.get? b=some o->b∉ρ->b∉ow->s'.heap.get? b=some o)
  (alive:∀b o,s.heap.get? b=some o->∃o',s'.heap.get? b=some o') (gens:s'.gens=s.gens) (os:s'.os=s.os) (dr:s'.drawn=s.drawn:=by rfl):Go ow ρ s ρ' s':=⟨pre,fun b o e h1 h2=>keep b o e h1 h2,alive,gens,os,dr⟩
theorem Go.keep {ow:List Kj} (x:Go ow ρ s ρ' s') (b:Kj) (o:Obj) (e:s.heap.get? b=some o) (h1:b∉ρ) (h2:b∉ow) (h3:b≠TJ):s'.heap.get? b=some o:=x.kept b o e h1 h2
structure St (g:G) (env:Env) (σ:S) (ρ:List Kj) (s:Kl):Prop where
 hr:HR g.w.params ρ σ.os s.heap
 er:ER ρ s.heap env σ.loc
 k:g.K.In s.heap
structure aB (D:Nat) (A:Lj):Prop where
 handled:A.handled=none
 depth:A.depth + D < recursionLimit
 units:A.units + 40 * D < cLine
theorem get_app {l m:List Kj} (h:l[i]?=some a):(l++m)[i]?=some a:=by
 have hl:i < l.length:=(List.getElem?_eq_some_iff.mp h).1
 rw[Kn hl];exact h
theorem RelV.mono:∀{v:V} {x:Kd},RelV ρ v x->RelV (ρ++ν) v x
 | .none,_,h=>h
 | .bool _,_,h=>h
 | .int _,_,h=>h
 | .str _,_,h=>h
 | .top _,_,h=>h
 | .ref _,_,⟨a,h,e⟩=>⟨a,get_app h,e⟩
theorem aL.mono:∀{v:Option V} {x:Option Kd},aL ρ v x->aL (ρ++ν) v x
 | .none,.none,_=>trivial
 | .some _,.some _,h=>RelV.mono h
 | .some _,.none,h=>h.elim
 | .none,.some _,h=>h.elim
theorem bj.mono (h:bj P ρ ob o):bj P (ρ++ν) ob o:=by
 cases o with
 | list=>exact h.imp fun _ h=>h.imp fun _ h=>⟨h.1,h.2.mono fun _ _=>RelV.mono⟩
 | tuple=>exact h.imp fun _ h=>h.imp fun _ h=>⟨h.1,h.2.mono fun _ _=>RelV.mono⟩
 | dict=>exact h.imp fun _ h=>⟨h.1,h.2.1.mono fun _ _ z=>⟨z.1,z.2.1,z.2.2.mono⟩,h.2.2⟩
 | inst=>exact h.imp fun _ h=>⟨get_app h.1,h.2⟩
 | slots=>exact h.imp fun _ h=>h.imp fun _ h=>⟨get_app h.1,h.2.1,h.2.2.mono fun _ _=>aL.mono⟩
 | flds=>exact h.imp fun _ h=>⟨h.1,h.2.mono fun _ _=>RelV.mono⟩
 | map=>exact h.imp fun _ h=>h.imp fun _ h=>⟨h.1,h.2.1.mono fun _ _ z=>⟨z.1,z.2.1,z.2.2.mono⟩,h.2.2⟩
 | _=>exact h
theorem Go.refl (ow ρ:List Kj) (s:Kl):Go ow ρ s ρ s:=.of ⟨[],(KZ _).symm,fun _ h=>(nomatch h)⟩ (fun _ _ e _ _=>e) (fun _ o e=>⟨o,e⟩) rfl rfl
theorem Go.trans {ow:List Kj} (x:Go ow ρ s ρ1 s1) (y:Go ow ρ1 s1 ρ2 s2):Go ow ρ s ρ2 s2:=by
 obtain⟨ν,e,hν⟩:=x.pre
 obtain⟨μ,e',hμ⟩:=y.pre
 refine⟨⟨ν++μ,by rw[e',e,KG],fun a ha=>?_⟩,fun b o hb h1 h2=>?_,fun b o hb=>?_,y.gens.trans x.gens,y.os.1.trans x.os.1,y.os.2.trans x.os.2⟩
 .rcases List.mem_append.mp ha with h | h
  .exact hν a h
  .cases q:s.heap.get? a with
   | none=>rfl
   | some o=>obtain⟨o',q'⟩:=x.alive a o q;rw[hμ a h] at q';cases q'
 .have nm:b∉ρ1:=fun hm=>by
   rw[e] at hm
   rcases List.mem_append.mp hm with h | h
   .exact h1 h
   .rw[hν b h] at hb;cases hb
  exact y.kept b o (x.kept b o hb h1 h2) nm h2
 .obtain⟨o',q⟩:=x.alive b o hb
  exact y.alive b o' q
theorem Go.weak {ow:List Kj} (x:Go ow ρ s ρ' s') (h:∀a∈ow,a∈ow'):Go ow' ρ s ρ' s':=
 ⟨x.pre,fun b o e h1 h2=>x.kept b o e h1 fun z=>h2 (h b z),x.alive,x.gens,x.os⟩
theorem Go.nil {ow:List Kj} (x:Go [] ρ s ρ' s'):Go ow ρ s ρ' s':=x.weak fun _ h=>(nomatch h)
theorem ER.go {loc:List (Str×V)} (x:ER ρ s.heap env loc) (y:Go [] ρ s ρ' s'):ER ρ' s'.heap env loc:=by
 obtain⟨ν,e,hν⟩:=y.pre
 obtain⟨m,hm,hl⟩:=x.loc
 have nin:∀{a:Kj} {o:Obj},s.heap.get? a=some o->a∉ρ->a∉ρ':=fun h1 h2 h3=>by
  rw[e] at h3
  rcases List.mem_append.mp h3 with h | h
  .exact h2 h
  .rw[hν _ h] at h1;cases h1
 obtain⟨oL,es,ep,hoL,r⟩:=hm
 refine⟨x.glob,x.blt,x.kind,⟨m,⟨oL,es,ep,y.keep _ _ hoL x.low.2 (fun h=>(nomatch h)) (dg x.low.1),r⟩,fun z hz=>e▸aL.mono (hl z hz)⟩,fun z hz=>?_,⟨x.low.1,nin hoL x.low.2⟩,fun p hp=>?_,x.capart⟩
 .obtain⟨c,o,h1,⟨ob,h2,h3⟩,h4⟩:=x.cell z hz
  exact⟨c,o,h1,⟨ob,y.keep _ _ h2 (x.clow _ (mem_of_lookup h1)).2.2.1 (fun h=>(nomatch h)) (dg (x.clow _ (mem_of_lookup h1)).1),h3⟩,e▸aL.mono h4⟩
 .obtain⟨a1,⟨ob,a2⟩,a3,a4⟩:=x.clow p hp
  exact⟨a1,y.alive _ _ a2,nin a2 a3,a4⟩
theorem bY {ow:List Kj} (k:g.K.In s.heap) (hr:HR g.w.params ρ os s.heap) (ho:∀a∈ow,N0 <=a) (y:Go ow ρ s ρ' s'):g.K.In s'.heap:=fun a o e=>by
 have lt:=g.low a o e
 refine y.keep a o (k a o e) (fun h=>?_) (fun h=>?_) (fun h=>by rw[h,g.tj] at e;cases e)
 .exact absurd lt (Nat.not_lt.mpr (hr.hi a h).1)
 .exact absurd lt (Nat.not_lt.mpr (ho a h))
theorem HR.keeps (x:HR P ρ os h) (k:∀b o,h.get? b=some o->h'.get? b=some o):HR P ρ os h':=
 ⟨x.len,x.nd,fun a ha=>⟨(x.hi a ha).1,let⟨ob,e⟩:=(x.hi a ha).2;⟨ob,k _ _ e⟩⟩,fun i o a h1 h2=>(x.ob i o a h1 h2).imp id fun⟨ob,e,r⟩=>⟨ob,k _ _ e,r⟩⟩
theorem HR.lt (x:HR P ρ os h) (ha:a∈ρ):a < h.objs.size:=let⟨_,e⟩:=(x.hi a ha).2;KJ e
theorem cO {b:Kj} (hs:Lb a h h') (ha:h'.get? a=some ob') (hb:h.get? b=some ob):∃o,h'.get? b=some o:=by
 by_cases q:b=a
 .subst q;exact⟨_,ha⟩
 .exact⟨ob,(hs.2 b q).trans hb⟩
theorem HR.set (x:HR P ρ os h) {o':O} (ha:ρ[i]?=some a) (hs:Lb a h h')
  (hb:h'.get? a=some ob') (hr:bj P ρ ob' o'):HR P ρ (os.set i o') h':=by
 refine⟨by rw[Mg];exact x.len,x.nd,fun b hm=>⟨(x.hi b hm).1,let⟨ob,e⟩:=(x.hi b hm).2;cO hs hb e⟩,fun j o b h1 h2=>?_⟩
 by_cases e:i=j
 .subst e
  rw[ha] at h2
  cases h2
  have hl:i < os.length:=by rw[<- x.len];exact(List.getElem?_eq_some_iff.mp ha).1
  rw[MY hl] at h1
  cases h1
  exact .inr ⟨ob',hb,hr⟩
 .rw[M5 e] at h1
  rcases x.ob j o b h1 h2 with h | ⟨ob,e1,e2⟩
  .exact .inl h
  .refine .inr ⟨ob,(hs.2 b fun q=>e ?_).trans e1,e2⟩
   subst q
   exact(List.getElem?_inj (List.getElem?_eq_some_iff.mp ha).1 x.nd).mp (ha.trans h2.symm)
theorem HR.push (x:HR P ρ os h) (ha:h.objs.size <=a) (h0:N0 <=h.objs.size)
  (k:∀b o,h.get? b=some o->h'.get? b=some o) (hb:h'.get? a=some ob) (hr:bj P (ρ++[a]) ob o):HR P (ρ++[a]) (os++[o]) h':=by
 refine⟨by simp[x.len],?_,fun b hm=>?_,fun i o' b h1 h2=>?_⟩
 .rw[LQ]
  refine⟨x.nd,by simp,fun c hc d hd=>?_⟩
  have h1:=x.lt hc
  rintro rfl
  simp at hd
  subst hd
  exact absurd h1 (Nat.not_lt.mpr ha)
 .rcases List.mem_append.mp hm with h | h
  .exact⟨(x.hi b h).1,let⟨ob,e⟩:=(x.hi b h).2;⟨ob,k _ _ e⟩⟩
  .simp at h;subst h;exact⟨Lh h0 ha,ob,hb⟩
 .by_cases hi:i < os.length
  .rw[Kn hi] at h1
   rw[Kn (by rw[x.len];exact hi)] at h2
   exact(x.ob i o' b h1 h2).imp id fun⟨ob,e,r⟩=>⟨ob,k _ _ e,r.mono⟩
  .have hi':os.length <=i:=Lv hi
   rw[Ke hi'] at h1
   rw[Ke (by rw[x.len];exact hi'),x.len] at h2
   by_cases q:i - os.length=0
   .rw[q] at h1 h2;simp at h1 h2;subst h1 h2;exact .inr ⟨ob,hb,hr⟩
   .obtain⟨j,hj⟩:=Nat.exists_eq_succ_of_ne_zero q
    rw[hj] at h1;simp at h1
noncomputable def aP (g:G) (D:Nat) (sc:Scope) (σ:S) (t:Env->Sem α) (R:List Kj->α->Prop) (σ':S):Prop:=
 ∀(A:Lj) (env:Env) (ρ:List Kj) (s:Kl),env.scope=sc->aB D A->St g env σ ρ s->
  J6 (Kx PW g.w) A (t env) (fun x s'=>∃ρ',R ρ' x/\St g env σ' ρ' s'/\Go (own env) ρ s ρ' s') (fun _ _=>False) s
noncomputable def Lf (g:G) (D:Nat) (os:List O) (ρ:List Kj) (t:Sem α) (R:List Kj->α->Prop) (os':List O):Prop:=
 ∀(A:Lj) (s:Kl),aB D A->HR g.w.params ρ os s.heap->g.K.In s.heap->
  J6 (Kx PW g.w) A t (fun x s'=>∃ρ',R ρ' x/\HR g.w.params ρ' os' s'.heap/\Go [] ρ s ρ' s') (fun _ _=>False) s
theorem aV (k:g.K.In h):N0 <=h.objs.size:=by
 obtain⟨o,e⟩:=g.last
 exact KJ (k _ _ e)
theorem aP.use {t:Env->Sem α} (h:aP g D sc σ t R σ₁) (he:env.scope=sc) (hr:aB D A) (hs:St g env σ ρ s)
  {Q:α->Kl->Prop} (k:∀x s1 ρ1,R ρ1 x->St g env σ₁ ρ1 s1->Go (own env) ρ s ρ1 s1->Q x s1):J6 (Kx PW g.w) A (t env) Q E s:=
 Kr (h A env ρ s he hr hs) (fun x s1 ⟨ρ1,a,b,c⟩=>k x s1 ρ1 a b c) (fun _ _ z=>z.elim)
theorem Lf.use {t:Sem α} (h:Lf g D os ρ t R os') {loc:List (Str×V)} (hr:aB D A) (hs:St g env ⟨os,loc⟩ ρ s)
  {Q:α->Kl->Prop} (k:∀x s1 ρ1,R ρ1 x->St g env ⟨os',loc⟩ ρ1 s1->Go (own env) ρ s ρ1 s1->Q x s1):J6 (Kx PW g.w) A t Q E s:=
 Kr (h A s hr hs.hr hs.k) (fun x s1 ⟨ρ1,a,b,c⟩=>k x s1 ρ1 a ⟨b,hs.er.go c,bY (ow:=[]) hs.k hs.hr (fun _ h=>(nomatch h)) c⟩ c.nil) (fun _ _ z=>z.elim)
theorem Lf.pure {t:Sem α}
  (h:∀A s,aB D A->HR g.w.params ρ os s.heap->g.K.In s.heap->J6 (Kx PW g.w) A t (fun x s'=>R ρ x/\s'.heap=s.heap/\s'.gens=s.gens/\(s'.os,s'.drawn)=(s.os,s.drawn)) (fun _ _=>False) s):Lf g D os ρ t R os:=
 fun A s hr hh hk=>Kr (h A s hr hh hk) (fun x s' ⟨r,e1,e2,e3⟩=>⟨ρ,r,e1▸hh,.of ⟨[],(KZ _).symm,fun _ h=>(nomatch h)⟩ (fun b o e _ _=>by rw[e1];exact e) (fun b o e=>⟨o,by rw[e1];exact e⟩) e2 (congrArg Prod.fst e3) (congrArg Prod.snd e3)⟩) fun _ _ z=>z
noncomputable def Ev (g:G) (D:Nat) (sc:Scope) (σ:S) (e:Expr) (v:V) (σ':S):Prop:=aP g D sc σ (fun env=>KP e env) (fun ρ x=>RelV ρ v x) σ'
noncomputable def Tr (g:G) (D:Nat) (sc:Scope) (σ:S) (e:Expr) (b:Bool) (σ':S):Prop:=aP g D sc σ (fun env=>isTrue e env (KP e env)) (fun _ x=>x=b) σ'
inductive F where
 | next | brk | cont
 | ret (v:V)
variable {f:F}
noncomputable def dU (ρ:List Kj):F->Flow->Prop
 | .next,x=>x=.next
 | .brk,x=>x=.brk
 | .cont,x=>x=.cont
 | .ret v,x=>∃y,x=.ret y/\RelV ρ v y
noncomputable def Ex (g:G) (D:Nat) (sc:Scope) (σ:S) (st:Kz) (f:F) (σ':S):Prop:=aP g D sc σ (fun env=>exec st env) (fun ρ x=>dU ρ f x) σ'
noncomputable def Exs (g:G) (D:Nat) (sc:Scope) (σ:S) (st:List Kz) (f:F) (σ':S):Prop:=aP g D sc σ (fun env=>Lq st env) (fun ρ x=>dU ρ f x) σ'
theorem St.toks (x:St g env σ ρ s) (tk:Nat):St g env σ ρ { s with toks:=tk }:=⟨x.hr,x.er,x.k⟩
theorem Go.toks (ow ρ:List Kj) (s:Kl) (tk:Nat):Go ow ρ s ρ { s with toks:=tk }:=.of ⟨[],(KZ _).symm,fun _ h=>(nomatch h)⟩ (fun _ _ e _ _=>e) (fun _ o e=>⟨o,e⟩) rfl rfl
theorem Ev.intC {i:Int}:Ev g D sc σ (.Constant (.int i) k pos) (.int i) σ:=fun A env ρ s _ _ hs=>
 wpAny_Constant_int ⟨ρ,⟨_,rfl⟩,hs.toks _,Go.toks ..⟩
theorem Ev.strC:Ev g D sc σ (.Constant (.str x) k pos) (.str x) σ:=fun A env ρ s _ _ hs=>
 MU ⟨ρ,⟨_,rfl⟩,hs.toks _,Go.toks ..⟩
theorem Ev.noneC:Ev g D sc σ (.Constant .none k pos) .none σ:=fun A env ρ s _ _ hs=>wpAny_Constant_none ⟨ρ,rfl,hs,Go.refl ..⟩
theorem Ev.boolC {b:Bool}:Ev g D sc σ (.Constant (.bool b) k pos) (.bool b) σ:=fun A env ρ s _ _ hs=>wpAny_Constant_bool ⟨ρ,rfl,hs,Go.refl ..⟩
theorem Ev.loc {pos:Pos} (hx:sc.names.lookup x=some .local) (hv:σ.loc.lookup x=some v) (hd:(x==("__debug__" : Str))=false:=by decide):Ev g D sc σ (.Name x pos) v σ:=fun A env ρ s he _ hs=>by
 subst he
 obtain⟨m,hm,hl⟩:=hs.er.loc
 have hy:=hl x hx
 rw[hv] at hy
 cases hmx:m x with
 | none=>rw[hmx] at hy;exact hy.elim
 | some y=>rw[hmx] at hy;exact Mk (Mq hs.er.kind hx hm hmx ⟨ρ,hy,hs,Go.refl ..⟩) hd
theorem Ev.cell {pos:Pos} (hx:sc.names.lookup x=some .cell) (hv:σ.loc.lookup x=some v) (hd:(x==("__debug__" : Str))=false:=by decide):Ev g D sc σ (.Name x pos) v σ:=fun A env ρ s he _ hs=>by
 subst he
 obtain⟨c,o,h1,h2,h3⟩:=hs.er.cell x (.inl hx)
 rw[hv] at h3
 cases o with
 | none=>exact h3.elim
 | some y=>exact Mk (wpAny_loadName_cell hs.er.kind hx h1 h2 ⟨ρ,h3,hs,Go.refl ..⟩) hd
theorem Ev.free {pos:Pos} (hx:sc.names.lookup x=some .free) (hv:σ.loc.lookup x=some v) (hd:(x==("__debug__" : Str))=false:=by decide) (hn:(x==("__classdict__" : Str))=false:=by decide):Ev g D sc σ (.Name x pos) v σ:=fun A env ρ s he _ hs=>by
 subst he
 obtain⟨c,o,h1,h2,h3⟩:=hs.er.cell x (.inr hx)
 rw[hv] at h3
 cases o with
 | none=>exact h3.elim
 | some y=>exact Mk (wpAny_loadName_free hs.er.kind hx h1 h2 ⟨ρ,h3,hs,Go.refl ..⟩ hn) hd
noncomputable def jH (v:V) (x:Kd):Prop:=∀ρ,RelV ρ v x
theorem Ev.glob {pos:Pos} (hx:sc.names.lookup x=some .globalImplicit) (hy:nsIn g.K K9 x=some (some y)) (hv:jH v y) (hd:(x==("__debug__" : Str))=false:=by decide):Ev g D sc σ (.Name x pos) v σ:=fun A env ρ s he _ hs=>by
 subst he
 refine Mk ?_ hd
 rw[ND hs.er.kind hx]
 unfold loadGlobal
 rw[hs.er.glob]
 refine J7 ((M8 hs.k hy).here ?_)
 exact Kb ⟨ρ,hv ρ,hs,Go.refl ..⟩
theorem Ev.blt {pos:Pos} (hx:sc.names.lookup x=some .globalImplicit) (hn:nsIn g.K K9 x=some none) (hy:nsIn g.K LL x=some (some y)) (hv:jH v y) (hd:(x==("__debug__" : Str))=false:=by decide):Ev g D sc σ (.Name x pos) v σ:=fun A env ρ s he _ hs=>by
 subst he
 refine Mk ?_ hd
 rw[ND hs.er.kind hx]
 unfold loadGlobal
 rw[hs.er.glob,hs.er.blt]
 refine J7 ((M8 hs.k hn).here ?_)
 refine J7 ((M8 hs.k hy).here ?_)
 exact Kb ⟨ρ,hv ρ,hs,Go.refl ..⟩
noncomputable def kE:Expr->List Expr×Pos×List NE×Option Scope×Nat×Str
 | .BinOp l _ r p=>([l,r],p,[],none,0,"")
 | .Compare l _ rs p=>(l::rs,p,[],none,0,"")
 | .Subscript o i p=>([o,i],p,[],none,0,"")
 | .Slice lo hi st p=>(st.toList++(lo.toList++hi.toList),p,[],none,0,"")
 | .Call f as _ p=>(f::as,p,[],none,0,"")
 | .Attribute o _ p=>([o],p,[],none,0,"")
 | .Name _ p=>([],p,[],none,0,"")
 | .List es p=>(es,p,[],none,0,"")
 | .Tuple es k p=>(es,p,[],none,k,"")
 | .BoolOp _ es p=>(es,p,[],none,0,"")
 | .UnaryOp _ e p=>([e],p,[],none,0,"")
 | .ListComp e gs sc p=>([e],p,gs,some sc,0,"")
 | .GeneratorExp e gs sc p=>([e],p,gs,some sc,0,"")
 | .Constant (.str s) k p=>([],p,[],none,k,s)
 | _=>([],default,[],none,0,"")
noncomputable def kS:Kz->List Expr×List Pos×List (List Kz)×Option (NJ×Scope)
 | .For t i b e p=>([i,t],[p],[b,e],none)
 | .While t b e p=>([t],[p],[b,e],none)
 | .If t b e p=>([t],[p],[b,e],none)
 | .Assign ts e p=>(e::ts,[p],[],none)
 | .AugAssign t _ e p=>([e,t],[p],[],none)
 | .Expr e p=>([e],[p],[],none)
 | .Return e p=>(e.toList,[p],[],none)
 | .Raise e _ p=>(e.toList,[p],[],none)
 | .Delete ts p=>(ts,[p],[],none)
 | .Break p=>([],[p],[],none)
 | .Try b (.ExceptHandler t _ b' p'::_) _ _ p=>(t.toList,[p,p'],[b,b'],none)
 | .FunctionDef _ a b _ _ _ s _ _ p=>([],[p],[b],some (a,s))
 | .ClassDef _ _ _ b _ _ _ _ _ _ p=>([],[p],[b],none)
 | _=>([],[],[],none)
noncomputable def eN (k:Nat) (e:Expr):Expr:=(kE e).1.getD k default
noncomputable def eP (e:Expr):Pos:=(kE e).2.1
noncomputable def ag (e:Expr):NE:=(kE e).2.2.1.getD 0 ⟨default,default,[],0⟩
noncomputable def cSc (s:Scope) (e:Expr):Scope:=(kE e).2.2.2.1.getD s
noncomputable def kH (e:Expr):List Expr:=(kE e).1
noncomputable def jw (e:Expr):Nat:=(kE e).2.2.2.2.1
noncomputable def tH (e:Expr):Str:=(kE e).2.2.2.2.2
noncomputable def sN (k:Nat) (s:Kz):Expr:=(kS s).1.getD k default
noncomputable def sP (s:Kz):Pos:=(kS s).2.1.getD 0 default
noncomputable def FQ (s:Kz):Pos:=(kS s).2.1.getD 1 default
noncomputable def bN (k:Nat) (s:Kz):List Kz:=(kS s).2.2.1.getD k []
noncomputable def af (s:Kz):List Kz:=bN 0 s
noncomputable def bz (s:Kz):List Kz:=bN 1 s
noncomputable def Db (e:Expr):Expr:=eN 0 (eN 1 e)
noncomputable def Ga (e:Expr):Pos:=eP (eN 1 e)
noncomputable def J1 (e:Expr):Expr:=eN 0 (eN 0 e)
noncomputable def JF (e:Expr):Pos:=eP (eN 0 e)
noncomputable def nN (s:Kz):Pos:=eP (sN 1 s)
noncomputable def F4 (s:Kz):NJ×List Kz×Scope:=(((kS s).2.2.2.getD default).1,af s,((kS s).2.2.2.getD default).2)
noncomputable def put:List (Str×V)->Str->V->List (Str×V)
 | [],x,v=>[(x,v)]
 | (y,u)::r,x,v=>if x==y then(x,v)::r else(y,u)::put r x v
theorem ee (y x:Str) (u v:V) (r:List (Str×V)):put ((y,u)::r) x v=if x==y then(x,v)::r else(y,u)::put r x v:=rfl
theorem bh {x:Option α} {f:α->Bool} (h:x.any f=true):∃a,x=some a/\f a=true:=by
 cases x with
 | none=>exact nB h
 | some a=>exact⟨a,rfl,h⟩
theorem cW (l:List (Str×V)) (x:Str) (v:V) (y:Str):(put l x v).lookup y=if y=x then some v else l.lookup y:=by
 induction l with
 | nil=>
  show(match y==x with | true=>some v | false=>none)=_
  by_cases h:y=x
  .subst h;simp
  .simp[h,beq_eq_false_iff_ne.mpr h]
 | cons p r ih=>
  obtain⟨z,u⟩:=p
  rw[ee]
  by_cases hz:x=z
  .subst hz
   simp only[beq_self_eq_true,if_true,K1]
   by_cases h:y=x
   .subst h;simp
   .simp[h,beq_eq_false_iff_ne.mpr h]
  .simp only[beq_eq_false_iff_ne.mpr hz,LJ,if_false,K1]
   by_cases h:y=z
   .subst h;simp[MK hz]
   .simp only[beq_eq_false_iff_ne.mpr h];exact ih
theorem HR.other (x:HR P ρ os h) (hs:Lb a h h') (ha:a∉ρ):HR P ρ os h':=
 ⟨x.len,x.nd,fun b hb=>⟨(x.hi b hb).1,let⟨ob,e⟩:=(x.hi b hb).2;⟨ob,(hs.2 b fun q=>ha (q▸hb)).trans e⟩⟩,fun i o b h1 h2=>(x.ob i o b h1 h2).imp id fun⟨ob,e,r⟩=>
  ⟨ob,(hs.2 b fun q=>ha (q▸Kq h2)).trans e,r⟩⟩
theorem oX {c:Kj} (h:env.cells.lookup x=some c):c∈own env:=KO _ (List.mem_map.mpr ⟨(x,c),mem_of_lookup h,rfl⟩)
theorem xI {tk:Nat} (ha:a∈own env) (hs:Lb a s.heap h') (ho:h'.get? a=some o'):Go (own env) ρ s ρ { s with heap:=h',toks:=tk }:=
 .of ⟨[],(KZ _).symm,fun _ h=>(nomatch h)⟩ (fun b o e _ h2=>(hs.2 b fun q=>h2 (q▸ha)).trans e) (fun b o e=>cO hs ho e) rfl rfl
theorem pV {Q:Unit->Kl->Prop} (hs:St g env σ ρ s) (hx:env.scope.names.lookup x=some .local) (hv:RelV ρ v y)
  (k:∀s',St g env ⟨σ.os,put σ.loc x v⟩ ρ s'->Go (own env) ρ s ρ s'->Q () s'):J6 (Kx PW g.w) A (storeName env x y) Q E s:=by
 obtain⟨m,hm,hl⟩:=hs.er.loc
 refine wpAny_storeName_local hx hm (fun h' hn hb=>k _ ⟨hs.hr.other hb hs.er.low.2,⟨hs.er.glob,hs.er.blt,hs.er.kind,⟨_,hn,fun z hz=>?_⟩,fun z hz=>?_,hs.er.low,fun p hp=>?_,hs.er.capart⟩,fun a o e=>?_⟩ (let⟨_,_,_,e,_⟩:=hn;xI (.head _) hb e)) (by rw[hs.er.kind];rfl)
 .rw[cW]
  by_cases e:z=x
  .subst e;simp only[if_true];exact hv
  .simp only[e,if_false];exact hl z hz
 .obtain⟨c,o,h1,h2,h3⟩:=hs.er.cell z hz
  refine⟨c,o,h1,h2.sameBut hb (hs.er.clow _ (mem_of_lookup h1)).2.2.2,?_⟩
  rw[cW]
  have:z≠x:=by
   rintro rfl
   rcases hz with h | h <;> (rw[show env.kindOf z=env.scope.names.lookup z from rfl,hx] at h;cases h)
  simp only[this,if_false];exact h3
 .obtain⟨a1,⟨ob,a2⟩,a3,a4⟩:=hs.er.clow p hp
  exact⟨a1,⟨ob,(hb.2 _ a4).trans a2⟩,a3,a4⟩
 .exact(hb.2 a fun q=>absurd (g.low a o e) (Nat.not_lt.mpr (q▸hs.er.low.1))).trans (hs.k a o e)
theorem qY {Q:Unit->Kl->Prop} (hs:St g env σ ρ s) (hx:env.scope.names.lookup x=some .cell) (hv:RelV ρ v y)
  (k:∀s',St g env ⟨σ.os,put σ.loc x v⟩ ρ s'->Go (own env) ρ s ρ s'->Q () s'):J6 (Kx PW g.w) A (storeName env x y) Q E s:=by
 obtain⟨c,o,h1,h2,h3⟩:=hs.er.cell x (.inl hx)
 obtain⟨m,hm,hl⟩:=hs.er.loc
 have cl:=hs.er.clow _ (mem_of_lookup h1)
 refine wpAny_storeName_cell hs.er.kind hx h1 h2 fun h' hn hb=>k _ ⟨hs.hr.other hb cl.2.2.1,⟨hs.er.glob,hs.er.blt,hs.er.kind,⟨m,hm.sameBut hb (MK cl.2.2.2),fun z hz=>?_⟩,fun z hz=>?_,hs.er.low,fun p hp=>?_,hs.er.capart⟩,fun a o e=>?_⟩ (let⟨_,e,_⟩:=hn;xI (oX h1) hb e)
 .rw[cW]
  have:z≠x:=by
   rintro rfl
   rw[show env.kindOf z=env.scope.names.lookup z from rfl,hx] at hz;cases hz
  simp only[this,if_false];exact hl z hz
 .rw[cW]
  by_cases e:z=x
  .subst e;simp only[if_true];exact⟨c,_,h1,hn,hv⟩
  .simp only[e,if_false]
   obtain⟨c',o',a1,a2,a3⟩:=hs.er.cell z hz
   exact⟨c',o',a1,a2.sameBut hb fun q=>e (hs.er.capart z x c' (mem_of_lookup a1) (q▸mem_of_lookup h1)),a3⟩
 .obtain⟨a1,⟨ob,a2⟩,a3,a4⟩:=hs.er.clow p hp
  exact⟨a1,let⟨_,e,_⟩:=hn;cO hb e a2,a3,a4⟩
 .exact(hb.2 a fun q=>absurd (g.low a o e) (Nat.not_lt.mpr (q▸cl.1))).trans (hs.k a o e)
noncomputable def aK (sc:Scope) (x:Str):Prop:=sc.names.lookup x=some .local\/sc.names.lookup x=some .cell
theorem dI {Q:Unit->Kl->Prop} (hs:St g env σ ρ s) (hx:aK env.scope x) (hv:RelV ρ v y)
  (k:∀s',St g env ⟨σ.os,put σ.loc x v⟩ ρ s'->Go (own env) ρ s ρ s'->Q () s'):J6 (Kx PW g.w) A (storeName env x y) Q E s:=
 hx.elim (fun h=>pV hs h hv k) fun h=>qY hs h hv k
theorem Exs.nil:Exs g D sc σ [] .next σ:=fun A env ρ s _ _ hs=>wpAny_execs_nil ⟨ρ,rfl,hs,Go.refl ..⟩
theorem Exs.cons {st:Kz} {r:List Kz} (h:Ex g D sc σ st .next σ₁) (k:Exs g D sc σ₁ r f σ₂):Exs g D sc σ (st::r) f σ₂:=fun A env ρ s he hr hs=>
 LN (h.use he hr hs fun x s1 ρ1 e st1 g1=>by
  obtain rfl:x=.next:=e
  exact k.use he hr st1 fun y s2 ρ2 r2 st2 g2=>⟨ρ2,r2,st2,g1.trans g2⟩)
theorem Exs.stop {st:Kz} {r:List Kz} (h:Ex g D sc σ st f σ₁) (hf:f≠.next):Exs g D sc σ (st::r) f σ₁:=fun A env ρ s he hr hs=>
 LN (h.use he hr hs fun x s1 ρ1 e st1 g1=>by
  cases f with
  | next=>exact absurd rfl hf
  | brk=>obtain rfl:x=.brk:=e;exact⟨ρ1,rfl,st1,g1⟩
  | cont=>obtain rfl:x=.cont:=e;exact⟨ρ1,rfl,st1,g1⟩
  | ret v=>obtain⟨y,rfl,hy⟩:=e;exact⟨ρ1,⟨y,rfl,hy⟩,st1,g1⟩)
theorem Ex.pass:Ex g D sc σ (.Pass pos) .next σ:=fun A env ρ s _ _ hs=>wpAny_Pass ⟨ρ,rfl,hs,Go.refl ..⟩
theorem Ex.brk:Ex g D sc σ (.Break pos) .brk σ:=fun A env ρ s _ _ hs=>wpAny_Break ⟨ρ,rfl,hs,Go.refl ..⟩
theorem Ex.cont:Ex g D sc σ (.Continue pos) .cont σ:=fun A env ρ s _ _ hs=>wpAny_Continue ⟨ρ,rfl,hs,Go.refl ..⟩
theorem Ex.ret (h:Ev g D sc σ e v σ₁):Ex g D sc σ (.Return (some e) pos) (.ret v) σ₁:=fun A env ρ s he hr hs=>
 Ny (h.use he hr hs fun x s1 ρ1 r st1 g1=>⟨ρ1,⟨x,rfl,r⟩,st1,g1⟩)
theorem Ex.iteT {t:Expr} {b o:List Kz} (h:Tr g D sc σ t true σ₁) (k:Exs g D sc σ₁ b f σ₂):Ex g D sc σ (.If t b o pos) f σ₂:=fun A env ρ s he hr hs=>
 wpAny_If (h.use he hr hs fun x s1 ρ1 e st1 g1=>by
  obtain rfl:x=true:=e
  exact k.use he hr st1 fun y s2 ρ2 r2 st2 g2=>⟨ρ2,r2,st2,g1.trans g2⟩)
theorem Ex.iteF {t:Expr} {b o:List Kz} (h:Tr g D sc σ t false σ₁) (k:Exs g D sc σ₁ o f σ₂):Ex g D sc σ (.If t b o pos) f σ₂:=fun A env ρ s he hr hs=>
 wpAny_If (h.use he hr hs fun x s1 ρ1 e st1 g1=>by
  obtain rfl:x=false:=e
  exact k.use he hr st1 fun y s2 ρ2 r2 st2 g2=>⟨ρ2,r2,st2,g1.trans g2⟩)
noncomputable def cX:Expr->Bool
 | .ListComp .. | .SetComp .. | .DictComp ..=>false
 | _=>true
theorem ce (h:cX e=true) (t:Option Expr) (n:Nat) (env:Env):swapsWith e t n env=pure false:=by
 cases e <;> first | rfl | exact nB h
theorem Ex.assign {px pos:Pos} (h:Ev g D sc σ e v σ₁) (hx:aK sc x) (hp:cX e=true:=by rfl):Ex g D sc σ (.Assign [.Name x px] e pos) .next ⟨σ₁.os,put σ₁.loc x v⟩:=fun A env ρ s he hr hs=>by
 subst he
 exact Nz (h.use rfl hr hs fun y s1 ρ1 r st1 g1=>dI st1 hx r fun s' st' g'=>⟨ρ1,rfl,st',g1.trans g'⟩) (ce hp _ _ _)
noncomputable def bn (g:G) (D:Nat) (op:MF) (a b:V) (os:List O) (v:V) (os':List O):Prop:=∀ρ x y,RelV ρ a x->RelV ρ b y->Lf g D os ρ (binaryOp op x y) (fun ρ' z=>RelV ρ' v z) os'
noncomputable def ak (g:G) (D:Nat) (op:CmpOp) (a b:V) (os:List O) (r:V) (os':List O):Prop:=∀ρ x y,RelV ρ a x->RelV ρ b y->Lf g D os ρ (compareOp op x y) (fun ρ' z=>RelV ρ' r z) os'
noncomputable def bV (g:G) (D:Nat) (a:V) (os:List O) (r:Bool) (os':List O):Prop:=∀ρ x,RelV ρ a x->Lf g D os ρ (truthy x) (fun _ z=>z=r) os'
theorem RelV.go {ow:List Kj} {x:Kd} (h:RelV ρ v x) (y:Go ow ρ s ρ' s'):RelV ρ' v x:=by
 obtain⟨ν,e,_⟩:=y.pre
 exact e▸h.mono
theorem Ev.bin {l r:Expr} {op:MF} {a b:V} (h1:Ev g D sc σ l a σ₁) (h2:Ev g D sc σ₁ r b σ₂) (h3:bn g D op a b σ₂.os v os'):Ev g D sc σ (.BinOp l op r pos) v ⟨os',σ₂.loc⟩:=fun A env ρ s he hr hs=>
 wpAny_BinOp (h1.use he hr hs fun x s1 ρ1 rx st1 g1=>h2.use he hr st1 fun y s2 ρ2 ry st2 g2=>(h3 ρ2 x y (rx.go g2) ry).use hr st2 fun z s3 ρ3 rz st₃ g3=>⟨ρ3,rz,st₃,(g1.trans g2).trans g3⟩)
theorem Ev.cmp {l r:Expr} {pos:Pos} {a b c:V} (h1:Ev g D sc σ l a σ₁) (h2:Ev g D sc σ₁ r b σ₂) (h3:ak g D op a b σ₂.os c os') (hm:MT op r=false:=by with_unfolding_all rfl):Ev g D sc σ (.Compare l [op] [r] pos) c ⟨os',σ₂.loc⟩:=fun A env ρ s he hr hs=>
 wpAny_Compare1 (h1.use he hr hs fun x s1 ρ1 rx st1 g1=>h2.use he hr st1 fun y s2 ρ2 ry st2 g2=>(h3 ρ2 x y (rx.go g2) ry).use hr st2 fun z s3 ρ3 rz st₃ g3=>⟨ρ3,rz,st₃,(g1.trans g2).trans g3⟩) hm
theorem Tr.cmp {l r:Expr} {pos:Pos} {a b:V} {c:Bool} (h1:Ev g D sc σ l a σ₁) (h2:Ev g D sc σ₁ r b σ₂) (h3:ak g D op a b σ₂.os (.bool c) os') (hm:MT op r=false:=by with_unfolding_all rfl):Tr g D sc σ (.Compare l [op] [r] pos) c ⟨os',σ₂.loc⟩:=fun A env ρ s he hr hs=>
 NI (h1.use he hr hs fun x s1 ρ1 rx st1 g1=>h2.use he hr st1 fun y s2 ρ2 ry st2 g2=>(h3 ρ2 x y (rx.go g2) ry).use hr st2 fun z s3 ρ3 rz st₃ g3=>by
  obtain rfl:z=.bool c:=rz
  exact Nw ⟨ρ3,rfl,st₃,(g1.trans g2).trans g3⟩) hm
theorem Tr.not {pos:Pos} {b c:Bool} (h:Tr g D sc σ e b σ₁) (hc:(!b)=c:=by rfl):Tr g D sc σ (.UnaryOp .Not e pos) c σ₁:=fun A env ρ s he hr hs=>
 wpAny_isTrue_Not (h.use he hr hs fun x s1 ρ1 r st1 g1=>⟨ρ1,by rw[show x=b from r,hc],st1,g1⟩)
noncomputable def oO:Expr->Bool
 | .UnaryOp .Not .. | .BoolOp .. | .IfExp .. | .Compare ..=>false
 | _=>true
theorem m9 (h:oO e=true) (env:Env) (whole:Sem Kd):isTrue e env whole=(do let v <- whole;K8 e.pos;K3 [v] (truthy v)):=by
 cases e with
 | UnaryOp op x p=>cases op <;> first | rfl | exact nB h
 | BoolOp=>exact nB h
 | IfExp=>exact nB h
 | Compare=>exact nB h
 | _=>rfl
theorem Tr.val {a:V} {c:Bool} (h:Ev g D sc σ e a σ₁) (k:bV g D a σ₁.os c os') (hp:oO e=true:=by rfl):Tr g D sc σ e c ⟨os',σ₁.loc⟩:=fun A env ρ s he hr hs=>by
 show J6 _ _ (isTrue e env (KP e env)) _ _ _
 rw[m9 hp]
 exact J7 (h.use he hr hs fun x s1 ρ1 rx st1 g1=>J7 (KT (KQ ((k ρ1 x rx).use hr st1 fun z s2 ρ2 rz st2 g2=>⟨ρ2,rz,st2,g1.trans g2⟩))))
noncomputable def bQ (g:G) (D:Nat) (sc:Scope) (σ:S) (op:BoolOp) (es:List Expr) (b:Bool) (σ':S):Prop:=aP g D sc σ (fun env=>allTrue op es env) (fun _ x=>x=b) σ'
theorem Tr.boolop {op:BoolOp} {es:List Expr} {b:Bool} (h:bQ g D sc σ op es b σ₁):Tr g D sc σ (.BoolOp op es pos) b σ₁:=fun A env ρ s he hr hs=>wpAny_isTrue_BoolOp (h A env ρ s he hr hs)
theorem bQ.andNil:bQ g D sc σ .And [] true σ:=fun A env ρ s _ _ hs=>wpAny_allTrue_And_nil ⟨ρ,rfl,hs,Go.refl ..⟩
theorem bQ.orNil:bQ g D sc σ .Or [] false σ:=fun A env ρ s _ _ hs=>wpAny_allTrue_Or_nil ⟨ρ,rfl,hs,Go.refl ..⟩
theorem bQ.andT {r:List Expr} {b:Bool} (h:Tr g D sc σ e true σ₁) (k:bQ g D sc σ₁ .And r b σ₂):bQ g D sc σ .And (e::r) b σ₂:=fun A env ρ s he hr hs=>
 wpAny_allTrue_And_cons (h.use he hr hs fun x s1 ρ1 e1 st1 g1=>by
  obtain rfl:x=true:=e1
  exact k.use he hr st1 fun y s2 ρ2 r2 st2 g2=>⟨ρ2,r2,st2,g1.trans g2⟩)
theorem bQ.andF {r:List Expr} (h:Tr g D sc σ e false σ₁):bQ g D sc σ .And (e::r) false σ₁:=fun A env ρ s he hr hs=>
 wpAny_allTrue_And_cons (h.use he hr hs fun x s1 ρ1 e1 st1 g1=>by
  obtain rfl:x=false:=e1
  exact⟨ρ1,rfl,st1,g1⟩)
theorem bQ.orT {r:List Expr} (h:Tr g D sc σ e true σ₁):bQ g D sc σ .Or (e::r) true σ₁:=fun A env ρ s he hr hs=>
 MD (h.use he hr hs fun x s1 ρ1 e1 st1 g1=>by
  obtain rfl:x=true:=e1
  exact⟨ρ1,rfl,st1,g1⟩)
theorem bQ.orF {r:List Expr} {b:Bool} (h:Tr g D sc σ e false σ₁) (k:bQ g D sc σ₁ .Or r b σ₂):bQ g D sc σ .Or (e::r) b σ₂:=fun A env ρ s he hr hs=>
 MD (h.use he hr hs fun x s1 ρ1 e1 st1 g1=>by
  obtain rfl:x=false:=e1
  exact k.use he hr st1 fun y s2 ρ2 r2 st2 g2=>⟨ρ2,r2,st2,g1.trans g2⟩)
theorem Lf.tok {os:List O} {t:Sem α} (h:∀A s,aB D A->J6 (Kx PW g.w) A t (fun x s'=>R ρ x/\∃tk,s'={ s with toks:=tk }) (fun _ _=>False) s):Lf g D os ρ t R os:=
 Lf.pure fun A s hr _ _=>Kr (h A s hr) (fun x s' ⟨r,tk,e⟩=>⟨r,by rw[e],by rw[e],by rw[e]⟩) fun _ _ z=>z
theorem bn.add {a b:Int}:bn g D .Add (.int a) (.int b) os (.int (a + b)) os:=fun ρ x y hx hy=>by
 obtain⟨t,rfl⟩:=hx;obtain⟨u,rfl⟩:=hy
 exact Lf.tok fun A s _=>PyProof.Rows.add_int ⟨⟨_,rfl⟩,_,rfl⟩
theorem bn.sub {a b:Int}:bn g D .Sub (.int a) (.int b) os (.int (a - b)) os:=fun ρ x y hx hy=>by
 obtain⟨t,rfl⟩:=hx;obtain⟨u,rfl⟩:=hy
 exact Lf.tok fun A s _=>PyProof.Rows.sub_int ⟨⟨_,rfl⟩,_,rfl⟩
theorem ak.eqS {a b:Str}:ak g D .Eq (.str a) (.str b) os (.bool (a==b)) os:=fun ρ x y hx hy=>by
 obtain⟨t,rfl⟩:=hx;obtain⟨u,rfl⟩:=hy
 exact Lf.tok fun A s _=>PyProof.Rows.eq_str ⟨rfl,s.toks,rfl⟩
theorem ak.eqI {a b:Int}:ak g D .Eq (.int a) (.int b) os (.bool (a==b)) os:=fun ρ x y hx hy=>by
 obtain⟨t,rfl⟩:=hx;obtain⟨u,rfl⟩:=hy
 exact Lf.tok fun A s _=>PyProof.Rows.eq_int ⟨rfl,s.toks,rfl⟩
theorem ak.ltI {a b:Int}:ak g D .Lt (.int a) (.int b) os (.bool (decide (a < b))) os:=fun ρ x y hx hy=>by
 obtain⟨t,rfl⟩:=hx;obtain⟨u,rfl⟩:=hy
 exact Lf.tok fun A s _=>PyProof.Rows.lt_int ⟨rfl,s.toks,rfl⟩
theorem ak.gtI {a b:Int}:ak g D .Gt (.int a) (.int b) os (.bool (decide (b < a))) os:=fun ρ x y hx hy=>by
 obtain⟨t,rfl⟩:=hx;obtain⟨u,rfl⟩:=hy
 exact Lf.tok fun A s _=>PyProof.Rows.gt_int ⟨rfl,s.toks,rfl⟩
theorem bV.str {a:Str} (h:(a.length:Int) < 2 ^ 63):bV g D (.str a) os ((a.length:Int) !=0) os:=fun ρ x hx=>by
 obtain⟨t,rfl⟩:=hx
 exact Lf.tok fun A s _=>PyProof.Rows.SBL.truthy (by lia) ⟨rfl,_,rfl⟩
theorem bV.int {a:Int}:bV g D (.int a) os (a !=0) os:=fun ρ x hx=>by
 obtain⟨t,rfl⟩:=hx
 exact Lf.tok fun A s _=>PyProof.Rows.truthy_int ⟨rfl,s.toks,rfl⟩
theorem bd {f:Kd} {first:List Kd} {args:List (Bool×Sem Kd)} {kws:List (Option Str×Sem Kd)}
  (h:J6 M A (evalArgs f true args kws) (fun a s1=>J6 M A (keeperOf f) (fun _ s2=>J6 M A (call f (first++a.pos) a.kw) Q E s2) E s1) E s) :
  J6 M A (callWith pos f first args kws) Q E s:=by
 unfold callWith
 refine J7 (KQ (Kr h (fun x s1 h1=>J7 (KT ?_)) fun _ _ x=>x))
 have tail:∀{t:Sem Kd} {s2:Kl},J6 M A t Q E s2->J6 M A (t >>=fun r=>K3 [r] point >>=fun _=>pure r) Q E s2:=
  fun ht=>J7 (Kr ht (fun r s2 hr=>J7 (KQ (wpAny_point (Kb hr)))) fun _ _ x=>x)
 have mk:∀{m:Kd} {s2:Kl},J6 M A (call f (first++x.pos) x.kw) Q E s2->J6 M A (callMarked m f (first++x.pos) x.kw) Q E s2:=fun h=>by unfold callMarked;exact Calls.wpAny_keep h
 cases hs:(args.any (·.1)||kws.any (·.1.isNone)) <;> refine J7 (m:=keeperOf f) (Kr h1 (fun k s2 h2=>?_) fun _ _ x=>x) <;> cases k <;>
  first
  | exact tail h2
  | exact tail (mk h2)
  | exact tail (wpAny_operating h2)
  | (refine wpAny_ite ?_;split <;> first | exact tail h2 | exact tail (mk h2))
  | (split <;> first | exact tail h2 | exact tail (mk h2) | exact tail (wpAny_operating h2))
theorem bc {f:Kd} {args:List (Bool×Sem Kd)} {kws:List (Option Str×Sem Kd)} {Q:Args->Kl->Prop} (hp:args.any (·.1)=false) (hall:kws.all (·.1.isSome)=true)
  (h:J6 M A (spliced args) (fun vs s1=>J6 M A (evalAll (kws.map (·.2))) (fun ks s2=>Q ⟨vs,(kws.filterMap (·.1)).zip ks⟩ s2) E s1) E s):J6 M A (evalArgs f true args kws) Q E s:=by
 cases args with
 | nil=>
  unfold evalArgs
  show J6 M A (spliced [] >>=_) Q E s
  refine J7 (Kr h (fun vs s1 h1=>?_) fun _ _ x=>x)
  refine J7 (Kb ?_)
  refine KQ ?_
  simp only[hall,if_true]
  refine J7 (Kr h1 (fun ks s2 h2=>?_) fun _ _ x=>x)
  exact J7 (Kb (Kb h2))
 | cons x r=>
  obtain⟨b,t⟩:=x
  cases b with
  | true=>simp at hp
  | false=>exact evalArgs_kw hall h
noncomputable def dO:Expr->Bool
 | .Starred ..=>false
 | _=>true
noncomputable def aW (es:List Expr):Bool:=es.all dO
theorem nn {r:List Expr} (h:dO e=true):starEach (e::r) env=(false,KP e env)::starEach r env:=by cases e <;> first | rfl | exact nB h
theorem aF {es:List Expr} (h:aW es=true):starEach es env=es.map fun e=>(false,KP e env):=by
 induction es with
 | nil=>rfl
 | cons e r ih=>
  obtain⟨h1,h2⟩:=Bool.and_eq_true_iff.mp h
  rw[nn h1,ih h2]
  rfl
theorem aO (es:List Expr):backTo pos (es.map fun e=>(false,KP e env))=es.map fun e=>(false,KP e env):=by
 unfold backTo
 rw[LU]
 rfl
noncomputable def bU (g:G) (D:Nat) (sc:Scope) (σ:S) (es:List Expr) (vs:List V) (σ':S):Prop:=aP g D sc σ (fun env=>spliced (es.map fun e=>(false,KP e env))) (fun ρ xs=>ae (RelV ρ) vs xs) σ'
theorem bU.nil:bU g D sc σ [] [] σ:=fun A env ρ s _ _ hs=>spliced_nil ⟨ρ,.nil,hs,Go.refl ..⟩
theorem bU.cons {r:List Expr} {vs:List V} (h:Ev g D sc σ e v σ₁) (k:bU g D sc σ₁ r vs σ₂):bU g D sc σ (e::r) (v::vs) σ₂:=fun A env ρ s he hr hs=>
 NQ (h.use he hr hs fun x s1 ρ1 rx st1 g1=>k.use he hr st1 fun xs s2 ρ2 rs st2 g2=>⟨ρ2,.cons (rx.go g2) rs,st2,g1.trans g2⟩)
noncomputable def dC (g:G) (D:Nat) (sc:Scope) (σ:S) (pos:Pos) (ks:List Mv) (vs:List V) (σ':S):Prop:=aP g D sc σ (fun env=>evalAll ((Nl pos (MH ks env)).map (·.2))) (fun ρ xs=>ae (RelV ρ) vs xs) σ'
theorem dC.nil:dC g D sc σ pos [] [] σ:=fun A env ρ s _ _ hs=>kwAll_nil ⟨ρ,.nil,hs,Go.refl ..⟩
theorem dC.cons {n:Str} {p:Pos} {r:List Mv} {vs:List V} (h:Ev g D sc σ e v σ₁) (k:dC g D sc σ₁ pos r vs σ₂):dC g D sc σ pos (⟨some n,e,p⟩::r) (v::vs) σ₂:=fun A env ρ s he hr hs=>
 kwAll_cons (h.use he hr hs fun x s1 ρ1 rx st1 g1=>k.use he hr st1 fun xs s2 ρ2 rs st2 g2=>⟨ρ2,.cons (rx.go g2) rs,st2,g1.trans g2⟩)
noncomputable def Kp (g:G) (os:List O) (f:V):Prop:=∀(A:Lj) (ρ:List Kj) (s:Kl) (x:Kd) (Q:Keeper->Kl->Prop) (E:Kd->Kl->Prop),RelV ρ f x->HR g.w.params ρ os s.heap->g.K.In s.heap->(∀k,Q k s)->J6 (Kx PW g.w) A (keeperOf x) Q E s
theorem Kp.def_ {od:Option Kj} {fd:KN} (h:g.K.lookup a=some ⟨oc,od,.func fd,sl⟩):Kp g os (.top (.ref a)):=fun A ρ s x Q E hx hh hk q=>by
 obtain rfl:x=.ref a:=hx
 unfold keeperOf
 exact J7 (LA (hk _ _ h) (Kb (q _)))
theorem Kp.blt {id:String}:Kp g os (.top (.builtin id)):=fun A ρ s x Q E hx hh hk q=>by
 obtain rfl:x=.builtin id:=hx
 exact Kb (q _)
theorem Kp.typ {id:String}:Kp g os (.top (.type id)):=fun A ρ s x Q E hx hh hk q=>by
 obtain rfl:x=.type id:=hx
 exact Kb (q _)
noncomputable def Cl (g:G) (D:Nat) (f:V) (args:List V) (kw:List (Str×V)) (os:List O) (v:V) (os':List O):Prop:=
 ∀ρ x xs ks,RelV ρ f x->ae (RelV ρ) args xs->ae (RelV ρ) (kw.map (·.2)) ks->Lf g D os ρ (call x xs ((kw.map (·.1)).zip ks)) (fun ρ' z=>RelV ρ' v z) os'
theorem ae.go {ow:List Kj} {vs:List V} {xs:List Kd} (h:ae (RelV ρ) vs xs) (y:Go ow ρ s ρ' s'):ae (RelV ρ') vs xs:=h.mono fun _ _ z=>z.go y
noncomputable def gm:Expr->Bool
 | .Attribute ..=>false
 | _=>true
theorem fK (h:gm func=true) (args:List Expr) (kws:List Mv) (pos:Pos) (env:Env) :
  KP (.Call func args kws pos) env=(do callWith pos (<- KP func env) [] (backTo pos (starEach args env)) (Nl pos (MH kws env))):=by
 cases func <;> first | rfl | exact nB h
noncomputable def kwNames:List Mv->List Str
 | []=>[]
 | ⟨some n,_,_⟩::r=>n::kwNames r
 | ⟨none,_,_⟩::r=>kwNames r
noncomputable def bO (ks:List Mv):Bool:=ks.all (·.arg.isSome)
theorem cV {pos:Pos} {env:Env}:∀{ks:List Mv},(Nl pos (MH ks env)).filterMap (·.1)=kwNames ks
 | []=>rfl
 | ⟨some n,_,_⟩::r=>by
  show n::(Nl pos (MH r env)).filterMap (·.1)=_
  rw[cV (ks:=r)];rfl
 | ⟨none,_,_⟩::r=>cV (ks:=r)
theorem bD {pos:Pos} {env:Env}:∀{ks:List Mv},bO ks=true->(Nl pos (MH ks env)).all (·.1.isSome)=true
 | [],_=>rfl
 | ⟨some n,_,_⟩::r,h=>by
  show(true&&(Nl pos (MH r env)).all (·.1.isSome))=true
  rw[bD (ks:=r) (by simpa [bO] using h)];rfl
 | ⟨none,_,_⟩::r,h=>by simp[bO] at h
theorem bM (es:List Expr):(es.map fun e=>(false,KP e env)).any (·.1)=false:=by
 induction es with
 | nil=>rfl
 | cons e r ih=>simpa using ih
theorem da {ns:List Str} {vs:List V} (h:ns.length=vs.length):(ns.zip vs).map (·.1)=ns/\(ns.zip vs).map (·.2)=vs:=⟨List.map_fst_zip (MM h),List.map_snd_zip (MM h.symm)⟩
theorem Ev.call {args:List Expr} {f:V} {vs:List V} (hf:Ev g D sc σ func f σ₁) (ha:bU g D sc σ₁ args vs σ₂) (hk:dC g D sc σ₂ pos kws kvs σ₃) (kp:Kp g σ₃.os f)
  (c:Cl g D f vs ((kwNames kws).zip kvs) σ₃.os v os') (h1:gm func=true:=by rfl) (h2:aW args=true:=by rfl) (h3:bO kws=true:=by rfl) (h4:(kwNames kws).length=kvs.length:=by rfl) :
  Ev g D sc σ (.Call func args kws pos) v ⟨os',σ₃.loc⟩:=fun A env ρ s he hr hs=>by
 show J6 _ _ (KP (.Call func args kws pos) env) _ _ _
 rw[fK h1,aF h2,aO]
 refine J7 (hf.use he hr hs fun x s1 ρ1 rx st1 g1=>bd (bc (bM _) (bD h3) (ha.use he hr st1 fun xs s2 ρ2 rs st2 g2=>hk.use he hr st2 fun ys s3 ρ3 ry st₃ g3=>?_)))
 refine kp A ρ3 s3 x _ _ ((rx.go g2).go g3) st₃.hr st₃.k fun k=>?_
 have z:=c ρ3 x xs ys ((rx.go g2).go g3) (rs.go g3) (by rw[(da h4).2];exact ry)
 rw[(da h4).1] at z
 rw[cV,Ng]
 exact z.use hr st₃ fun w s4 ρ4 rw st4 g4=>⟨ρ4,rw,st4,((g1.trans g2).trans g3).trans g4⟩
noncomputable def ch (ρ:List Kj) (a:Str×V) (b:Str×Kd):Prop:=a.1=b.1/\RelV ρ a.2 b.2
theorem gY (h:ae (ch ρ) bs cs) (nd:(bs.map (·.1)).Nodup) (m:Str->Option Kd) (x:Str) (hk:kd x=some .local) :
  (bs.lookup x=none/\bindL kd cs m x=m x)\/∃v y,bs.lookup x=some v/\bindL kd cs m x=some y/\RelV ρ v y:=by
 induction h generalizing m with
 | nil=>exact .inl ⟨rfl,rfl⟩
 | @cons a b r r' e hr ih=>
  have e1:b.1=a.1:=e.1.symm
  rw[K6,KW] at nd
  by_cases hx:x=a.1
  .refine .inr ⟨a.2,b.2,by rw[K1,beq_iff_eq.mpr hx],?_,e.2⟩
   unfold bindL
   rw[e1,<- hx,if_pos hk]
   rcases ih nd.2 (fun z=>if z=x then some b.2 else m z) with⟨_,q⟩ | ⟨v',y',q,_,_⟩
   .rw[q,if_pos rfl]
   .exact absurd (List.mem_map.mpr ⟨(x,v'),mem_of_lookup q,hx⟩) nd.1
  .rw[K1,beq_eq_false_iff_ne.mpr hx]
   unfold bindL
   rw[e1]
   by_cases hl:kd a.1=some .local
   .rw[if_pos hl]
    rcases ih nd.2 (fun z=>if z=a.1 then some b.2 else m z) with⟨u,q⟩ | q
    .exact .inl ⟨u,by rw[q,if_neg hx]⟩
    .exact .inr q
   .rw[if_neg hl]
    exact ih nd.2 m
theorem gM (h:ae (ch ρ) bs cs) (nd:(bs.map (·.1)).Nodup) (m:Str->Option Kd) (x:Str) (hk:kd x≠some .local) :
  (bs.lookup x=none/\bindC kd cs m x=m x)\/∃v y,bs.lookup x=some v/\bindC kd cs m x=some y/\RelV ρ v y:=by
 induction h generalizing m with
 | nil=>exact .inl ⟨rfl,rfl⟩
 | @cons a b r r' e hr ih=>
  have e1:b.1=a.1:=e.1.symm
  rw[K6,KW] at nd
  by_cases hx:x=a.1
  .refine .inr ⟨a.2,b.2,by rw[K1,beq_iff_eq.mpr hx],?_,e.2⟩
   unfold bindC
   rw[e1,<- hx,if_neg hk]
   rcases ih nd.2 (fun z=>if z=x then some b.2 else m z) with⟨_,q⟩ | ⟨v',y',q,_,_⟩
   .rw[q,if_pos rfl]
   .exact absurd (List.mem_map.mpr ⟨(x,v'),mem_of_lookup q,hx⟩) nd.1
  .rw[K1,beq_eq_false_iff_ne.mpr hx]
   unfold bindC
   rw[e1]
   by_cases hl:kd a.1=some .local
   .rw[if_pos hl]
    exact ih nd.2 m
   .rw[if_neg hl]
    rcases ih nd.2 (fun z=>if z=a.1 then some b.2 else m z) with⟨u,q⟩ | q
    .exact .inl ⟨u,by rw[q,if_neg hx]⟩
    .exact .inr q
theorem et {a:Option V} {b c:Option Kd} (h:(a=none/\b=c)\/∃v y,a=some v/\b=some y/\RelV ρ v y) (hc:c=none):aL ρ a b:=by
 rcases h with⟨rfl,rfl⟩ | ⟨v,y,rfl,rfl,r⟩
 .subst hc;trivial
 .exact r
theorem gb (n:Nat) (p:Str×Ko) (r:List (Str×Ko)) (acc:List (Str×Kj)):K7 n (p::r) acc=if p.2==.cell then K7 (n + 1) r ((p.1,n)::acc) else K7 n r acc:=rfl
theorem dZ (names:List (Str×Ko)) (n:Nat) (acc:List (Str×Kj)) (lo:Nat) (h:∀p∈acc,lo <=p.2) (hn:lo <=n):∀p∈K7 n names acc,lo <=p.2:=by
 induction names generalizing n acc with
 | nil=>exact h
 | cons z r ih=>
  rw[gb]
  by_cases hk:(z.2==LH)=true
  .rw[if_pos hk]
   refine ih _ _ (fun p hp=>?_) (Nat.le_succ_of_le hn)
   rcases Ka.mp hp with rfl | hp
   .exact hn
   .exact h p hp
  .rw[if_neg hk]
   exact ih _ _ h hn
theorem iS (h:ae (ch ρ) bs cs):∀{c:Str×Kd},c∈cs->∃b∈bs,b.1=c.1:=by
 induction h with
 | nil=>exact fun h=>nomatch h
 | cons x _ ih=>
  intro c h
  rcases Ka.mp h with rfl | h
  .exact⟨_,.head _,x.1⟩
  .exact(ih h).imp fun _ h=>⟨.tail _ h.1,h.2⟩
structure Fn (g:G) (a:Kj) (fd:KN) (body:List Kz):Prop where
 at_:∃oc od sl,g.K.lookup a=some ⟨oc,od,.func fd,sl⟩
 body:fd.body=.stmts body
 clo:fd.closure=[]
 glob:fd.globals=K9
 blt:fd.builtins=LL
 code:codeIn g.K fd.code fd.qualname=true
 co:fd.scope.isCoroutine=false
 gen:fd.scope.isGenerator=false
 kind:fd.scope.kind=.function
 /-- every cell or free name of the scope has its cell -/
 cnd:((K7 0 fd.scope.names []).map (·.1)).Nodup
 cells:∀x,(fd.scope.names.lookup x=some .cell\/fd.scope.names.lookup x=some .free)->∀n,((K7 n fd.scope.names []).lookup x).isSome=true
noncomputable def bf (g:G) (D:Nat) (fd:KN) (args:List V) (kw:List (Str×V)) (os:List O) (bs:List (Str×V)) (os':List O):Prop:=
 ∀ρ xs ks,ae (RelV ρ) args xs->ae (RelV ρ) (kw.map (·.2)) ks->Lf g D os ρ (K2 fd ⟨xs,(kw.map (·.1)).zip ks⟩) (fun ρ' z=>ae (ch ρ') bs z) os'
noncomputable def rU:F->V
 | .ret v=>v
 | _=>.none
theorem aB.in1 (h:aB (D + 1) A):aB D A.in1:=⟨h.handled,by show A.depth + D < _;have:=h.depth;lia,by show A.units + 1 + 40 * D < _;have:=h.units;lia⟩
theorem aB.deeper (h:aB (D + 1) A):aB D (A.deeper env):=⟨h.handled,by show A.depth + 1 + D < _;have:=h.depth;lia,by show A.units + 3 + 40 * D < _;have:=h.units;lia⟩
noncomputable def Co (g:G) (D:Nat) (f:V) (args:List V) (kw:List (Str×V)) (os:List O) (v:V) (os':List O):Prop:=
 ∀ρ x xs ks,RelV ρ f x->ae (RelV ρ) args xs->ae (RelV ρ) (kw.map (·.2)) ks->∀(A:Lj) (s:Kl) (R:Mo->Kl->Prop),aB D A->HR g.w.params ρ os s.heap->g.K.In s.heap->
  (∀z s' ρ',RelV ρ' v z->HR g.w.params ρ' os' s'.heap->Go [] ρ s ρ' s'->R (.ok (.ret z)) s')->Ky (Kx PW g.w) A (.call x ⟨xs,(kw.map (·.1)).zip ks⟩) R s
theorem Co.cl {f:V} (h:Co g D f args kw os v os'):Cl g D f args kw os v os':=fun ρ x xs ks hx hxs hks A s hr hh hK=>
 Ll (h ρ x xs ks hx hxs hks A s _ hr hh hK fun z s' ρ' h1 h2 h3=>⟨ρ',h1,h2,h3⟩)
theorem Co.def_ {fd:KN} (fn:Fn g a fd body) (hb:bf g D fd args kw os bs os₁)
  (hk:∀x∈bs,fd.scope.names.lookup x.1=some .local\/fd.scope.names.lookup x.1=some .cell) (nd:(bs.map (·.1)).Nodup)
  (h:Exs g D fd.scope ⟨os₁,bs⟩ body f σ₁) (hv:rU f=v) (hf:f≠.brk/\f≠.cont):Co g (D + 1) (.top (.ref a)) args kw os v σ₁.os:=fun ρ x xs ks hx hxs hks A s R hr hh hK hR=>by
 obtain rfl:x=.ref a:=hx
 obtain⟨oc,od,sl,hat⟩:=fn.at_
 refine ME (by have:=hr.depth;lia) (hK _ _ hat) rfl fn.co fn.gen fn.body (codeRec_of hK fn.code) ?_
 refine Kr (hb ρ xs ks hxs hks A.in1 s hr.in1 hh hK) (fun cs s1 ⟨ρ1,hbs,hr1,g1⟩=>?_) (fun _ _ z=>z.elim)
 have hK1:g.K.In s1.heap:=bY (ow:=[]) hK hh (fun _ h=>(nomatch h)) g1
 have hN1:N0 <=s1.heap.objs.size:=aV hK1
 rw[fn.clo]
 refine Mi fn.kind (fun c hc=>?_) fun env he s2 ic=>?_
 .obtain⟨b,h1,h2⟩:=iS hbs hc
  rw[<- h2]
  exact(hk b h1).imp id fun q=>⟨q,fn.cells _ (.inl q) _⟩
 .have hsc:env.scope=fd.scope:=by rw[he];rfl
  have hloc:env.locals=s1.heap.objs.size:=by rw[he];rfl
  have hcel:env.cells=K7 (s1.heap.objs.size + 1) fd.scope.names []:=by rw[he];rfl
  have hglo:env.globals=K9:=by rw[he];exact fn.glob
  have hblt:env.builtins=LL:=by rw[he];exact fn.blt
  have keep:=ic.toInCall.keep
  obtain⟨h₂,tk,es₂,_⟩:=ic.done
  have hK2:g.K.In s2.heap:=fun b o e=>keep _ _ (hK1 b o e)
  have hns:=ic.toInCall.ns
  have sz:s1.heap.objs.size <=s2.heap.objs.size:=by
   have:=hns.lt
   rw[hloc] at this
   exact Nat.le_of_lt this
  have old:∀{b:Kj},b∈ρ1->b < s1.heap.objs.size:=fun hb=>hr1.lt hb
  have clow:∀p∈env.cells,s1.heap.objs.size + 1 <=p.2:=by rw[hcel];exact dZ _ _ _ _ (fun _ h=>(nomatch h)) (Km _)
  have er:ER ρ1 s2.heap env bs:=by
   refine⟨hglo,hblt,by rw[hsc];exact fn.kind,⟨_,hns,fun z hz=>et (gY hbs nd _ z hz) rfl⟩,fun z hz=>?_,⟨by rw[hloc];exact hN1,fun hm=>?_⟩,fun p hp=>?_,fun z z' c h1 h2=>name_of_addr ic.apart h1 h2⟩
   .have hz':fd.scope.names.lookup z=some .cell\/fd.scope.names.lookup z=some .free:=by rw[<- hsc];exact hz
    obtain⟨c,hc⟩:=Option.isSome_iff_exists.mp (fn.cells z hz' (s1.heap.objs.size + 1))
    rw[<- hcel] at hc
    refine⟨c,_,hc,ic.cell z c hc,et (gM hbs nd _ z fun q=>?_) rfl⟩
    rcases hz with q' | q' <;> (rw[q] at q';cases q')
   .have:=old hm
    rw[hloc] at this
    exact KM _ this
   .have lo:=clow _ hp
    have hc:env.cells.lookup p.1=some p.2:=Nf (by rw[hcel];exact NT fd.scope.names 0 (s1.heap.objs.size + 1) [] [] rfl▸fn.cnd) hp
    refine⟨Lh hN1 (Lo lo),let⟨ob,e,_⟩:=ic.cell p.1 p.2 hc;⟨ob,e⟩,fun hm=>?_,fun q=>?_⟩
    .have:=old hm
     exact absurd this (Nat.not_lt.mpr (Lo lo))
    .rw[hloc] at q
     have:s1.heap.objs.size + 1 <=p.2:=lo
     rw[q] at this
     exact KM _ this
  have st:St g env ⟨os₁,bs⟩ ρ1 s2:=⟨hr1.keeps keep,er,hK2⟩
  refine⟨g.lim _ hK2,NS ?_⟩
  refine h.use hsc hr.deeper st fun fl s3 ρ3 rf st₃ g3=>?_
  have fin:∀y,RelV ρ3 v y->R (.ok (.ret y)) s3:=fun y hy=>hR y s3 ρ3 hy st₃.hr ?_
  .subst hv
   cases f with
   | next=>obtain rfl:fl=.next:=rf;exact fin _ rfl
   | brk=>exact absurd rfl hf.1
   | cont=>exact absurd rfl hf.2
   | ret w=>obtain⟨y,rfl,hy⟩:=rf;exact fin _ hy
  .have gens2:s2.gens=s1.gens:=by rw[es₂]
   have os₂:s2.os=s1.os:=by rw[es₂]
   have dr2:s2.drawn=s1.drawn:=by rw[es₂]
   refine g1.trans ⟨?_,fun b o e h1 _=>g3.kept b o (keep _ _ e) h1 fun hm=>?_,fun b o e=>g3.alive b o (keep _ _ e),g3.gens.trans gens2,g3.os.1.trans os₂,g3.os.2.trans dr2⟩
   .obtain⟨ν,e,hν⟩:=g3.pre
    refine⟨ν,e,fun a ha=>?_⟩
    cases q:s1.heap.get? a with
    | none=>rfl
    | some o=>have:=keep _ _ q;rw[hν a ha] at this;exact nS this
   .have lt:=KJ e
    rcases Ka.mp hm with q | q
    .rw[q,hloc] at lt;exact KM _ lt
    .obtain⟨p,hp,rfl⟩:=List.mem_map.mp q
     exact absurd lt (Nat.not_lt.mpr (Lo (clow p hp)))
theorem Cl.def_ {fd:KN} (fn:Fn g a fd body) (hb:bf g D fd args kw os bs os₁)
  (hk:∀x∈bs,fd.scope.names.lookup x.1=some .local\/fd.scope.names.lookup x.1=some .cell) (nd:(bs.map (·.1)).Nodup)
  (h:Exs g D fd.scope ⟨os₁,bs⟩ body f σ₁) (hv:rU f=v) (hf:f≠.brk/\f≠.cont):Cl g (D + 1) (.top (.ref a)) args kw os v σ₁.os:=(Co.def_ fn hb hk nd h hv hf).cl
noncomputable def Gr (h h':Heap):Prop:=∀b o,h.get? b=some o->h'.get? b=some o
theorem Gr.refl (h:Heap):Gr h h:=fun _ _ e=>e
theorem Gr.push (x:Gr h h') (o:Obj):Gr h (h'.push o):=fun b o' e=>Ki _ (x b o' e)
theorem Gr.kept (h:Heap):KeptH (Gr h):=fun _ ob x=>x.push ob
theorem Gr.go {ow ρ:List Kj} (x:Gr s.heap s'.heap) (hg:s'.gens=s.gens) (ho:s'.os=s.os) (hd:s'.drawn=s.drawn:=by rfl):Go ow ρ s ρ s':=.of ⟨[],(KZ _).symm,fun _ h=>(nomatch h)⟩ (fun b o e _ _=>x b o e) (fun b o e=>⟨o,x b o e⟩) hg ho hd
theorem Lf.grow {t:Sem α}
  (h:∀A s,aB D A->HR g.w.params ρ os s.heap->g.K.In s.heap->J6 (Kx PW g.w) A t (fun x s'=>R ρ x/\Gr s.heap s'.heap/\s'.gens=s.gens/\(s'.os,s'.drawn)=(s.os,s.drawn)) (fun _ _=>False) s):Lf g D os ρ t R os:=
 fun A s hr hh hk=>Kr (h A s hr hh hk) (fun x s' ⟨r,e1,e2,e3⟩=>⟨ρ,r,hh.keeps e1,e1.go e2 (congrArg Prod.fst e3) (congrArg Prod.snd e3)⟩) fun _ _ z=>z
theorem bn.mod {a b:Int} (hb:b≠0):bn g D .Mod (.int a) (.int b) os (.int (a.fmod b)) os:=fun ρ x y hx hy=>by
 obtain⟨t,rfl⟩:=hx;obtain⟨u,rfl⟩:=hy
 exact Lf.tok fun A s _=>PyProof.Rows.mod_int hb ⟨⟨_,rfl⟩,_,rfl⟩
theorem bn.xor {a b:Int}:bn g D .BitXor (.int a) (.int b) os (.int (MI a b)) os:=fun ρ x y hx hy=>by
 obtain⟨t,rfl⟩:=hx;obtain⟨u,rfl⟩:=hy
 exact Lf.tok fun A s _=>PyProof.Rows.xor_int ⟨⟨_,rfl⟩,_,rfl⟩
theorem bn.mul {a b:Int} (h:IntMulOk a b):bn g D .Mult (.int a) (.int b) os (.int (a * b)) os:=fun ρ x y hx hy=>by
 obtain⟨t,rfl⟩:=hx;obtain⟨u,rfl⟩:=hy
 exact Lf.tok fun A s _=>PyProof.Rows.mul_int ⟨⟨_,rfl⟩,_,rfl⟩ h
theorem bn.fdiv {a b:Int} (hb:b≠0) (h:Builtin.divisionGoesByPylong a b=false):bn g D .FloorDiv (.int a) (.int b) os (.int (a.fdiv b)) os:=fun ρ x y hx hy=>by
 obtain⟨t,rfl⟩:=hx;obtain⟨u,rfl⟩:=hy
 exact Lf.tok fun A s _=>PyProof.Rows.floordiv_int hb ⟨⟨_,rfl⟩,_,rfl⟩ (.inl h)
theorem ak.neI {a b:Int}:ak g D .NotEq (.int a) (.int b) os (.bool (a !=b)) os:=fun ρ x y hx hy=>by
 obtain⟨t,rfl⟩:=hx;obtain⟨u,rfl⟩:=hy
 exact Lf.tok fun A s _=>PyProof.Rows.ne_int ⟨rfl,s.toks,rfl⟩
theorem ak.leI {a b:Int}:ak g D .LtE (.int a) (.int b) os (.bool (decide (a <=b))) os:=fun ρ x y hx hy=>by
 obtain⟨t,rfl⟩:=hx;obtain⟨u,rfl⟩:=hy
 exact Lf.tok fun A s _=>PyProof.Rows.le_int ⟨rfl,s.toks,rfl⟩
theorem ak.geI {a b:Int}:ak g D .GtE (.int a) (.int b) os (.bool (decide (b <=a))) os:=fun ρ x y hx hy=>by
 obtain⟨t,rfl⟩:=hx;obtain⟨u,rfl⟩:=hy
 exact Lf.tok fun A s _=>PyProof.Rows.ge_int ⟨rfl,s.toks,rfl⟩
theorem ak.isNone {b:Bool} (h:∀ρ x,RelV ρ v x->(x==Value.none)=b):ak g D .Is v .none os (.bool b) os:=fun ρ x y hx hy=>by
 obtain rfl:y=.none:=hy
 exact Lf.tok fun A s _=>PySem.is_none ⟨by rw[h ρ x hx];rfl,s.toks,rfl⟩
theorem ak.isNotNone {b:Bool} (h:∀ρ x,RelV ρ v x->(x==Value.none)=b):ak g D .IsNot v .none os (.bool (!b)) os:=fun ρ x y hx hy=>by
 obtain rfl:y=.none:=hy
 exact Lf.tok fun A s _=>PySem.isNot_none ⟨by rw[h ρ x hx];rfl,s.toks,rfl⟩
theorem bn.addS {a b:Str} (h:a.length + b.length <=Kg):bn g D .Add (.str a) (.str b) os (.str (a++b)) os:=fun ρ x y hx hy=>by
 obtain⟨t,rfl⟩:=hx;obtain⟨u,rfl⟩:=hy
 exact Lf.tok fun A s _=>PyProof.Rows.add_str (fun t' tk=>⟨⟨_,rfl⟩,_,rfl⟩) h
theorem ak.neS {a b:Str}:ak g D .NotEq (.str a) (.str b) os (.bool (a !=b)) os:=fun ρ x y hx hy=>by
 obtain⟨t,rfl⟩:=hx;obtain⟨u,rfl⟩:=hy
 exact Lf.tok fun A s _=>PyProof.Rows.ne_str ⟨rfl,s.toks,rfl⟩
theorem ak.inS {a b:Str}:ak g D .In (.str a) (.str b) os (.bool (My b a)) os:=fun ρ x y hx hy=>by
 obtain⟨t,rfl⟩:=hx;obtain⟨u,rfl⟩:=hy
 exact Lf.tok fun A s _=>PyProof.Rows.in_str ⟨rfl,s.toks,rfl⟩
theorem bV.none:bV g D .none os false os:=fun ρ x hx=>by
 obtain rfl:x=.none:=hx
 exact Lf.tok fun A s _=>PyProof.Rows.truthy_none ⟨rfl,s.toks,rfl⟩
theorem bV.bool {b:Bool}:bV g D (.bool b) os b os:=fun ρ x hx=>by
 obtain rfl:x=.bool b:=hx
 exact Lf.tok fun A s _=>Nw ⟨rfl,s.toks,rfl⟩
noncomputable def dm (g:G) (D:Nat) (value slice:Expr) (a i:V) (os:List O) (v:V) (os':List O):Prop:=∀ρ x y,RelV ρ a x->RelV ρ i y->Lf g D os ρ (subscriptTail value slice x y) (fun ρ' z=>RelV ρ' v z) os'
theorem Ev.sub {a i:V} (h1:Ev g D sc σ value a σ₁) (h2:Ev g D sc σ₁ slice i σ₂) (h3:dm g D value slice a i σ₂.os v os'):Ev g D sc σ (.Subscript value slice pos) v ⟨os',σ₂.loc⟩:=fun A env ρ s he hr hs=>
 MQ (h1.use he hr hs fun x s1 ρ1 rx st1 g1=>h2.use he hr st1 fun y s2 ρ2 ry st2 g2=>(h3 ρ2 x y (rx.go g2) ry).use hr st2 fun z s3 ρ3 rz st₃ g3=>⟨ρ3,rz,st₃,(g1.trans g2).trans g3⟩)
noncomputable def cS:Expr->Bool
 | .Slice ..=>false
 | _=>true
theorem bW (h:cS slice=true) (o i:Kd):subscripted slice false o i=operate [o,i] (getItem o i):=by
 cases slice <;> first | rfl | exact nB h
theorem dm.strItem {value:Expr} {a:Str} {i:Int} {os:List O} (h1:-(a.length:Int) <=i) (h2:i < a.length) (h3:(a.length:Int) < 2 ^ 63) (hs:cS slice=true:=by rfl):dm g D value slice (.str a) (.int i) os (.str (Txt.item a i)) os:=fun ρ x y hx hy=>by
 obtain⟨t,rfl⟩:=hx;obtain⟨u,rfl⟩:=hy
 refine Lf.tok fun A s _=>?_
 obtain⟨T,id,hl,hT,hg⟩:=(PyProof.Rows.SBL.item (prog:=PW) (w:=g.w) (A:=A) (E:=fun _ _=>False) (s:=s) (x:=a) (t:=t) (u:=u) (Q:=fun x s'=>RelV ρ (.str (Txt.item a i)) x/\∃tk,s'={ s with toks:=tk }) h1 h2 (by lia) fun _=>⟨⟨_,rfl⟩,_,rfl⟩)
 exact LB hT hl hg (bW hs _ _)
noncomputable def bound:V->Option Int
 | .int i=>some i
 | _=>none
noncomputable def mj:V->Prop
 | .int _=>True
 | .none=>True
 | _=>False
theorem Ev.sliceS {p:Pos} {a:Str} {l:V} (h1:Ev g D sc σ value (.str a) σ₁) (h2:aP g D sc σ₁ (fun env=>LF (Mr lo env)) (fun ρ x=>RelV ρ l x) σ₂)
  (h3:aP g D sc σ₂ (fun env=>LF (Mr hi env)) (fun ρ x=>RelV ρ u x) σ₃) (bl:mj l) (bu:mj u) (hsz:a.length <=Kg):Ev g D sc σ (.Subscript value (.Slice lo hi none p) pos) (.str (MV a (bound l) (bound u))) σ₃:=fun A env ρ s he hr hs=>by
 refine MQ (h1.use he hr hs fun x s1 ρ1 rx st1 g1=>?_)
 obtain⟨t,rfl⟩:=rx
 show J6 _ _ (do
  let l <- LF (Mr lo env)
  let u <- K3 [l] (LF (Mr hi env))
  let s <- K3 [l,u] (LF (Mr none env))
  newFields "slice" [l,u,s]) _ _ _
 refine J7 (h2.use he hr st1 fun y s2 ρ2 ry st2 g2=>J7 (KQ (h3.use he hr st2 fun z s3 ρ3 rz st₃ g3=>?_)))
 refine J7 (KQ (Kb ?_))
 refine L7 ?_
 have fin:∀(h':Heap) (t':Tok) (k:Nat),Gr s3.heap h'->∃ρ',RelV ρ' (.str (MV a (bound l) (bound u))) (.str (MV a (bound l) (bound u)) t')/\St g env σ₃ ρ' { s3 with heap:=h',toks:=k }/\Go (own env) ρ s ρ' { s3 with heap:=h',toks:=k }:=fun h' t' k q=>by
  have go:Go [] ρ3 s3 ρ3 { s3 with heap:=h',toks:=k }:=Gr.go (s':={ s3 with heap:=h',toks:=k }) q rfl rfl
  exact⟨ρ3,⟨t',rfl⟩,⟨st₃.hr.keeps q,st₃.er.go go,bY (ow:=[]) st₃.k st₃.hr (fun _ h=>(nomatch h)) go⟩,((g1.trans g2).trans g3).trans go.nil⟩
 have tl:∀{o:Obj},ItemOn (Kx PW g.w) A (fun _ _=>False) (.str a t) (.ref s3.heap.objs.size) (fun x s'=>∃ρ',RelV ρ' (.str (MV a (bound l) (bound u))) x/\St g env σ₃ ρ' s'/\Go (own env) ρ s ρ' s') { s3 with heap:=s3.heap.push o }->
   J6 (Kx PW g.w) A (subscriptTail value (.Slice lo hi none p) (.str a t) (.ref s3.heap.objs.size)) (fun x s'=>∃ρ',RelV ρ' (.str (MV a (bound l) (bound u))) x/\St g env σ₃ ρ' s'/\Go (own env) ρ s ρ' s') (fun _ _=>False) { s3 with heap:=s3.heap.push o }:=fun⟨T,id,hl,hT,hg⟩=>
  LB (ops:=[.ref s3.heap.objs.size,.str a t]) hT hl hg rfl
 cases l with
 | int i=>
  obtain⟨ti,rfl⟩:=ry
  cases u with
  | int j=>
   obtain⟨tj,rfl⟩:=rz
   exact tl (SBH.sliceItem_ss (Gr.kept s3.heap) (Gr.refl _) fin hsz)
  | none=>
   obtain rfl:z=.none:=rz
   exact tl (SBH.sliceItem_sn (Gr.kept s3.heap) (Gr.refl _) fin hsz)
  | _=>exact bu.elim
 | none=>
  obtain rfl:y=.none:=ry
  cases u with
  | int j=>
   obtain⟨tj,rfl⟩:=rz
   exact tl (SBH.sliceItem_ns (Gr.kept s3.heap) (Gr.refl _) fin hsz)
  | none=>
   obtain rfl:z=.none:=rz
   exact tl (SBH.sliceItem_nn (Gr.kept s3.heap) (Gr.refl _) fin hsz)
  | _=>exact bu.elim
 | _=>exact bl.elim
theorem zT:aP g D sc σ (fun env=>LF (Mr none env)) (fun ρ x=>RelV ρ .none x) σ:=fun A env ρ s _ _ hs=>Kb ⟨ρ,rfl,hs,Go.refl ..⟩
theorem qO (h:Ev g D sc σ e v σ₁):aP g D sc σ (fun env=>LF (Mr (some e) env)) (fun ρ x=>RelV ρ v x) σ₁:=fun A env ρ s he hr hs=>h A env ρ s he hr hs
theorem Lf.new {T:String} {dt:Data} (hd:sizeOk dt) (ho:∀a,bj g.w.params (ρ++[a]) ⟨.type T,none,dt,#[]⟩ o) (hf:(⟨.type T,none,dt,#[]⟩:Obj).isFreed=false) :
  Lf g D os ρ (newObj (.type T) dt none) (fun ρ' z=>RelV ρ' (.ref os.length) z) (os++[o]):=fun A s hr hh hk=>by
 have hN:=aV hk
 refine L7 ?_ hd
 refine⟨ρ++[s.heap.objs.size],⟨s.heap.objs.size,?_,rfl⟩,?_,.of ⟨[s.heap.objs.size],rfl,fun a ha=>?_⟩ (fun b o e _ _=>Ki _ e) (fun b o e=>⟨o,Ki _ e⟩) rfl rfl⟩
 .rw[<- hh.len];simp
 .exact hh.push (Km _) hN (fun b o e=>Ki _ e) (Ku _ hf) (ho _)
 .simp at ha
  subst ha
  cases q:s.heap.get? s.heap.objs.size with
  | none=>rfl
  | some o=>exact absurd (KJ q) (KM _)
theorem Lf.newList {vs:List V} {xs:List Kd} (h:ae (RelV ρ) vs xs) (hz:vs.length <=Kg):Lf g D os ρ (newList xs) (fun ρ' z=>RelV ρ' (.ref os.length) z) (os++[.list vs]):=
 Lf.new (by show xs.toArray.size <=Kg;rw[Nu,h.length];exact hz) (fun a=>⟨xs.toArray,0,rfl,h.mono fun _ _=>RelV.mono⟩) rfl
theorem Lf.newTuple {vs:List V} {xs:List Kd} (h:ae (RelV ρ) vs xs) (hz:vs.length <=Kg):Lf g D os ρ (newTuple xs) (fun ρ' z=>RelV ρ' (.ref os.length) z) (os++[.tuple vs]):=
 Lf.new (by show xs.toArray.size <=Kg;rw[Nu,h.length];exact hz) (fun a=>⟨xs.toArray,0,rfl,h.mono fun _ _=>RelV.mono⟩) rfl
theorem Ev.list {es:List Expr} {pos:Pos} {vs:List V} (h:bU g D sc σ es vs σ₁) (hz:vs.length <=Kg:=by decide) (hp:aW es=true:=by rfl):Ev g D sc σ (.List es pos) (.ref σ₁.os.length) ⟨σ₁.os++[.list vs],σ₁.loc⟩:=fun A env ρ s he hr hs=>by
 refine PyProof.Rows.List_ ?_
 rw[aF hp,aO]
 exact h.use he hr hs fun xs s1 ρ1 rs st1 g1=>(Lf.newList rs hz).use hr st1 fun z s2 ρ2 rz st2 g2=>⟨ρ2,rz,st2,g1.trans g2⟩
theorem Ev.tuple {es:List Expr} {k:Nat} {pos:Pos} {vs:List V} (h:bU g D sc σ es vs σ₁) (hz:vs.length <=Kg:=by decide) (hp:aW es=true:=by rfl):Ev g D sc σ (.Tuple es k pos) (.ref σ₁.os.length) ⟨σ₁.os++[.tuple vs],σ₁.loc⟩:=fun A env ρ s he hr hs=>by
 refine PyProof.Rows.Tuple_ ?_
 rw[aF hp,aO]
 exact h.use he hr hs fun xs s1 ρ1 rs st1 g1=>(Lf.newTuple rs hz).use hr st1 fun z s2 ρ2 rz st2 g2=>⟨ρ2,rz,st2,g1.trans g2⟩
theorem HR.list {xs:List V} {x:Kd} (hh:HR P ρ os h) (ho:os[i]?=some (.list xs)) (hx:RelV ρ (.ref i) x) :
  ∃a vs n,x=.ref a/\ρ[i]?=some a/\h.get? a=some ⟨.type "list",none,.seq vs n,#[]⟩/\ae (RelV ρ) xs vs.toList:=by
 obtain⟨a,ha,rfl⟩:=hx
 rcases hh.ob i _ a ho ha with q | ⟨ob,e,vs,n,rfl,r⟩
 .cases q
 .exact⟨a,vs,n,rfl,ha,e,r⟩
theorem HR.tuple {xs:List V} {x:Kd} (hh:HR P ρ os h) (ho:os[i]?=some (.tuple xs)) (hx:RelV ρ (.ref i) x) :
  ∃a vs n,x=.ref a/\ρ[i]?=some a/\h.get? a=some ⟨.type "tuple",none,.seq vs n,#[]⟩/\ae (RelV ρ) xs vs.toList:=by
 obtain⟨a,ha,rfl⟩:=hx
 rcases hh.ob i _ a ho ha with q | ⟨ob,e,vs,n,rfl,r⟩
 .cases q
 .exact⟨a,vs,n,rfl,ha,e,r⟩
theorem ax (e:h.get? a=some ⟨.type "list",none,.seq vs n,#[]⟩):h.IsList a vs:=⟨_,e,rfl,n,rfl⟩
theorem ae.arr {xs:List V} (h:ae (RelV ρ) xs vs.toList) (hi:xs[i]?=some v):∃y,vs[i]?=some y/\RelV ρ v y:=by
 obtain⟨y,h1,h2⟩:=h.get hi
 exact⟨y,by rw[<- Lm];exact h1,h2⟩
theorem dm.listItem {value:Expr} {xs:List V} {k:Int} (ho:os[i]?=some (.list xs)) (h0:0 <=k) (hk:k < 2 ^ 63) (hv:xs[k.toNat]?=some v) (hs:cS slice=true:=by rfl):dm g D value slice (.ref i) (.int k) os v os:=fun ρ x y hx hy=>by
 obtain⟨u,rfl⟩:=hy
 refine Lf.pure fun A s hr hh hK=>?_
 obtain⟨a,vs,n,rfl,ha,e,r⟩:=hh.list ho hx
 obtain⟨y,h1,h2⟩:=r.arr hv
 have hl:=ax e
 exact LB hl.typeIs slot_list_getitem.lookup (wpAny_getItem_list hl h0 hk h1 ⟨h2,rfl,rfl,rfl⟩) (bW hs _ _)
theorem dm.listNeg {value:Expr} {xs:List V} {k:Int} (ho:os[i]?=some (.list xs)) (h0:k < 0) (h1:-(xs.length:Int) <=k) (hk:-(2 ^ 63) <=k) (hv:xs[(k + xs.length).toNat]?=some v) (hs:cS slice=true:=by rfl):dm g D value slice (.ref i) (.int k) os v os:=fun ρ x y hx hy=>by
 obtain⟨u,rfl⟩:=hy
 refine Lf.pure fun A s hr hh hK=>?_
 obtain⟨a,vs,n,rfl,ha,e,r⟩:=hh.list ho hx
 have len:vs.size=xs.length:=by rw[<- KH];exact r.length
 obtain⟨y,h2,h3⟩:=r.arr hv
 have hl:=ax e
 exact LB hl.typeIs slot_list_getitem.lookup (wpAny_getItem_list_neg hl h0 (by rw[len];exact h1) hk (by rw[len];exact h2) ⟨h3,rfl,rfl,rfl⟩) (bW hs _ _)
theorem Cl.lenS {a:Str} (h:(a.length:Int) < 2 ^ 63):Cl g D (.top (.builtin "len")) [.str a] [] os (.int a.length) os:=fun ρ x xs ks hx hxs hks=>by
 obtain rfl:x=.builtin "len":=hx
 cases hks
 cases hxs with
 | cons r rs=>
  cases rs
  obtain⟨t,rfl⟩:=r
  exact Lf.tok fun A s _=>PyProof.Rows.len_str (by lia) ⟨⟨_,rfl⟩,_,rfl⟩
theorem Cl.lenL {vs:List V} (ho:os[i]?=some (.list vs)) (h:(vs.length:Int) < 2 ^ 63):Cl g D (.top (.builtin "len")) [.ref i] [] os (.int vs.length) os:=fun ρ x xs ks hx hxs hks=>by
 obtain rfl:x=.builtin "len":=hx
 cases hks
 cases hxs with
 | cons r rs=>
  cases rs
  refine Lf.pure fun A s hr hh hK=>?_
  obtain⟨a,ys,n,rfl,ha,e,r⟩:=hh.list ho r
  have len:ys.size=vs.length:=by rw[<- KH];exact r.length
  exact PyProof.Rows.len_list (ax e) (by rw[len];exact h) ⟨⟨_,by rw[len]⟩,rfl,rfl,rfl⟩
theorem cM {f:Array Kd->Array Kd} (e:h.get? a=some ⟨.type "list",none,.seq vs n,#[]⟩) :
  ∃m,(h.update a (Nn f)).get? a=some ⟨.type "list",none,.seq (f vs) m,#[]⟩:=⟨_,Lr (Nn f) e rfl⟩
theorem eS {f:Obj->Obj} (ha:a∈ρ) (ho:(s.heap.update a f).get? a=some o'):Go [] ρ s ρ { s with heap:=s.heap.update a f }:=
 .of ⟨[],(KZ _).symm,fun _ h=>(nomatch h)⟩ (fun b o e h1 _=>((Lc s.heap a f).2 b fun q=>h1 (q▸ha)).trans e) (fun b o e=>cO (Lc ..) ho e) rfl rfl
theorem Cl.append {vs:List V} (ho:os[i]?=some (.list vs)) (hz:vs.length <=Kg):Cl g D (.top (.builtin "list.append")) [.ref i,v] [] os .none (os.set i (.list (vs++[v]))):=fun ρ x xs ks hx hxs hks=>by
 obtain rfl:x=.builtin "list.append":=hx
 cases hks
 cases hxs with
 | cons r rs=>
  cases rs with
  | cons r' rs=>
   cases rs
   intro A s hr hh hK
   obtain⟨a,ys,n,rfl,ha,e,q⟩:=hh.list ho r
   have hl:=ax e
   have len:ys.size=vs.length:=by rw[<- KH];exact q.length
   refine M6 slot_list_append hl.typeIs entry_list_append ?_ (args_list_append _ _)
   show J6 _ _ (updateSeq a (·.push _) >>=fun _=>PySem.ret .none) _ _ s
   obtain⟨m,hm⟩:=cM (f:=(·.push _)) e
   refine J7 (Ni e rfl (Kb ⟨.none,rfl,ρ,rfl,?_,eS (Kq ha) hm⟩) (by rw[len];exact hz) (by rw[NK,len];lia))
   exact hh.set ha (Lc ..) hm ⟨_,m,rfl,by rw[Array.toList_push];exact(ae.cons r' .nil).append q⟩
theorem Go.drop {ow ex:List Kj} (x:Go (ex++ow) ρ s ρ' s') (h:∀a∈ex,s.heap.get? a=none):Go ow ρ s ρ' s':=
 ⟨x.pre,fun b o e h1 h2=>x.kept b o e h1 fun hm=>by
  rcases List.mem_append.mp hm with q | q
  .rw[h b q] at e;exact nS e
  .exact h2 q,x.alive,x.gens,x.os⟩
theorem Go.aside {ow:List Kj} (x:Go ow ρ s ρ' s') {o:Obj} (ha:s.heap.get? a=some o) (h1:a∉ρ) (h2:a∉ow) (h3:N0 <=a):s'.heap.get? a=some o/\a∉ρ':=by
 refine⟨x.keep a o ha h1 h2 (dg h3),fun hm=>?_⟩
 obtain⟨ν,e,hν⟩:=x.pre
 rw[e] at hm
 rcases List.mem_append.mp hm with h | h
 .exact h1 h
 .rw[hν a h] at ha;exact nS ha
theorem St.other {tk:Nat} (x:St g env σ ρ s) (hk:∀b o,b≠a->s.heap.get? b=some o->h'.get? b=some o) (h1:a∉ρ) (h2:a∉own env) (h3:N0 <=a):St g env σ ρ { s with heap:=h',toks:=tk }:=by
 obtain⟨m,⟨oL,es,ep,hoL,r⟩,hl⟩:=x.er.loc
 refine⟨⟨x.hr.len,x.hr.nd,fun b hb=>⟨(x.hr.hi b hb).1,let⟨ob,e⟩:=(x.hr.hi b hb).2;⟨ob,hk b ob (fun q=>h1 (q▸hb)) e⟩⟩,fun i o b q1 q2=>(x.hr.ob i o b q1 q2).imp id fun⟨ob,e,r⟩=>⟨ob,hk b ob (fun q=>h1 (q▸Kq q2)) e,r⟩⟩,
  ⟨x.er.glob,x.er.blt,x.er.kind,⟨m,⟨oL,es,ep,hk _ _ (fun q=>h2 (q▸.head _)) hoL,r⟩,hl⟩,fun z hz=>?_,x.er.low,fun p hp=>?_,x.er.capart⟩,fun b o e=>hk b o (fun q=>absurd (g.low b o e) (Nat.not_lt.mpr (q▸h3))) (x.k b o e)⟩
 .obtain⟨c,o,q1,⟨ob,q2,q3⟩,q4⟩:=x.er.cell z hz
  exact⟨c,o,q1,⟨ob,hk _ _ (fun q=>h2 (q▸oX q1)) q2,q3⟩,q4⟩
 .obtain⟨a1,⟨ob,a2⟩,a3,a4⟩:=x.er.clow p hp
  exact⟨a1,⟨ob,hk _ _ (fun q=>h2 (q▸KO _ (List.mem_map.mpr ⟨p,hp,rfl⟩))) a2⟩,a3,a4⟩
noncomputable def aX (g:G) (D:Nat) (sc:Scope) (σ:S) (t:Expr) (v:V) (σ':S):Prop:=∀(A:Lj) (env:Env) (ρ:List Kj) (s:Kl) (x:Kd),env.scope=sc->aB D A->St g env σ ρ s->RelV ρ v x->
 J6 (Kx PW g.w) A (PySem.assign t env x) (fun _ s'=>∃ρ',St g env σ' ρ' s'/\Go (own env) ρ s ρ' s') (fun _ _=>False) s
theorem aX.name {p:Pos} (hx:aK sc x):aX g D sc σ (.Name x p) v ⟨σ.os,put σ.loc x v⟩:=fun A env ρ s y he hr hs hv=>by
 subst he
 exact wpAny_assign_Name (dI hs hx hv fun s' st' g'=>⟨ρ,st',g'⟩)
noncomputable def pG:F->Option F
 | .brk=>some .next
 | .ret v=>some (.ret v)
 | _=>none
noncomputable def jn (g:G) (D:Nat) (op:MF) (a b:V) (os:List O) (v:V) (os':List O):Prop:=∀ρ x y,RelV ρ a x->RelV ρ b y->Lf g D os ρ (inplaceOp op x y) (fun ρ' z=>RelV ρ' v z) os'
noncomputable def Ld (g:G) (D:Nat) (sc:Scope) (σ:S) (x:Str) (v:V):Prop:=aP g D sc σ (fun env=>loadName env x) (fun ρ y=>RelV ρ v y) σ
theorem Ld.loc (hx:sc.names.lookup x=some .local) (hv:σ.loc.lookup x=some v):Ld g D sc σ x v:=fun A env ρ s he _ hs=>by
 subst he
 obtain⟨m,hm,hl⟩:=hs.er.loc
 have hy:=hl x hx
 rw[hv] at hy
 cases hmx:m x with
 | none=>rw[hmx] at hy;exact hy.elim
 | some y=>rw[hmx] at hy;exact Mq hs.er.kind hx hm hmx ⟨ρ,hy,hs,Go.refl ..⟩
theorem Ex.aug {op:MF} {a b:V} (h1:Ld g D sc σ x a) (h2:Ev g D sc σ e b σ₁) (h3:jn g D op a b σ₁.os v os') (hx:aK sc x):Ex g D sc σ (.AugAssign (.Name x px) op e pos) .next ⟨os',put σ₁.loc x v⟩:=fun A env ρ s he hr hs=>by
 subst he
 exact wpAny_AugAssign_Name (h1.use rfl hr hs fun y s1 ρ1 r1 st1 g1=>h2.use rfl hr st1 fun z s2 ρ2 r2 st2 g2=>(h3 ρ2 y z (r1.go g2) r2).use hr st2 fun u s3 ρ3 r3 st₃ g3=>
  dI st₃ hx r3 fun s' st' g'=>⟨ρ3,rfl,st',((g1.trans g2).trans g3).trans g'⟩)
theorem jn.add {a b:Int}:jn g D .Add (.int a) (.int b) os (.int (a + b)) os:=fun ρ x y hx hy=>by
 obtain⟨t,rfl⟩:=hx;obtain⟨u,rfl⟩:=hy
 exact Lf.tok fun A s _=>PyProof.Rows.iadd_int ⟨⟨_,rfl⟩,_,rfl⟩
theorem jn.sub {a b:Int}:jn g D .Sub (.int a) (.int b) os (.int (a - b)) os:=fun ρ x y hx hy=>by
 obtain⟨t,rfl⟩:=hx;obtain⟨u,rfl⟩:=hy
 exact Lf.tok fun A s _=>PyProof.Rows.isub_int ⟨⟨_,rfl⟩,_,rfl⟩
theorem HR.range {a b c:Int} {x:Kd} (hh:HR P ρ os h) (ho:os[i]?=some (.range a b c)) (hx:RelV ρ (.ref i) x):∃r t u v,x=.ref r/\ρ[i]?=some r/\IsRange h r a b c t u v:=by
 obtain⟨r,hr,rfl⟩:=hx
 rcases hh.ob i _ r ho hr with q | ⟨ob,e,t,u,v,rfl⟩
 .cases q
 .exact⟨r,t,u,v,rfl,hr,e⟩
theorem nJ {tk:Nat} (hh:HR g.w.params ρ os s.heap) (hk:g.K.In s.heap) (hf:ob.isFreed=false) (ho:∀a,bj g.w.params (ρ++[a]) ob o) :
  ∃ρ',RelV ρ' (.ref os.length) (.ref s.heap.objs.size)/\HR g.w.params ρ' (os++[o]) (s.heap.push ob)/\Go [] ρ s ρ' { s with heap:=s.heap.push ob,toks:=tk }:=by
 refine⟨ρ++[s.heap.objs.size],⟨s.heap.objs.size,?_,rfl⟩,hh.push (Km _) (aV hk) (fun b o e=>Ki _ e) (Ku _ hf) (ho _),.of ⟨[s.heap.objs.size],rfl,fun a ha=>?_⟩ (fun b o e _ _=>Ki _ e) (fun b o e=>⟨o,Ki _ e⟩) rfl rfl⟩
 .rw[<- hh.len];simp
 .simp at ha
  subst ha
  cases q:s.heap.get? s.heap.objs.size with
  | none=>rfl
  | some o=>exact absurd (KJ q) (KM _)
theorem Cl.range1 {n:Int}:Cl g D (.top (.type "range")) [.int n] [] os (.ref os.length) (os++[.range 0 n 1]):=fun ρ x xs ks hx hxs hks=>by
 obtain rfl:x=.type "range":=hx
 cases hks
 cases hxs with
 | cons r rs=>
  cases rs
  obtain⟨t,rfl⟩:=r
  exact fun A s hr hh hk=>call_range_1 (nJ hh hk rfl fun _=>⟨_,_,_,rfl⟩)
theorem Cl.range2 {a b:Int}:Cl g D (.top (.type "range")) [.int a,.int b] [] os (.ref os.length) (os++[.range a b 1]):=fun ρ x xs ks hx hxs hks=>by
 obtain rfl:x=.type "range":=hx
 cases hks
 cases hxs with
 | cons r rs=>
  cases rs with
  | cons r' rs=>
   cases rs
   obtain⟨t,rfl⟩:=r
   obtain⟨u,rfl⟩:=r'
   exact fun A s hr hh hk=>call_range_2 (nJ hh hk rfl fun _=>⟨_,_,_,rfl⟩)
theorem Cl.range3 {a b c:Int} (hc:c≠0) (hp:Builtin.divisionGoesByPylong (b - a) c=false):Cl g D (.top (.type "range")) [.int a,.int b,.int c] [] os (.ref os.length) (os++[.range a b c]):=fun ρ x xs ks hx hxs hks=>by
 obtain rfl:x=.type "range":=hx
 cases hks
 cases hxs with
 | cons r rs=>
  cases rs with
  | cons r' rs=>
   cases rs with
   | cons r'' rs=>
    cases rs
    obtain⟨t,rfl⟩:=r
    obtain⟨u,rfl⟩:=r'
    obtain⟨v,rfl⟩:=r''
    exact fun A s hr hh hk=>call_range_3 hc (nJ hh hk rfl fun _=>⟨_,_,_,rfl⟩) (.inl hp)
noncomputable def b9 (a c:Int) (n:Nat):List V:=(K0 n).map fun(i:Nat)=>V.int (a + (i:Int) * c)
theorem wo {a c:Int} (h:(b9 a c n)[k]?=some v):k < n/\v=.int (a + k * c):=by
 unfold b9 at h
 rw[KX] at h
 by_cases hk:k < n
 .rw[MP hk] at h
  exact⟨hk,(Lu h).symm⟩
 .rw[Kv (by rw[M0];lia)] at h
  exact nS h
theorem ae.of_get {R:α->β->Prop} {xs:List α} {ys:List β} (hl:xs.length=ys.length) (h:∀(k:Nat) x y,xs[k]?=some x->ys[k]?=some y->R x y):ae R xs ys:=by
 induction xs generalizing ys with
 | nil=>cases ys with
  | nil=>exact .nil
  | cons _ _=>cases hl
 | cons x xs ih=>cases ys with
  | nil=>cases hl
  | cons y ys=>exact .cons (h 0 x y rfl rfl) (ih (Nat.succ.inj hl) fun k x y hx hy=>h (k + 1) x y hx hy)
theorem ae.of_items {a c:Int} {acc:Array Kd} (h:ItemsOf (fun i v=>∃t,v=.int (a + i * c) t) acc n):ae (RelV ρ) (b9 a c n) acc.toList:=by
 refine ae.of_get (by have:=h.1;rw[show(b9 a c n).length=n by simp[b9],<- this];simp) fun k x y hx hy=>?_
 obtain⟨_,rfl⟩:=wo hx
 exact h.2 k y (by rw[<- Lm];exact hy)
theorem Cl.listRange {a b c:Int} (ho:os[i]?=some (.range a b c)) (hs:Mt a b c=true) (hn:Ln a b c=n) (hz:n <=2 ^ 24) :
  Cl g D (.top (.type "list")) [.ref i] [] os (.ref os.length) (os++[.list (b9 a c n)]):=fun ρ x xs ks hx hxs hks=>by
 obtain rfl:x=.type "list":=hx
 cases hks
 cases hxs with
 | cons r rs=>
  cases rs
  intro A s hr hh hk
  obtain⟨r,t,u,v,rfl,ha,e⟩:=hh.range ho r
  refine call_list_range hr.handled e hs hn hz fun h' tk acc' c' keep hl hi=>?_
  refine⟨ρ++[s.heap.objs.size],⟨s.heap.objs.size,by rw[<- hh.len];simp,rfl⟩,hh.push (Km _) (aV hk) keep hl ⟨acc',c',rfl,ae.of_items hi⟩,.of ⟨[s.heap.objs.size],rfl,fun a ha=>?_⟩ (fun b o e _ _=>keep b o e) (fun b o e=>⟨o,keep b o e⟩) rfl rfl⟩
  simp at ha
  subst ha
  cases q:s.heap.get? s.heap.objs.size with
  | none=>rfl
  | some o=>exact absurd (KJ q) (KM _)
theorem Cl.min2 {a b:Int}:Cl g D (.top (.builtin "min")) [.int a,.int b] [] os (.int (if b < a then b else a)) os:=fun ρ x xs ks hx hxs hks=>by
 obtain rfl:x=.builtin "min":=hx
 cases hks
 cases hxs with
 | cons r rs=>
  cases rs with
  | cons r' rs=>
   cases rs
   obtain⟨t,rfl⟩:=r
   obtain⟨u,rfl⟩:=r'
   refine Lf.grow fun A s hr hh hk=>min_two_ints hr.handled fun h' tk keep=>?_
   refine⟨?_,keep,rfl,rfl⟩
   by_cases hc:b < a
   .rw[if_pos hc,if_pos hc];exact⟨_,rfl⟩
   .rw[if_neg hc,if_neg hc];exact⟨_,rfl⟩
noncomputable def dG (g:G) (D:Nat) (a i v:V) (os os':List O):Prop:=∀ρ x y z,RelV ρ a x->RelV ρ i y->RelV ρ v z->Lf g D os ρ (setItem x y z) (fun _ _=>True) os'
theorem dG.list {xs:List V} {k:Int} (ho:os[i]?=some (.list xs)) (h0:0 <=k) (hk:k < 2 ^ 63) (hn:k < xs.length):dG g D (.ref i) (.int k) v os (os.set i (.list (xs.set k.toNat v))):=fun ρ x y z hx hy hz A s hr hh hK=>by
 obtain⟨u,rfl⟩:=hy
 obtain⟨l,items,n,rfl,ha,e,r⟩:=hh.list ho hx
 have hl:=ax e
 have len:items.size=xs.length:=by rw[<- KH];exact r.length
 unfold setItem
 try with_reducible refine KQ ?_
 first | refine J7 (Kb ?_) | skip
 refine J7 (wpAny_sequenceKey hl.typeIs (by decide) ?_)
 refine J7 (Nt (name:=J8 "__setitem__") hl.typeIs slot_list_setitem
  (M6 slot_list_setitem hl.typeIs entry_list_setitem ?_ (args_list_setitem _ _ _)))
 show J6 _ _ (Builtin.List.listSubscript? (.int k u) >>=_) _ _ s
 refine J7 (wpAny_listSubscript_int (fitsIndex_of h0 hk) ?_)
 clear hk
 obtain⟨j,rfl⟩:=Int.eq_ofNat_of_zero_le h0
 have hj:j < items.size:=by lia
 have hx':items[j]?=some items[j]:=MG hj
 show J6 _ _ ((seqItemAt l j >>=fun r=>pure (r.map (j,·))) >>=_) _ _ s
 refine J7 (J7 (wpAny_seqItemAt e rfl (Kb ?_)))
 rw[hx']
 show J6 _ _ (setSeqItemAt l j z >>=_) _ _ s
 obtain⟨m,hm⟩:=cM (f:=(·.setIfInBounds j z)) e
 have fin:∃ρ',True/\HR g.w.params ρ' (os.set i (.list (xs.set (Int.ofNat j).toNat v))) (s.heap.update l (Nn (·.setIfInBounds j z)))/\Go [] ρ s ρ { s with heap:=s.heap.update l (Nn (·.setIfInBounds j z)) }/\ρ'=ρ:=
  ⟨ρ,trivial,hh.set ha (Lc ..) hm ⟨_,m,rfl,by rw[Array.toList_setIfInBounds];exact r.set hz j⟩,eS (Kq ha) hm,rfl⟩
 obtain⟨ρ',_,f1,f2,rfl⟩:=fin
 refine J7 (wpAny_setSeqItemAt e rfl ?_)
 first
  | exact J7 (Kb (Kb ⟨.none,rfl,Kb ⟨_,trivial,f1,f2⟩⟩))
  | exact Kb ⟨.none,rfl,Kb ⟨_,trivial,f1,f2⟩⟩
theorem Ev.orT {x y:Expr} {a:V} (h:Ev g D sc σ x a σ₁) (t:bV g D a σ₁.os true os'):Ev g D sc σ (.BoolOp .Or [x,y] pos) a ⟨os',σ₁.loc⟩:=fun A env ρ s he hr hs=>
 wpAny_Or2 (h.use he hr hs fun u s1 ρ1 r st1 g1=>(t ρ1 u r).use hr st1 fun b s2 ρ2 e st2 g2=>by
  obtain rfl:b=true:=e
  exact⟨ρ2,r.go g2,st2,g1.trans g2⟩)
theorem Ev.orF {x y:Expr} {a:V} (h:Ev g D sc σ x a σ₁) (t:bV g D a σ₁.os false os') (k:Ev g D sc ⟨os',σ₁.loc⟩ y v σ₂):Ev g D sc σ (.BoolOp .Or [x,y] pos) v σ₂:=fun A env ρ s he hr hs=>
 wpAny_Or2 (h.use he hr hs fun u s1 ρ1 r st1 g1=>(t ρ1 u r).use hr st1 fun b s2 ρ2 e st2 g2=>by
  obtain rfl:b=false:=e
  exact k.use he hr st2 fun w s3 ρ3 rw st₃ g3=>⟨ρ3,rw,st₃,(g1.trans g2).trans g3⟩)
theorem Ev.andF {x y:Expr} {a:V} (h:Ev g D sc σ x a σ₁) (t:bV g D a σ₁.os false os'):Ev g D sc σ (.BoolOp .And [x,y] pos) a ⟨os',σ₁.loc⟩:=fun A env ρ s he hr hs=>
 wpAny_And2 (h.use he hr hs fun u s1 ρ1 r st1 g1=>(t ρ1 u r).use hr st1 fun b s2 ρ2 e st2 g2=>by
  obtain rfl:b=false:=e
  exact⟨ρ2,r.go g2,st2,g1.trans g2⟩)
theorem Ev.andT {x y:Expr} {a:V} (h:Ev g D sc σ x a σ₁) (t:bV g D a σ₁.os true os') (k:Ev g D sc ⟨os',σ₁.loc⟩ y v σ₂):Ev g D sc σ (.BoolOp .And [x,y] pos) v σ₂:=fun A env ρ s he hr hs=>
 wpAny_And2 (h.use he hr hs fun u s1 ρ1 r st1 g1=>(t ρ1 u r).use hr st1 fun b s2 ρ2 e st2 g2=>by
  obtain rfl:b=true:=e
  exact k.use he hr st2 fun w s3 ρ3 rw st₃ g3=>⟨ρ3,rw,st₃,(g1.trans g2).trans g3⟩)
theorem Ev.ifexp {t x y:Expr} {b:Bool} (h:Tr g D sc σ t b σ₁) (k:Ev g D sc σ₁ (if b then x else y) v σ₂):Ev g D sc σ (.IfExp t x y pos) v σ₂:=fun A env ρ s he hr hs=>
 wpAny_IfExp (h.use he hr hs fun u s1 ρ1 r st1 g1=>by
  obtain rfl:u=b:=r
  cases u <;> exact k.use he hr st1 fun w s2 ρ2 rw st2 g2=>⟨ρ2,rw,st2,g1.trans g2⟩)
theorem Ev.neg {i:Int} (h:Ev g D sc σ e (.int i) σ₁):Ev g D sc σ (.UnaryOp .USub e pos) (.int (-i)) σ₁:=fun A env ρ s he hr hs=>
 wpAny_UnaryOp (h.use he hr hs fun u s1 ρ1 r st1 g1=>by
  obtain⟨t,rfl⟩:=r
  exact PyProof.Rows.neg_int ⟨ρ1,⟨_,rfl⟩,st1.toks _,g1.trans (Go.toks ..)⟩)
theorem Ex.expr {pos:Pos} (h:Ev g D sc σ e v σ₁) (hp:cX e=true:=by rfl):Ex g D sc σ (.Expr e pos) .next σ₁:=fun A env ρ s he hr hs=>
 wpAny_Expr_any (h.use he hr hs fun x s1 ρ1 r st1 g1=>⟨ρ1,rfl,st1,g1⟩) (by unfold interactive;rw[hs.er.kind];rfl) (ce hp _ _ _)
structure Nx (g:G) (D:Nat) (ρ:List Kj) (itA:Kj) (P:Nat->Obj->Prop) (nx:Nat->List O->Option (Option V)):Prop where
 item:∀(k:Nat) (v:V) (A:Lj) (s:Kl) (os:List O) (ob:Obj),nx k os=some (some v)->aB D A->HR g.w.params ρ os s.heap->s.heap.get? itA=some ob->P k ob->
  J6 (Kx PW g.w) A (pyNext (.ref itA)) (fun r s'=>∃x h' tk ob',r=some x/\RelV ρ v x/\s'={ s with heap:=h',toks:=tk }/\Lb itA s.heap h'/\h'.get? itA=some ob'/\P (k + 1) ob') (fun _ _=>False) s
 stop:∀(k:Nat) (A:Lj) (s:Kl) (os:List O) (ob:Obj),nx k os=some none->aB D A->HR g.w.params ρ os s.heap->s.heap.get? itA=some ob->P k ob->
  J6 (Kx PW g.w) A (pyNext (.ref itA)) (fun r s'=>r=none/\∃h',s'={ s with heap:=h' }/\Heap.ExtBut itA s.heap h') (fun _ _=>False) s
 again:∀(k:Nat) (A:Lj) (s:Kl) (ob:Obj) (Q:Kd->Kl->Prop) (E:Kd->Kl->Prop),s.heap.get? itA=some ob->P k ob->Q (.ref itA) s->J6 (Kx PW g.w) A (pyIter (.ref itA)) Q E s
 tup:∀(k:Nat) (ob:Obj),P k ob->∃n,ob.cls=.type n/\(["enumerate","zip","dict_itemiterator","dict_reverseitemiterator","odict_iterator","itertools.zip_longest","itertools.pairwise"].contains n)=false
set_option backward.match.sparseCases true in
theorem dF {t:Expr} {r:Kj} {v:Kd} {Q:Unit->Kl->Prop} (ho:s.heap.get? r=some ob)
  (hc:∃n,ob.cls=.type n/\(["enumerate","zip","dict_itemiterator","dict_reverseitemiterator","odict_iterator","itertools.zip_longest","itertools.pairwise"].contains n)=false) (h:Q () s) :
  J6 (Kx prog w) A (letOwnedTupleGo t (.ref r) v) Q E s:=by
 obtain⟨n,hc,hn⟩:=hc
 have key:J6 (Kx prog w) A (do
   let(.ref r,.ref a):=(Value.ref r,v) | return
   let o <- load r
   match o.cls,o.data with
   | .type n,.fields vs=>
    if["enumerate","zip","dict_itemiterator","dict_reverseitemiterator","odict_iterator","itertools.zip_longest","itertools.pairwise"].contains n&&vs[0]?==some (rawInt a) then
     rule "for.unpacks-the-owned-tuple"
     updateField r 0 .none
   | _,_=>pure ()) Q E s:=by
  cases v with
  | ref a=>
   refine J7 (LA ho ?_)
   rw[hc]
   cases ob.data <;> first | exact Kb h | (dsimp only;rw[hn];exact Kb h)
  | _=>exact Kb h
 cases t <;> first | exact Kb h | exact key
noncomputable def aZ (g:G) (D:Nat) (a:V) (os:List O) (nx:Nat->List O->Option (Option V)):Prop:=∀(ρ:List Kj) (x:Kd),RelV ρ a x->∀(A:Lj) (s:Kl),aB D A->HR g.w.params ρ os s.heap->g.K.In s.heap->
 J6 (Kx PW g.w) A (pyIter x) (fun y s'=>∃itA h' tk ob P,y=.ref itA/\s'={ s with heap:=h',toks:=tk }/\Gr s.heap h'/\s.heap.objs.size <=itA/\h'.get? itA=some ob/\P 0 ob/\∀ν,Nx g D (ρ++ν) itA P nx) (fun _ _=>False) s
noncomputable def cg (i:Nat) (k:Nat) (os:List O):Option (Option V):=os[i]?.bind fun o=>match o with
 | .list vs=>some vs[k]?
 | _=>none
theorem kt {r:Option V} (h:cg i k os=some r):∃vs,os[i]?=some (.list vs)/\vs[k]?=r:=by
 obtain⟨o,e,h⟩:=Option.bind_eq_some_iff.mp h
 cases o with
 | list vs=>exact⟨vs,e,Lu h⟩
 | _=>exact nS h
theorem aZ.list {vs:List V} (hc:os[i]?=some (.list vs)):aZ g D (.ref i) os (cg i):=fun ρ x hx A s hr hh hk=>by
 obtain⟨a,xs,n,rfl,ha,e,r⟩:=hh.list hc hx
 refine wpAny_pyIter_list (ax e) ⟨s.heap.objs.size,_,s.toks,_,fun k ob=>ob.cls=.type "list_iterator"/\ob.data=.fields #[.ref a,.int k 0],rfl,rfl,(Gr.refl _).push _,Km _,Ku _ rfl,⟨rfl,rfl⟩,fun ν=>⟨?_,?_,?_,?_⟩⟩
 .intro k v A s os ob hv hr hh ho hP
  obtain⟨ws,hc,hv⟩:=kt hv
  have ha':(ρ++ν)[i]?=some a:=get_app ha
  obtain⟨a',ys,m,e1,ha2,e2,r2⟩:=hh.list hc (x:=.ref a) ⟨a,ha',rfl⟩
  cases e1
  obtain⟨y,q1,q2⟩:=r2.arr hv
  exact wpAny_pyNext_list_item ⟨ob,ho,hP.1,hP.2⟩ (ax e2) q1 fun h' hit hs=>let⟨ob',p1,p2,p3⟩:=hit;⟨y,h',s.toks,ob',rfl,q2,rfl,hs,p1,p2,p3⟩
 .intro k A s os ob hv hr hh ho hP
  obtain⟨ws,hc,hv⟩:=kt hv
  have ha':(ρ++ν)[i]?=some a:=get_app ha
  obtain⟨a',ys,m,e1,ha2,e2,r2⟩:=hh.list hc (x:=.ref a) ⟨a,ha',rfl⟩
  cases e1
  refine wpAny_pyNext_list_end hr.handled ⟨ob,ho,hP.1,hP.2⟩ (ax e2) ?_ fun h' hx=>⟨rfl,h',rfl,hx⟩
  rw[<- Lm]
  exact Kv (by rw[r2.length];exact List.getElem?_eq_none_iff.mp hv)
 .intro k A s ob Q E ho hP hq
  exact wpAny_pyIter_listiter (l:=a) (i:=k) ⟨ob,ho,hP.1,hP.2⟩ hq
 .intro k ob hP
  exact⟨_,hP.1,by decide⟩
noncomputable def cj (i:Nat) (k:Nat) (os:List O):Option (Option V):=os[i]?.bind fun o=>match o with
 | .tuple vs=>some vs[k]?
 | _=>none
theorem jq {r:Option V} (h:cj i k os=some r):∃vs,os[i]?=some (.tuple vs)/\vs[k]?=r:=by
 obtain⟨o,e,h⟩:=Option.bind_eq_some_iff.mp h
 cases o with
 | tuple vs=>exact⟨vs,e,Lu h⟩
 | _=>exact nS h
theorem oi (e:h.get? a=some ⟨.type "tuple",none,.seq vs n,#[]⟩):h.IsTuple a vs:=⟨_,e,rfl,n,rfl⟩
theorem aZ.tuple {vs:List V} (hc:os[i]?=some (.tuple vs)):aZ g D (.ref i) os (cj i):=fun ρ x hx A s hr hh hk=>by
 obtain⟨a,xs,n,rfl,ha,e,r⟩:=hh.tuple hc hx
 refine wpAny_pyIter_tuple (oi e) ⟨s.heap.objs.size,_,s.toks,_,fun k ob=>ob.cls=.type "tuple_iterator"/\ob.data=.fields #[.ref a,.int k 0],rfl,rfl,(Gr.refl _).push _,Km _,Ku _ rfl,⟨rfl,rfl⟩,fun ν=>⟨?_,?_,?_,?_⟩⟩
 .intro k v A s os ob hv hr hh ho hP
  obtain⟨ws,hc,hv⟩:=jq hv
  have ha':(ρ++ν)[i]?=some a:=get_app ha
  obtain⟨a',ys,m,e1,ha2,e2,r2⟩:=hh.tuple hc (x:=.ref a) ⟨a,ha',rfl⟩
  cases e1
  obtain⟨y,q1,q2⟩:=r2.arr hv
  exact wpAny_pyNext_tuple_item ⟨ob,ho,hP.1,hP.2⟩ (oi e2) q1 fun h' hit hs=>let⟨ob',p1,p2,p3⟩:=hit;⟨y,h',s.toks,ob',rfl,q2,rfl,hs,p1,p2,p3⟩
 .intro k A s os ob hv hr hh ho hP
  obtain⟨ws,hc,hv⟩:=jq hv
  have ha':(ρ++ν)[i]?=some a:=get_app ha
  obtain⟨a',ys,m,e1,ha2,e2,r2⟩:=hh.tuple hc (x:=.ref a) ⟨a,ha',rfl⟩
  cases e1
  refine wpAny_pyNext_tuple_end hr.handled ⟨ob,ho,hP.1,hP.2⟩ (oi e2) ?_ fun h' hx=>⟨rfl,h',rfl,hx⟩
  rw[<- Lm]
  exact Kv (by rw[r2.length];exact List.getElem?_eq_none_iff.mp hv)
 .intro k A s ob Q E ho hP hq
  exact wpAny_pyIter_tupleiter (t:=a) (i:=k) ⟨ob,ho,hP.1,hP.2⟩ hq
 .intro k ob hP
  exact⟨_,hP.1,by decide⟩
noncomputable def bF (a c:Int) (n:Nat) (k:Nat) (os:List O):Option (Option V):=some (if k < n then some (.int (a + k * c)) else none)
theorem aZ.range {a b c:Int} (hc:os[i]?=some (.range a b c)) (hs:Mt a b c=true) (hn:Ln a b c=n):aZ g D (.ref i) os (bF a c n):=fun ρ x hx A s hr hh hk=>by
 obtain⟨r,t,u,v,rfl,ha,e⟩:=hh.range hc hx
 refine wpAny_pyIter_range e hs ⟨s.heap.objs.size,_,s.toks,_,fun k ob=>(k:Int) <=n/\ob=⟨.type "range_iterator",none,.fields #[rawInt (a + k * c),rawInt (n - k),rawInt c],#[]⟩,rfl,rfl,(Gr.refl _).push _,Km _,Ku _ rfl,⟨by lia,by simp[hn]⟩,fun ν=>⟨?_,?_,?_,?_⟩⟩
 .rintro k v A s os ob hv hr hh ho ⟨hk,rfl⟩
  unfold bF at hv
  by_cases hlt:k < n
  .rw[if_pos hlt] at hv
   cases hv
   refine wpAny_pyNext_range_item ho (by lia) fun h' hit hs=>⟨_,h',_,_,rfl,⟨_,rfl⟩,rfl,hs,hit,by lia,?_⟩
   have e1:a + ((k + 1:Nat):Int) * c=a + k * c + c:=by rw[Int.natCast_add,Int.add_mul];simp[Int.add_assoc]
   have e2:(n:Int) - ((k + 1:Nat):Int)=n - k - 1:=by lia
   rw[e1,e2]
  .rw[if_neg hlt] at hv;cases hv
 .rintro k A s os ob hv hr hh ho ⟨hk,rfl⟩
  unfold bF at hv
  by_cases hlt:k < n
  .rw[if_pos hlt] at hv;cases hv
  .exact wpAny_pyNext_range_end hr.handled ho (by lia) fun h' hx=>⟨rfl,h',rfl,hx⟩
 .rintro k A s ob Q E ho ⟨hk,rfl⟩ hq
  exact wpAny_pyIter_rangeiter ho hq
 .rintro k ob ⟨hk,rfl⟩
  exact⟨_,rfl,by decide⟩
noncomputable def gJ (x:Str) (k:Nat) (os:List O):Option (Option V):=some ((x.cps[k]?).map fun c=>.str ⟨#[c]⟩)
theorem aZ.str:aZ g D (.str x) os (gJ x):=fun ρ y hy A s hr hh hk=>by
 obtain⟨t,rfl⟩:=hy
 have item:∀{k:Nat} {v:V} {os:List O},gJ x k os=some (some v)->∃c,x.cps[k]?=some c/\v=.str ⟨#[c]⟩:=fun {k v os} h=>by
  unfold gJ at h
  obtain⟨c,h1,h2⟩:=Option.map_eq_some_iff.mp (Lu h)
  exact⟨c,h1,h2.symm⟩
 have none_:∀{k:Nat} {os:List O},gJ x k os=some none->x.cps[k]?=none:=fun {k os} h=>by
  unfold gJ at h
  exact Option.map_eq_none_iff.mp (Lu h)
 cases hA:x.cps.all (· < 128) with
 | true=>
  refine wpAny_pyIter_ascii hA ⟨s.heap.objs.size,_,s.toks,_,fun k ob=>ob.cls=.type "str_ascii_iterator"/\ob.data=.fields #[.str x t,.int k 0],rfl,rfl,(Gr.refl _).push _,Km _,Ku _ rfl,⟨rfl,rfl⟩,fun ν=>⟨?_,?_,?_,?_⟩⟩
  .intro k v A s os ob hv hr hh ho hP
   obtain⟨c,h1,rfl⟩:=item hv
   exact wpAny_pyNext_ascii_item ⟨ob,ho,hP.1,hP.2⟩ h1 fun h' hit hs=>let⟨ob',p1,p2,p3⟩:=hit;⟨_,h',s.toks + 1,ob',rfl,⟨_,rfl⟩,rfl,hs,p1,p2,p3⟩
  .intro k A s os ob hv hr hh ho hP
   exact wpAny_pyNext_ascii_end hr.handled ⟨ob,ho,hP.1,hP.2⟩ (none_ hv) fun h' hx=>⟨rfl,h',rfl,hx⟩
  .intro k A s ob Q E ho hP hq
   exact wpAny_pyIter_striter_ascii (x:=x) (t:=t) (i:=k) ⟨ob,ho,hP.1,hP.2⟩ hq
  .intro k ob hP
   exact⟨_,hP.1,by decide⟩
 | false=>
  refine wpAny_pyIter_wide hA ⟨s.heap.objs.size,_,s.toks,_,fun k ob=>ob.cls=.type "str_iterator"/\ob.data=.fields #[.str x t,.int k 0],rfl,rfl,(Gr.refl _).push _,Km _,Ku _ rfl,⟨rfl,rfl⟩,fun ν=>⟨?_,?_,?_,?_⟩⟩
  .intro k v A s os ob hv hr hh ho hP
   obtain⟨c,h1,rfl⟩:=item hv
   exact wpAny_pyNext_wide_item ⟨ob,ho,hP.1,hP.2⟩ h1 fun h' hit hs=>let⟨ob',p1,p2,p3⟩:=hit;⟨_,h',s.toks + 1,ob',rfl,⟨_,rfl⟩,rfl,hs,p1,p2,p3⟩
  .intro k A s os ob hv hr hh ho hP
   exact wpAny_pyNext_wide_end hr.handled ⟨ob,ho,hP.1,hP.2⟩ (none_ hv) fun h' hx=>⟨rfl,h',rfl,hx⟩
  .intro k A s ob Q E ho hP hq
   exact wpAny_pyIter_striter_wide (x:=x) (t:=t) (i:=k) ⟨ob,ho,hP.1,hP.2⟩ hq
  .intro k ob hP
   exact⟨_,hP.1,by decide⟩
structure bE (g:G) (D:Nat) (ow:List Kj) (itA:Kj) (P:Nat->Obj->Prop) (nx:Nat->List O->Option (Option V)) (k:Nat) (ρ:List Kj) (s:Kl):Prop where
 rho:itA∉ρ
 nown:itA∉ow
 hi:N0 <=itA
 ob:∃ob,s.heap.get? itA=some ob/\P k ob
 nx:∀ν,Nx g D (ρ++ν) itA P nx
theorem bE.go {ow:List Kj} {P:Nat->Obj->Prop} (x:bE g D ow itA P nx k ρ s) (y:Go ow ρ s ρ' s'):bE g D ow itA P nx k ρ' s':=by
 obtain⟨ob,h1,h2⟩:=x.ob
 obtain⟨a,b⟩:=y.aside h1 x.rho x.nown x.hi
 obtain⟨ν,e,_⟩:=y.pre
 refine⟨b,x.nown,x.hi,⟨ob,a,h2⟩,fun μ=>?_⟩
 rw[e,KG]
 exact x.nx _
theorem bE.new {a:V} {x:Kd} (hit:aZ g D a σ.os nx) (rx:RelV ρ a x) (hr:aB D A) (st:St g env σ ρ s)
  (k:∀itA P s',bE g D (own env) itA P nx 0 ρ s'->s.heap.get? itA=none->St g env σ ρ s'->Go [] ρ s ρ s'->Q (.ref itA) s'):J6 (Kx PW g.w) A (pyIter x) Q E s:=by
 refine Kr (hit ρ x rx A s hr st.hr st.k) ?_ (fun _ _ z=>z.elim)
 rintro y s2 ⟨itA,h2,tk2,ob,P,rfl,rfl,gr,hlo,hob,hP,hn⟩
 have itNew:s.heap.get? itA=none:=by
  cases q:s.heap.get? itA with
  | none=>rfl
  | some o=>exact absurd (KJ q) (Nat.not_lt.mpr hlo)
 have itHi:N0 <=itA:=Lh (aV st.k) hlo
 have itOwn:itA∉Internal.own env:=fun hm=>by
  rcases Ka.mp hm with q | q
  .obtain⟨mm,⟨oL,_,_,hoL,_⟩,_⟩:=st.er.loc
   rw[<- q,itNew] at hoL;exact nS hoL
  .obtain⟨p,hp,rfl⟩:=List.mem_map.mp q
   obtain⟨_,⟨ob',e⟩,_⟩:=st.er.clow p hp
   rw[itNew] at e;exact nS e
 have itRho:itA∉ρ:=fun hm=>by
  obtain⟨ob',e⟩:=(st.hr.hi _ hm).2
  rw[itNew] at e;exact nS e
 exact k itA P _ ⟨itRho,itOwn,itHi,⟨ob,hob,hP⟩,hn⟩ itNew (st.other (fun b o _ e=>gr b o e) itRho itOwn itHi) (Gr.go (s':={ s with heap:=h2,toks:=tk2 }) gr rfl rfl)
theorem bE.item {P:Nat->Obj->Prop} {Q:Option Kd->Kl->Prop} (x:bE g D (own env) itA P nx k ρ s) (hr:aB D A) (st:St g env σ ρ s) (hx:nx k σ.os=some (some v))
  (q:∀y s',RelV ρ v y->bE g D (own env) itA P nx (k + 1) ρ s'->St g env σ ρ s'->Go ([itA]++own env) ρ s ρ s'->Q (some y) s'):J6 (Kx PW g.w) A (pyNext (.ref itA)) Q E s:=by
 obtain⟨ob,h1,h2⟩:=x.ob
 have hn:=x.nx []
 rw[KZ] at hn
 refine Kr (hn.item k v A s _ ob hx hr st.hr h1 h2) ?_ (fun _ _ z=>z.elim)
 rintro r s'' ⟨y,h',tk',ob',rfl,rv,rfl,same,ho',hP'⟩
 exact q y _ rv ⟨x.rho,x.nown,x.hi,⟨ob',ho',hP'⟩,x.nx⟩ (st.other (fun b o hb e=>(same.2 b hb).trans e) x.rho x.nown x.hi)
  (.of ⟨[],(KZ _).symm,fun _ h=>(nomatch h)⟩ (fun b o e _ q2=>(same.2 b fun q=>q2 (q▸.head _)).trans e) (fun b o e=>cO same ho' e) rfl rfl)
theorem bE.stop {P:Nat->Obj->Prop} {Q:Option Kd->Kl->Prop} (x:bE g D (own env) itA P nx k ρ s) (hr:aB D A) (st:St g env σ ρ s) (hx:nx k σ.os=some none)
  (g0:Go ([itA]++own env) ρ₀ s₀ ρ s) (hnew:s₀.heap.get? itA=none)
  (q:∀s',St g env σ ρ s'->Go (own env) ρ₀ s₀ ρ s'->Q none s'):J6 (Kx PW g.w) A (pyNext (.ref itA)) Q E s:=by
 obtain⟨ob,h1,h2⟩:=x.ob
 have hn:=x.nx []
 rw[KZ] at hn
 refine Kr (hn.stop k A s _ ob hx hr st.hr h1 h2) ?_ (fun _ _ z=>z.elim)
 rintro r s'' ⟨rfl,h',rfl,ext⟩
 refine q _ (st.other (tk:=s.toks) (fun b o hb e=>ext b o hb e) x.rho x.nown x.hi) (Go.drop (ex:=[itA]) ⟨g0.pre,fun b o e q1 q2=>(g0.kept b o e q1 q2).map fun o' e'=>ext b o' (fun q=>q2 (q▸.head _)) e',fun b o e=>?_,g0.gens,g0.os⟩ fun a ha=>by simp at ha;subst ha;exact hnew)
 obtain⟨o',e'⟩:=g0.alive b o e
 exact⟨o',ext b o' (fun q=>by subst q;rw[hnew] at e;exact nS e) e'⟩
inductive bH (g:G) (D:Nat) (sc:Scope) (t:Expr) (body orelse:List Kz) (nx:Nat->List O->Option (Option V)) (fin:F) (σe:S):Nat->S->Prop where
 | stop {k:Nat} {σ:S}:nx k σ.os=some none->Exs g D sc σ orelse fin σe->bH g D sc t body orelse nx fin σe k σ
 | turn {k:Nat} {σ σ₁ σ₂:S} {v:V} {f:F}:nx k σ.os=some (some v)->aX g D sc σ t v σ₁->Exs g D sc σ₁ body f σ₂->(f=.next\/f=.cont)->bH g D sc t body orelse nx fin σe (k + 1) σ₂->bH g D sc t body orelse nx fin σe k σ
 | leave {k:Nat} {σ σ₁:S} {v:V} {f:F}:nx k σ.os=some (some v)->aX g D sc σ t v σ₁->Exs g D sc σ₁ body f σe->pG f=some fin->bH g D sc t body orelse nx fin σe k σ
theorem zY {t:Expr} {fin:F} (he:env.scope=sc) (hr:aB D A) (run:bH g D sc t body orelse nx fin σe k σ) :
  ∀{itA:Kj} {P:Nat->Obj->Prop} {ρ₀ ρ:List Kj} {s₀ s:Kl} {R:Mo->Kl->Prop},bE g D (own env) itA P nx k ρ s->St g env σ ρ s->Go ([itA]++own env) ρ₀ s₀ ρ s->s₀.heap.get? itA=none->
   (∀f ρ' s',dU ρ' fin f->St g env σe ρ' s'->Go (own env) ρ₀ s₀ ρ' s'->R (.ok f) s')->Ky (Kx PW g.w) A (.forLoop t (.ref itA) body orelse env) R s:=by
 induction run with
 | stop hx ho=>
  intro itA P ρ₀ ρ s₀ s R at_ st g0 hnew q
  refine KV ?_
  show J6 _ _ ((No t (.ref itA) body orelse env).onRaise (fun x=>do Ly x env;Le x)) _ _ s
  refine Lp ?_
  simp only[No]
  refine J7 (KT (J7 (NC (at_.stop hr st hx g0 hnew fun s' st' g'=>?_))))
  refine Kb (And.intro rfl (codeAny_block (ho.use he hr st' fun f s2 ρ2 rf st2 g2=>?_)))
  exact q f ρ2 s2 rf st2 (g'.trans g2)
 | turn hx ha hb hf _ ih=>
  intro itA P ρ₀ ρ s₀ s R at_ st g0 hnew q
  refine KV ?_
  show J6 _ _ ((No t (.ref itA) body orelse env).onRaise (fun x=>do Ly x env;Le x)) _ _ s
  refine Lp ?_
  simp only[No]
  refine J7 (KT (J7 (NC (at_.item hr st hx fun y s1 ry at1 st1 g1=>?_))))
  obtain⟨ob,o1,o2⟩:=at1.ob
  refine J7 (dF o1 ((at1.nx []).tup _ _ o2) ?_)
  refine J7 (Kr (ha A env _ _ y he hr st1 ry) ?_ (fun _ _ z=>z.elim))
  rintro _ s2 ⟨ρ2,st2,g2⟩
  refine J7 (hb.use he hr st2 fun fl s3 ρ3 rf st₃ g3=>?_)
  have gg:=(g0.trans g1).trans ((g2.trans g3).weak fun a h=>Kt _ h)
  rcases hf with rfl | rfl
  .obtain rfl:fl=.next:=rf
   exact Kb (And.intro rfl (ih ((at1.go g2).go g3) st₃ gg hnew q))
  .obtain rfl:fl=.cont:=rf
   exact Kb (And.intro rfl (ih ((at1.go g2).go g3) st₃ gg hnew q))
 | @leave _ _ _ _ f hx ha hb hf=>
  intro itA P ρ₀ ρ s₀ s R at_ st g0 hnew q
  refine KV ?_
  show J6 _ _ ((No t (.ref itA) body orelse env).onRaise (fun x=>do Ly x env;Le x)) _ _ s
  refine Lp ?_
  simp only[No]
  refine J7 (KT (J7 (NC (at_.item hr st hx fun y s1 ry at1 st1 g1=>?_))))
  obtain⟨ob,o1,o2⟩:=at1.ob
  refine J7 (dF o1 ((at1.nx []).tup _ _ o2) ?_)
  refine J7 (Kr (ha A env _ _ y he hr st1 ry) ?_ (fun _ _ z=>z.elim))
  rintro _ s2 ⟨ρ2,st2,g2⟩
  refine J7 (hb.use he hr st2 fun fl s3 ρ3 rf st₃ g3=>?_)
  have gg:Go (own env) ρ₀ s₀ ρ3 s3:=((g0.trans g1).trans ((g2.trans g3).weak fun a h=>Kt _ h)).drop fun a ha=>by simp at ha;subst ha;exact hnew
  cases f with
  | next=>exact nS hf
  | cont=>exact nS hf
  | brk=>
   cases hf
   obtain rfl:fl=.brk:=rf
   exact Kb (q _ _ _ rfl st₃ gg)
  | ret w=>
   cases hf
   obtain⟨z,rfl,hz⟩:=rf
   exact Kb (q _ _ _ ⟨z,rfl,hz⟩ st₃ gg)
theorem Ex.forRun {t:Expr} {pos:Pos} {a:V} {fin:F} (hi:Ev g D sc σ iter a σ₁) (hit:aZ g D a σ₁.os nx) (hrun:bH g D sc t body orelse nx fin σe 0 σ₁)
  (hs:∀env x,LP iter env x=pure x:=by intro _ _;rfl) :
  Ex g D sc σ (.For t iter body orelse pos) fin σe:=fun A env ρ s he hr st=>by
 refine wpAny_For (hi.use he hr st fun x s1 ρ1 rx st1 g1=>?_) (hs env)
 refine bE.new hit rx hr st1 fun itA P s2 at2 hnew st2 g2=>?_
 refine zY he hr hrun (ρ₀:=ρ1) (s₀:=s1) at2 st2 g2.nil hnew fun f ρ' s' rf st' g'=>?_
 exact⟨ρ',rf,st',g1.trans g'⟩
inductive dN (g:G) (D:Nat) (sc:Scope) (test:Expr) (body orelse:List Kz) (fin:F) (σe:S):S->Prop where
 | stop {σ σ₁:S}:Tr g D sc σ test false σ₁->Exs g D sc σ₁ orelse fin σe->dN g D sc test body orelse fin σe σ
 | turn {σ σ₁ σ₂:S} {f:F}:Tr g D sc σ test true σ₁->Exs g D sc σ₁ body f σ₂->(f=.next\/f=.cont)->dN g D sc test body orelse fin σe σ₂->dN g D sc test body orelse fin σe σ
 | leave {σ σ₁:S} {f:F}:Tr g D sc σ test true σ₁->Exs g D sc σ₁ body f σe->pG f=some fin->dN g D sc test body orelse fin σe σ
theorem Cn {fin:F} (he:env.scope=sc) (hr:aB D A) (run:dN g D sc test body orelse fin σe σ) :
  ∀{ρ₀ ρ:List Kj} {s₀ s:Kl} {R:Mo->Kl->Prop},St g env σ ρ s->Go (own env) ρ₀ s₀ ρ s->
   (∀f ρ' s',dU ρ' fin f->St g env σe ρ' s'->Go (own env) ρ₀ s₀ ρ' s'->R (.ok f) s')->Ky (Kx PW g.w) A (.whileLoop test body orelse env) R s:=by
 induction run with
 | stop ht ho=>
  intro ρ₀ ρ s₀ s R st g0 q
  refine KV ?_
  show J6 _ A ((MA test body orelse env).onRaise (fun x=>do Ly x env;Le x)) _ _ s
  refine Lp ?_
  simp only[MA]
  refine J7 (ht.use he hr st fun b s1 ρ1 e st1 g1=>?_)
  obtain rfl:b=false:=e
  simp only[LJ,if_false]
  exact J7 (ho.use he hr st1 fun f s2 ρ2 rf st2 g2=>Kb (q f ρ2 s2 rf st2 ((g0.trans g1).trans g2)))
 | turn ht hb hf _ ih=>
  intro ρ₀ ρ s₀ s R st g0 q
  refine KV ?_
  show J6 _ A ((MA test body orelse env).onRaise (fun x=>do Ly x env;Le x)) _ _ s
  refine Lp ?_
  simp only[MA]
  refine J7 (ht.use he hr st fun b s1 ρ1 e st1 g1=>?_)
  obtain rfl:b=true:=e
  simp only[if_true]
  refine J7 (hb.use he hr st1 fun fl s2 ρ2 rf st2 g2=>?_)
  have gg:=(g0.trans g1).trans g2
  rcases hf with rfl | rfl
  .obtain rfl:fl=.next:=rf
   exact Kb (And.intro rfl (ih st2 gg q))
  .obtain rfl:fl=.cont:=rf
   exact Kb (And.intro rfl (ih st2 gg q))
 | @leave _ _ f ht hb hf=>
  intro ρ₀ ρ s₀ s R st g0 q
  refine KV ?_
  show J6 _ A ((MA test body orelse env).onRaise (fun x=>do Ly x env;Le x)) _ _ s
  refine Lp ?_
  simp only[MA]
  refine J7 (ht.use he hr st fun b s1 ρ1 e st1 g1=>?_)
  obtain rfl:b=true:=e
  simp only[if_true]
  refine J7 (hb.use he hr st1 fun fl s2 ρ2 rf st2 g2=>?_)
  have gg:=(g0.trans g1).trans g2
  cases f with
  | next=>exact nS hf
  | cont=>exact nS hf
  | brk=>
   cases hf
   obtain rfl:fl=.brk:=rf
   exact Kb (q _ _ _ rfl st2 gg)
  | ret w=>
   cases hf
   obtain⟨z,rfl,hz⟩:=rf
   exact Kb (q _ _ _ ⟨z,rfl,hz⟩ st2 gg)
theorem Ex.whRun {fin:F} (hrun:dN g D sc test body orelse fin σe σ):Ex g D sc σ (.While test body orelse pos) fin σe:=fun A env ρ s he hr st=>
 wpAny_While (Cn he hr hrun (ρ₀:=ρ) (s₀:=s) st (Go.refl ..) fun f ρ' s' rf st' g'=>⟨ρ',rf,st',g'⟩)
noncomputable def gS (sc:Scope):Env:={ scope:=sc,locals:=0,globals:=0,cells:=[],qual:=default,func:=none,code:=.none,frame:=none,builtins:=0 }
theorem jf (ts:List Expr) (e:Expr) (env:Env):LY ts e env=LY ts e (gS env.scope):=rfl
noncomputable def puts:List (Str×V)->List Str->List V->List (Str×V)
 | l,x::xs,v::vs=>puts (put l x v) xs vs
 | l,_,_=>l
theorem rK (xs:List Str):∀(vs:List V) (ys:List Kd) (σ:S) (s:Kl) (Q:Unit->Kl->Prop),St g env σ ρ s->(∀x∈xs,aK env.scope x)->ae (RelV ρ) vs ys->xs.length=vs.length->
  (∀s',St g env ⟨σ.os,puts σ.loc xs vs⟩ ρ s'->Go (own env) ρ s ρ s'->Q () s')->J6 (Kx PW g.w) A (assignInOrder (xs.map fun n=>bindName env n) ys) Q E s:=by
 induction xs with
 | nil=>
  intro vs ys σ s Q st _ h hl k
  cases h with
  | nil=>exact wpAny_assignInOrder_none (k s st (Go.refl ..))
  | cons _ _=>cases hl
 | cons x xs ih=>
  intro vs ys σ s Q st hx h hl k
  cases h with
  | nil=>cases hl
  | cons h r=>
   refine wpAny_assignInOrder_more (wpAny_bindName (dI st (hx x (.head _)) h fun s1 st1 g1=>?_))
   exact ih _ _ _ s1 Q st1 (fun z hz=>hx z (.tail _ hz)) r (Nat.succ.inj hl) fun s2 st2 g2=>k s2 st2 (g1.trans g2)
theorem ae.reverse {R:α->β->Prop}:∀{l:List α} {l':List β},ae R l l'->ae R l.reverse l'.reverse
 | _,_,.nil=>.nil
 | _,_,.cons x r=>by rw[List.reverse_cons,List.reverse_cons];exact(ae.cons x .nil).append r.reverse
theorem uD {ow ρ:List Kj} (he:Heap.ExtBut s.heap.objs.size s.heap h'):Gr s.heap h':=fun b o e=>he b o (M1 (KJ e)) e
theorem St.grow {tk:Nat} (x:St g env σ ρ s) (q:Gr s.heap h'):St g env σ ρ { s with heap:=h',toks:=tk }/\Go (own env) ρ s ρ { s with heap:=h',toks:=tk }:=by
 have go:Go [] ρ s ρ { s with heap:=h',toks:=tk }:=Gr.go (s':={ s with heap:=h',toks:=tk }) q rfl rfl
 exact⟨⟨x.hr.keeps q,x.er.go go,bY (ow:=[]) x.k x.hr (fun _ h=>(nomatch h)) go⟩,go.nil⟩
theorem lr (e:h.get? a=some ⟨.type "tuple",none,.seq vs n,#[]⟩):h.IsTuple a vs:=⟨_,e,rfl,n,rfl⟩
theorem r9 (h:cX e=true) (t:Expr) (n:Nat) (env:Env):Mj [t] e n env=pure false:=by
 unfold Mj
 exact ce h _ _ _
theorem Ex.assignSw {pos:Pos} {vs:List V} {names:List Str} (h:Ev g D sc σ e (.ref i) σ₁) (ho:σ₁.os[i]?=some (.tuple vs)) (hl:names.length=vs.length) (hx:∀x∈names,aK sc x)
  (hw:LY [.Tuple ts k tp] e (gS sc)=pure (some names):=by rfl) (hp:cX e=true:=by rfl):Ex g D sc σ (.Assign [.Tuple ts k tp] e pos) .next ⟨σ₁.os,puts σ₁.loc names.reverse vs.reverse⟩:=fun A env ρ s he hr hs=>by
 subst he
 refine PyProof.Rows.Assign_Tuple_swapped (names:=names) (h.use rfl hr hs fun x s1 ρ1 rx st1 g1=>?_) (r9 hp _ _ _) ((jf _ _ _).trans hw)
 obtain⟨a,items,n,rfl,ha,e,r⟩:=st1.hr.tuple ho rx
 have len:items.size=names.length:=by rw[<- KH,r.length,hl]
 rw[<- len]
 refine wpAny_unpackItems_tuple hr.handled (lr e) fun h' ext=>?_
 obtain⟨st2,g2⟩:=st1.grow (tk:=s1.toks) (uD (ow:=[]) (ρ:=[]) ext)
 exact rK _ _ _ _ _ _ st2 (fun x hm=>hx x (List.mem_reverse.mp hm)) r.reverse (by simp[hl]) fun s3 st₃ g3=>⟨ρ1,rfl,st₃,(g1.trans g2).trans g3⟩
noncomputable def iN:Expr->Option Str
 | .Name x _=>some x
 | _=>none
theorem kf {t:Expr} (h:iN t=some x):∃p,t=.Name x p:=by
 cases t <;> first | exact⟨_,congrArg (Expr.Name · _) (Lu h)⟩ | exact nS h
theorem p5 (xs:List Str):∀(ts:List Expr) (vs:List V) (ys:List Kd) (σ:S) (s:Kl) (Q:Unit->Kl->Prop),ts.map iN=xs.map some->St g env σ ρ s->(∀x∈xs,aK env.scope x)->ae (RelV ρ) vs ys->xs.length=vs.length->
  (∀s',St g env ⟨σ.os,puts σ.loc xs vs⟩ ρ s'->Go (own env) ρ s ρ s'->Q () s')->J6 (Kx PW g.w) A (assignInOrder ((Mb ts env).map (·.2)) ys) Q E s:=by
 induction xs with
 | nil=>
  intro ts vs ys σ s Q hn st _ h hl k
  cases ts with
  | cons _ _=>cases hn
  | nil=>
   cases h with
   | nil=>exact wpAny_assignInOrder_none (k s st (Go.refl ..))
   | cons _ _=>cases hl
 | cons x xs ih=>
  intro ts vs ys σ s Q hn st hx h hl k
  cases ts with
  | nil=>cases hn
  | cons t ts=>
   obtain⟨e,hm⟩:=List.cons.inj hn
   cases h with
   | nil=>cases hl
   | cons h r=>
    obtain⟨p,rfl⟩:=kf e
    refine wpAny_assignInOrder_more (wpAny_assign_Name (dI st (hx _ (.head _)) h fun s1 st1 g1=>?_))
    exact ih _ _ _ _ s1 Q hm st1 (fun z hz=>hx z (.tail _ hz)) r (Nat.succ.inj hl) fun s2 st2 g2=>k s2 st2 (g1.trans g2)
theorem rk:∀{xs:List Str},ts.map iN=xs.map some->(Mb ts env).length=ts.length/\(Mb ts env).findIdx? (·.1)=none:=by
 induction ts with
 | nil=>exact fun _=>⟨rfl,rfl⟩
 | cons t ts ih=>
  intro xs hn
  cases xs with
  | nil=>cases hn
  | cons x xs=>
   obtain⟨e,hm⟩:=List.cons.inj hn
   obtain⟨p,rfl⟩:=kf e
   obtain⟨h1,h2⟩:=ih hm
   refine⟨congrArg (· + 1) h1,?_⟩
   show List.findIdx? _ ((false,_)::Mb ts env)=none
   rw[List.findIdx?_cons,h2]
   rfl
theorem aX.tuple {vs:List V} {xs:List Str} (ho:σ.os[i]?=some (.tuple vs)) (hn:ts.map iN=xs.map some) (hl:xs.length=vs.length) (hx:∀x∈xs,aK sc x):aX g D sc σ (.Tuple ts k tp) (.ref i) ⟨σ.os,puts σ.loc xs vs⟩:=fun A env ρ s y he hr hs hv=>by
 subst he
 obtain⟨a,items,n,rfl,ha,e,r⟩:=hs.hr.tuple ho hv
 have len:items.size=xs.length:=by rw[<- KH,r.length,hl]
 have lt:ts.length=xs.length:=by have:=congrArg List.length hn;simpa using this
 obtain⟨h1,h2⟩:=rk (env:=env) hn
 refine wpAny_assign_Tuple hr.handled (lr e) (by rw[h1,lt,len]) h2 fun h' ext=>?_
 obtain⟨st2,g2⟩:=hs.grow (tk:=s.toks) (uD (ow:=[]) (ρ:=[]) ext)
 exact p5 _ _ _ _ _ _ _ hn st2 hx r hl fun s3 st₃ g3=>⟨ρ,st₃,g2.trans g3⟩
theorem mT {kv:Str×V} {e:Me} (h:bZ P ρ kv e) (x:Str):e.key.isStr x=(kv.1==x):=by
 obtain⟨⟨t,q⟩,_⟩:=h
 rw[q];rfl
theorem find_rel (x:Str) (h:ae (bZ P ρ) es en) :
  (es.lookup x=none/\en.find? (·.key.isStr x)=none)\/∃v e,es.lookup x=some v/\en.find? (·.key.isStr x)=some e/\RelV ρ v e.val:=by
 induction h with
 | nil=>exact .inl ⟨rfl,rfl⟩
 | @cons a e _ _ h _ ih=>
  have q:=mT h x
  rw[K1,List.find?_cons,q]
  by_cases hk:x=a.1
  .rw[beq_iff_eq.mpr hk,beq_iff_eq.mpr hk.symm]
   exact .inr ⟨_,e,rfl,rfl,h.2.2⟩
  .rw[beq_eq_false_iff_ne.mpr hk,beq_eq_false_iff_ne.mpr (MK hk)]
   exact ih
theorem mQ (h:ae (bZ P ρ) es en):en.any (·.refKey)=false:=by
 induction h with
 | nil=>rfl
 | cons h _ ih=>
  rw[List.any_cons,ih,Bool.or_false]
  obtain⟨⟨t,q⟩,_⟩:=h
  unfold DictEntry.refKey
  rw[q]
theorem ph {en:Array Me} (h:ae (bZ P ρ) es en.toList) (x:Str):∃r,lookIn x ⟨.type "dict",none,.dict en n,#[]⟩=some r/\aL ρ (es.lookup x) r:=by
 unfold lookIn
 dsimp only
 rcases find_rel x h with⟨a,b⟩ | ⟨v,e,a,b,c⟩
 .refine⟨none,?_,by rw[a];trivial⟩
  rw[b,mQ h];rfl
 .exact⟨some e.val,by rw[b],by rw[a];exact c⟩
theorem Am {t:Tok} (hv:RelV ρ v y) (h:ae (bZ P ρ) es en):ae (bZ P ρ) (put es x v) (putL x (MJ P x) (.str x t) y en):=by
 induction h with
 | nil=>exact .cons ⟨⟨t,rfl⟩,rfl,hv⟩ .nil
 | @cons a _ _ _ h r ih=>
  have q:=mT h x
  unfold put putL
  rw[q]
  by_cases hk:a.1=x
  .rw[<- hk,beq_self_eq_true]
   exact .cons ⟨h.1,h.2.1,hv⟩ r
  .rw[beq_eq_false_iff_ne.mpr hk,beq_eq_false_iff_ne.mpr (MK hk)]
   exact .cons h ih
noncomputable def ie (es:List (Str×V)) (x:Str) (n:Nat):Nat:=if(es.lookup x).isSome then n else n + 1
theorem vM (h:ae (bZ P ρ) es en):putN x en n=ie es x n:=by
 unfold putN ie
 rcases find_rel x h with⟨a,b⟩ | ⟨v,e,a,b,_⟩
 .rw[a,show en.any (·.key.isStr x)=false from by simpa using List.find?_eq_none.mp b];rfl
 .rw[a,show en.any (·.key.isStr x)=true from List.any_eq_true.mpr ⟨e,List.mem_of_find?_eq_some b,List.find?_some (p:=fun(y:Me)=>y.key.isStr x) b⟩];rfl
theorem put_keys (es:List (Str×V)) (x:Str) (v:V):∀z∈(put es x v).map (·.1),z=x\/z∈es.map (·.1):=by
 induction es with
 | nil=>intro z hz;simp[put] at hz;exact .inl hz
 | cons p r ih=>
  obtain⟨k,u⟩:=p
  intro z hz
  rw[ee] at hz
  by_cases q:(x==k)=true
  .rw[if_pos q] at hz
   cases beq_iff_eq.mp q
   simp only[K6,Ka] at hz ⊢
   rcases hz with h | h
   .exact .inl h
   .exact .inr (.inr h)
  .rw[if_neg q] at hz
   simp only[K6,Ka] at hz ⊢
   rcases hz with h | h
   .exact .inr (.inl h)
   .rcases ih z h with h | h
    .exact .inl h
    .exact .inr (.inr h)
theorem tU (h:(es.map (·.1)).Nodup):((put es x v).map (·.1)).Nodup:=by
 induction es with
 | nil=>simp[put]
 | cons p r ih=>
  obtain⟨k,u⟩:=p
  rw[K6,KW] at h
  rw[ee]
  by_cases q:(x==k)=true
  .rw[if_pos q]
   cases beq_iff_eq.mp q
   rw[K6,KW];exact h
  .have hk:x≠k:=fun e=>q (beq_iff_eq.mpr e)
   rw[if_neg q,K6,KW]
   refine⟨fun hm=>?_,ih h.2⟩
   rcases put_keys r x v k hm with e | e
   .exact hk e.symm
   .exact h.1 e
theorem sk (es:List (Str×V)) (x:Str) (v:V):(put es x v).length <=es.length + 1:=by
 induction es with
 | nil=>simp[put]
 | cons p r ih=>
  rw[ee]
  by_cases q:(x==p.1)=true
  .rw[if_pos q];exact MZ _
  .rw[if_neg q];exact Nat.succ_le_succ ih
theorem HR.dict (hh:HR P ρ os h) (ho:os[i]?=some (.dict es n)) (ha:ρ[i]?=some a) :
  ∃en,h.get? a=some ⟨.type "dict",none,.dict en n,#[]⟩/\ae (bZ P ρ) es en.toList/\(es.map (·.1)).Nodup:=by
 rcases hh.ob i _ a ho ha with q | ⟨ob,e,en,rfl,r,nd⟩
 .cases q
 .exact⟨en,e,r,nd⟩
theorem HR.inst {x:Kd} (hh:HR P ρ os h) (hi:os[i]?=some (.inst C d)) (hd:os[d]?=some (.dict es n)) (hx:RelV ρ (.ref i) x) :
  ∃a b en,x=.ref a/\ρ[i]?=some a/\ρ[d]?=some b/\InstAt h a ⟨.ref C,some b,.plain,#[]⟩ C (some ⟨.type "dict",none,.dict en n,#[]⟩)/\h.get? b=some ⟨.type "dict",none,.dict en n,#[]⟩/\ae (bZ P ρ) es en.toList/\(es.map (·.1)).Nodup:=by
 obtain⟨a,ha,rfl⟩:=hx
 rcases hh.ob i _ a hi ha with q | ⟨ob,e,b,hb,rfl⟩
 .cases q
 .obtain⟨en,e2,r,nd⟩:=hh.dict hd hb
  exact⟨a,b,en,rfl,ha,hb,⟨e,rfl,rfl,e2⟩,e2,r,nd⟩
noncomputable def CA (K:Frag) (f:Option Kd):Bool:=match f with
 | none=>true
 | some a=>(MW K a "__get__").any fun g=>match g with
  | none=>true
  | some _=>takesIn K a==some false
noncomputable def iA (K:Frag) (C:Kj) (name:Str):Bool:=(clsIn K C).any fun cd=>cd.hasDict&&(LG K (.ref C) name).any (CA K)
noncomputable def ek (K:Frag) (C:Kj):Bool:=LG K (.ref C) "__getattribute__"==some (some (.builtin "object.__getattribute__"))&&LG K (.ref C) "__getattr__"==some none
noncomputable def gd:V->Bool
 | .top v=>handedIn v
 | _=>true
theorem handed_rel {x:Kd} (h:gd v=true) (r:RelV ρ v x):handedIn x=true:=by
 cases v with
 | none=>cases r;rfl
 | bool b=>cases r;rfl
 | int i=>obtain⟨t,rfl⟩:=r;rfl
 | str s=>obtain⟨t,rfl⟩:=r;rfl
 | top v=>cases r;exact h
 | ref i=>obtain⟨a,_,rfl⟩:=r;rfl
theorem pW {K:Frag} {name:Str} {v:Kd} (h:iA K C name=true) (hv:∀o,od=some o->lookIn name o=some (some v)) (ho:od.isSome=true):findObj K C od name=some (.value v):=by
 obtain⟨cd,hc,h⟩:=bh h
 obtain⟨h1,h⟩:=Bool.and_eq_true_iff.mp h
 obtain⟨f,hf,h⟩:=bh h
 obtain⟨o,rfl⟩:=Option.isSome_iff_exists.mp ho
 have e:W.ownOf cd (some o) name=some (some v):=by rw[W.ownOf,if_pos h1];exact hv o rfl
 unfold findObj
 rw[hc,hf]
 cases f with
 | none=>
  show(W.ownOf cd (some o) name).bind _=_
  rw[e];rfl
 | some a=>
  obtain⟨g,hg,h⟩:=bh h
  show(MW K a "__get__").bind _=_
  rw[hg]
  cases g with
  | none=>
   show(W.ownOf cd (some o) name).bind _=_
   rw[e];rfl
  | some g=>
   show(takesIn K a).bind _=_
   rw[beq_iff_eq.mp h]
   show(W.ownOf cd (some o) name).bind _=_
   rw[e];rfl
noncomputable def aj (g:G) (D:Nat) (a:V) (name:Str) (os:List O) (v:V) (os':List O):Prop:=∀ρ x,RelV ρ a x->Lf g D os ρ (getAttr x name true) (fun ρ' z=>RelV ρ' v z) os'
noncomputable def cI:Expr->Bool
 | .Call (.Name _ _) [] [] _=>false
 | _=>true
theorem k9 {o:Expr} (h:cI o=true) (attr:Str) (env:Env) (whole:Sem Kd):attributeBase o attr env whole=whole:=by
 cases o with
 | Call f as ks p=>
  cases f with
  | Name id q=>cases as with
   | nil=>cases ks with
    | nil=>exact nB h
    | cons _ _=>rfl
   | cons _ _=>rfl
  | _=>rfl
 | _=>rfl
theorem Ev.attr {name:Str} {pos:Pos} {a:V} (h:Ev g D sc σ e a σ₁) (k:aj g D a name σ₁.os v os') (hb:cI e=true:=by rfl):Ev g D sc σ (.Attribute e name pos) v ⟨os',σ₁.loc⟩:=fun A env ρ s he hr hs=>
 Attribute_any_ (h.use he hr hs fun x s1 ρ1 rx st1 g1=>(k ρ1 x rx).use hr st1 fun z s2 ρ2 rz st2 g2=>⟨ρ2,rz,st2,g1.trans g2⟩) (by
  show(do
   let o <- attributeBase e name env (KP e env)
   K8 pos.atName
   let r <- K3 [o] (getAttr o name true)
   letTemporaryGo e o r
   pure r)=_
  rw[k9 hb])
theorem aj.own {name:Str} (hi:os[i]?=some (.inst C d)) (hd:os[d]?=some (.dict es n)) (hv:es.lookup name=some v)
  (h1:iA g.K C name=true) (h2:ek g.K C=true) (h3:gd v=true):aj g D (.ref i) name os v os:=fun ρ x hx=>Lf.pure fun A s hr hh hk=>by
 obtain⟨a,b,en,rfl,_,_,I,hO'⟩:=hh.inst hi hd hx
 obtain⟨_,r,_⟩:=hO'
 obtain⟨y,q1,q2⟩:=ph (n:=n) r name
 rw[hv] at q2
 cases y with
 | none=>exact q2.elim
 | some y=>exact get_value hk I (beq_iff_eq.mp (Bool.and_eq_true_iff.mp h2).1) (pW h1 (fun o e=>by cases e;exact q1) rfl) (handed_rel h3 q2) ⟨q2,rfl,rfl,rfl⟩
noncomputable def an (g:G) (a:V) (name:Str) (os:List O) (f:V):Prop:=∀(A:Lj) (ρ:List Kj) (s:Kl) (x:Kd) (pl:Sem Bool) (Q:Kd×List Kd->Kl->Prop) (E:Kd->Kl->Prop),RelV ρ a x->HR g.w.params ρ os s.heap->g.K.In s.heap->
 (∀y tk,RelV ρ f y->Q (y,[x]) { s with toks:=tk })->J6 (Kx PW g.w) A (getMethod x name pl) Q E s
noncomputable def pk (K:Frag) (C:Kj) (name:Str):Option Kj:=(LG K (.ref C) name).bind fun o=>o.bind fun v=>match v with
 | .ref f=>if Na K (.ref f)==some (.type "function") then some f else none
 | _=>none
theorem sx {K:Frag} {name:Str} {f:Kj} (h:pk K C name=some f):LG K (.ref C) name=some (some (.ref f))/\Na K (.ref f)=some (.type "function"):=by
 obtain⟨o,q,h⟩:=Option.bind_eq_some_iff.mp h
 obtain⟨v,rfl,h⟩:=Option.bind_eq_some_iff.mp h
 cases v with
 | ref a=>
  by_cases q2:(Na K (.ref a)==some (.type "function"))=true
  .cases (if_pos q2).symm.trans h
   exact⟨q,beq_iff_eq.mp q2⟩
  .cases (if_neg q2).symm.trans h
 | _=>exact nS h
theorem an.own {f:Kj} {name:Str} (hi:os[i]?=some (.inst C d)) (hd:os[d]?=some (.dict es n)) (hv:es.lookup name=none)
  (h1:pk g.K C name=some f) (h2:ek g.K C=true):an g (.ref i) name os (.top (.ref f)):=fun A ρ s x pl Q E hx hh hk q=>by
 obtain⟨a,b,en,rfl,_,_,I,hO'⟩:=hh.inst hi hd hx
 obtain⟨_,r,_⟩:=hO'
 obtain⟨y,q1,q2⟩:=ph (n:=n) r name
 rw[hv] at q2
 obtain⟨f1,f2⟩:=sx h1
 obtain⟨g1,g2⟩:=Bool.and_eq_true_iff.mp h2
 cases y with
 | some y=>exact q2.elim
 | none=>exact method_fn hk I (beq_iff_eq.mp g1) (beq_iff_eq.mp g2) f1 f2 (by show(lookIn name _).map (·.isSome)=_;rw[q1];rfl) (q _ s.toks rfl)
noncomputable def bJ (apos pos:Pos) (n:Nat):Bool:=apos.endLine==pos.line&&decide (n + 1 < 30)
theorem eA {o:Expr} {name:Str} {args:List Expr} (hb:cI o=true) (hp:bJ apos pos (args.length + kws.length)=true) (ha:aW args=true) (hk:bO kws=true) :
  KP (.Call (.Attribute o name apos) args kws pos) env=(do
   let ov <- KP o env
   K8 apos.atName
   let(f,first) <- K3 [ov] (getMethod ov name (do return (<- importBound o env).getD true))
   callWith pos f first (backTo pos (starEach args env)) (Nl pos (MH kws env))):=by
 show(do
  let ov <- attributeBase o name env (KP o env)
  K8 apos.atName
  methodCall o name apos pos env ov (args.length + kws.length) (backTo pos (starEach args env)) (Nl pos (MH kws env)))=_
 rw[k9 hb]
 obtain⟨h1,h2⟩:=Bool.and_eq_true_iff.mp hp
 have few:methodCallForm (args.length + kws.length) (backTo pos (starEach args env)) (Nl pos (MH kws env))=true:=by
  unfold methodCallForm
  rw[bD hk,aF ha,aO]
  have q:(args.map fun e=>(false,KP e env)).all (!·.1)=true:=by simp
  rw[q]
  have:=of_decide_eq_true h2
  simp only[Bool.true_and,decide_eq_true_eq]
  split <;> lia
 refine congrArg _ (funext fun ov=>congrArg _ (funext fun _=>?_))
 unfold methodCall
 rw[few,show methodCallPos true o env apos pos=pure pos from if_pos (by rw[h1];rfl)]
 exact congrArg _ (funext fun fx=>pure_bind ..)
theorem Ev.meth {o:Expr} {name:Str} {args:List Expr} {apos:Pos} {a f:V} {vs:List V} (ho:Ev g D sc σ o a σ₁) (hm:an g a name σ₁.os f) (ha:bU g D sc σ₁ args vs σ₂) (hk:dC g D sc σ₂ pos kws kvs σ₃) (kp:Kp g σ₃.os f)
  (c:Cl g D f (a::vs) ((kwNames kws).zip kvs) σ₃.os v os') (h1:cI o=true:=by rfl) (h2:aW args=true:=by rfl) (h3:bO kws=true:=by rfl) (h4:(kwNames kws).length=kvs.length:=by rfl) (h5:bJ apos pos (args.length + kws.length)=true:=by rfl) :
  Ev g D sc σ (.Call (.Attribute o name apos) args kws pos) v ⟨os',σ₃.loc⟩:=fun A env ρ s he hr hs=>by
 show J6 _ _ (KP (.Call (.Attribute o name apos) args kws pos) env) _ _ _
 rw[eA h1 h5 h2 h3,aF h2,aO]
 refine J7 (ho.use he hr hs fun x s1 ρ1 rx st1 g1=>J7 (KT (J7 (KQ (hm A ρ1 s1 x _ _ _ rx st1.hr st1.k fun y tk ry=>?_)))))
 have st1':=st1.toks tk
 refine bd (bc (bM _) (bD h3) (ha.use he hr st1' fun xs s2 ρ2 rs st2 g2=>hk.use he hr st2 fun ys s3 ρ3 rys st₃ g3=>?_))
 refine kp A ρ3 s3 y _ _ ((ry.go g2).go g3) st₃.hr st₃.k fun k=>?_
 have z:=c ρ3 y (x::xs) ys ((ry.go g2).go g3) (.cons ((rx.go g2).go g3) (rs.go g3)) (by rw[(da h4).2];exact rys)
 rw[(da h4).1] at z
 rw[cV]
 exact z.use hr st₃ fun w s4 ρ4 rw st4 g4=>⟨ρ4,rw,st4,((g1.trans ((Go.toks ..).trans g2)).trans g3).trans g4⟩
noncomputable def az (g:G) (D:Nat) (a:V) (name:Str) (v:V) (os os':List O):Prop:=∀ρ x y,RelV ρ a x->RelV ρ v y->Lf g D os ρ (setAttr x name y) (fun _ _=>True) os'
noncomputable def iH (K:Frag) (C:Kj) (name:Str):Bool:=LG K (.ref C) "__setattr__"==some (some (.builtin "object.__setattr__"))&&plainOver K C&&takerIn K C name==some none&&(clsIn K C).any (·.hasDict)
theorem az.own {name:Str} (hi:os[i]?=some (.inst C d)) (hd:os[d]?=some (.dict es n)) (h1:iH g.K C name=true) (hz:es.length < 1000) :
  az g D (.ref i) name v os (os.set d (.dict (put es name v) (ie es name n))):=fun ρ x y hx hy A s hr hh hk=>by
 obtain⟨hp,gn,dr,tk,osx⟩:=s
 obtain⟨a,b,en,rfl,ha,hb,I,hO'⟩:=hh.inst hi hd hx
 obtain⟨he,r,nd⟩:=hO'
 dsimp only at he I hk hh
 simp only[iH,Kk,beq_iff_eq] at h1
 obtain⟨⟨⟨s1,s2⟩,s3⟩,s4⟩:=h1
 refine set_plain hk I s1 (osa_open (s:=⟨hp,gn,dr,tk + 1,osx⟩) hk I s2 s3 fun bb=>?_)
 obtain⟨cd,hc,hd'⟩:=any_some s4
 refine J7 (Kb (J7 (J7 (wpAny_loadPart I.at_ (J7 ((looks_clsIn hk hc).at ?_))))))
 rw[hd']
 refine Kb (a:=some b) (J7 (Kb (J7 ?_)))
 unfold nsSet
 refine J7 (J7 (wpAny_askSetting (Kb (J7 (wpAny_mkText (J7 (wpAny_loadPart he ?_)))))))
 dsimp only
 have c:(!en.any (·.key.isStr name)&&en.any (·.refKey))=false:=by
  rw[<- NG (p:=fun e=>DictEntry.refKey e),mQ r,Bool.and_false]
 rw[aRefKeyMayBeTheName_at,c]
 refine wpAny_updatePart he ?_
 obtain⟨l⟩:=en
 have hob:(hp.update b (Obj.putName name (MJ g.w.params name) (.str name (tk + 1)) y)).get? b=some ⟨.type "dict",none,.dict (putL name (MJ g.w.params name) (.str name (tk + 1)) y l).toArray (putN name l n),#[]⟩:=by
  have e:=putName_dict name (MJ g.w.params name) (.str name (tk + 1)) y l n
  have:=Lr (Obj.putName name (MJ g.w.params name) (.str name (tk + 1)) y) he (by have e':=e;unfold dictOf at e';rw[e'];rfl)
  rw[this];exact congrArg some e
 have rr:=Am (x:=name) (t:=tk + 1) hy r
 refine J7 (wpAny_lookBehind hob (pastItsLine_dict (by
  have:=rr.length
  have h3:=sk es name v
  rw[Nu,this,K4];lia)) ?_)
 refine Kb ?_
 show ∃ρ',_
 refine⟨ρ,trivial,hh.set hb (Lc ..) hob ⟨_,by rw[vM r],rr,tU nd⟩,?_⟩
 have:=eS (s:=⟨hp,gn,dr,tk,osx⟩) (Kq hb) hob
 exact⟨this.pre,this.kept,this.alive,rfl,rfl,rfl⟩
theorem aX.attr {o:Expr} {name:Str} {p:Pos} {a:V} (h1:Ev g D sc σ o a σ₁) (h2:az g D a name v σ₁.os os'):aX g D sc σ (.Attribute o name p) v ⟨os',σ₁.loc⟩:=fun A env ρ s x he hr hs hv=>by
 show J6 _ _ (do
  let ov <- K3 [x] (KP o env)
  K8 p.atName
  K3 [x,ov] (setAttr ov name x)
  release [x,ov] []) _ _ _
 exact J7 (KQ (h1.use he hr hs fun y s1 ρ1 ry st1 g1=>J7 (KT (J7 (KQ ((h2 ρ1 y x ry (hv.go g1)).use hr st1 fun _ s2 ρ2 _ st2 g2=>wpAny_release ⟨ρ2,st2,g1.trans g2⟩))))))
set_option backward.match.sparseCases true in
theorem aX.sub {o i:Expr} {p:Pos} {a k:V} (h1:Ev g D sc σ o a σ₁) (h2:Ev g D sc σ₁ i k σ₂) (h3:dG g D a k v σ₂.os os'):aX g D sc σ (.Subscript o i p) v ⟨os',σ₂.loc⟩:=fun A env ρ s x he hr hs hv=>by
 show J6 _ _ (do
  let ov <- K3 [x] (KP o env)
  let iv <- K3 [x,ov] (KP i env)
  K8 p
  K3 [x,ov,iv] (setItem ov iv x)
  release (match (generalizing:=false) i with | .Slice _ _ none _=>[iv,x,ov] | _=>[x,ov,iv]) []) _ _ _
 exact J7 (KQ (h1.use he hr hs fun y s1 ρ1 ry st1 g1=>J7 (KQ (h2.use he hr st1 fun z s2 ρ2 rz st2 g2=>J7 (KT (J7 (KQ ((h3 ρ2 y z x (ry.go g2) rz ((hv.go g1).go g2)).use hr st2 fun _ s3 ρ3 _ st₃ g3=>wpAny_release ⟨ρ3,st₃,(g1.trans g2).trans g3⟩))))))))
noncomputable def eK (g:G) (D:Nat) (sc:Scope) (σ:S) (ts:List Expr) (v:V) (σ':S):Prop:=∀(A:Lj) (env:Env) (ρ:List Kj) (s:Kl) (x:Kd),env.scope=sc->aB D A->St g env σ ρ s->RelV ρ v x->
 J6 (Kx PW g.w) A (assignAll x ((Mb ts env).map (·.2))) (fun _ s'=>∃ρ',St g env σ' ρ' s'/\Go (own env) ρ s ρ' s') (fun _ _=>False) s
theorem jF {t:Expr} (h:dO t=true):(Mb (t::ts) env).map (·.2)=PySem.assign t env::(Mb ts env).map (·.2):=by
 cases t <;> first | rfl | exact nB h
theorem eK.one {t:Expr} (h:aX g D sc σ t v σ₁) (hs:dO t=true:=by rfl):eK g D sc σ [t] v σ₁:=fun A env ρ s x he hr st hv=>by
 rw[jF hs]
 exact h A env ρ s x he hr st hv
theorem eK.cons {t u:Expr} (h:aX g D sc σ t v σ₁) (k:eK g D sc σ₁ (u::ts) v σ₂) (hs:dO t=true:=by rfl) (hs':dO u=true:=by rfl):eK g D sc σ (t::u::ts) v σ₂:=fun A env ρ s x he hr st hv=>by
 rw[jF hs]
 have e:=jF (ts:=ts) (env:=env) hs'
 show J6 _ _ (assignAll x (PySem.assign t env::(Mb (u::ts) env).map (·.2))) _ _ _
 have k':=fun ρ' s'=>k A env ρ' s' x he hr
 rw[e] at k' ⊢
 refine J7 (KQ (Kr (h A env ρ s x he hr st hv) (fun _ s1 ⟨ρ1,st1,g1⟩=>?_) fun _ _ z=>z.elim))
 exact Kr (k' ρ1 s1 st1 (hv.go g1)) (fun _ s2 ⟨ρ2,st2,g2⟩=>⟨ρ2,st2,g1.trans g2⟩) fun _ _ z=>z
theorem pP (h:cX e=true) (ts:List Expr) (n:Nat) (env:Env):Mj ts e n env=pure false:=by
 cases ts with
 | nil=>rfl
 | cons t r=>cases r with
  | nil=>exact ce h _ _ _
  | cons _ _=>rfl
theorem Ex.assignG {pos:Pos} (h:Ev g D sc σ e v σ₁) (ha:eK g D sc σ₁ ts v σ₂) (hw:LY ts e (gS sc)=pure none:=by rfl) (hp:cX e=true:=by rfl):Ex g D sc σ (.Assign ts e pos) .next σ₂:=fun A env ρ s he hr hs=>by
 subst he
 show J6 _ _ (do
  K8 pos
  if <- Mj ts e pos.line env then do
   evalThenUse e env fun v=>assignAll v ((Mb ts env).map (·.2))
   pure .next
  else do
   let v <- KP e env
   assignStores env v (<- LY ts e env) ((Mb ts env).map (·.2))) _ _ _
 rw[pP hp,(jf _ _ _).trans hw]
 refine J7 (KT (J7 (Kb ?_)))
 rw[if_neg (by decide)]
 refine J7 (h.use rfl hr hs fun x s1 ρ1 rx st1 g1=>J7 (Kb ?_))
 refine J7 (Kr (ha A env ρ1 s1 x rfl hr st1 rx) (fun _ s2 ⟨ρ2,st2,g2⟩=>Kb ⟨ρ2,rfl,st2,g1.trans g2⟩) fun _ _ z=>z.elim)
theorem Ex.augAttr {o:Expr} {name:Str} {p:Pos} {op:MF} {a b:V} {os₂ os₃:List O} (h1:Ev g D sc σ o a σ₁) (h2:aj g D a name σ₁.os u os₁) (h3:Ev g D sc ⟨os₁,σ₁.loc⟩ e b σ₂) (h4:jn g D op u b σ₂.os v os₂) (h5:az g D a name v os₂ os₃) :
  Ex g D sc σ (.AugAssign (.Attribute o name p) op e pos) .next ⟨os₃,σ₂.loc⟩:=fun A env ρ s he hr hs=>
 wpAny_AugAssign_AttributeAny (h1.use he hr hs fun x s1 ρ1 rx st1 g1=>(h2 ρ1 x rx).use hr st1 fun y s2 ρ2 ry st2 g2=>h3.use he hr st2 fun z s3 ρ3 rz st₃ g3=>(h4 ρ3 y z (ry.go g3) rz).use hr st₃ fun w s4 ρ4 rw st4 g4=>
  (h5 ρ4 x w (((rx.go g2).go g3).go g4) rw).use hr st4 fun _ s5 ρ5 _ st5 g5=>⟨ρ5,rfl,st5,(((g1.trans g2).trans g3).trans g4).trans g5⟩)
noncomputable def d9 (cells:List (Str×Kj)):List (Str×Ko)->List (Str×Kj)->Option (List (Str×Kj))
 | [],acc=>some acc
 | p::r,acc=>if p.2=.free then(cells.lookup p.1).bind fun c=>d9 cells r ((p.1,c)::acc) else d9 cells r acc
theorem cloF_inv {cl:List (Str×Kj)} {p:Str×Ko} {r:List (Str×Ko)} (h:d9 cells (p::r) acc=some cl):(p.2=.free/\∃c,cells.lookup p.1=some c/\d9 cells r ((p.1,c)::acc)=some cl)\/(p.2≠.free/\d9 cells r acc=some cl):=by
 replace h:(if p.2=.free then(cells.lookup p.1).bind fun c=>d9 cells r ((p.1,c)::acc) else d9 cells r acc)=some cl:=h
 by_cases q:p.2=.free
 .rw[if_pos q] at h
  exact .inl ⟨q,Option.bind_eq_some_iff.mp h⟩
 .rw[if_neg q] at h
  exact .inr ⟨q,h⟩
theorem vd (f:Str×Ko->List (Str×Kj)->Sem (ForInStep (List (Str×Kj))))
  (hf:∀p cs,f p cs=if p.2==.free then(do let a <- cellOf env p.1;pure (.yield ((p.1,a)::cs))) else pure (.yield cs))
  (names:List (Str×Ko)) (acc cl:List (Str×Kj)) (h:d9 env.cells names acc=some cl):(forIn names acc f:Sem (List (Str×Kj)))=pure cl:=by
 induction names generalizing acc with
 | nil=>cases h;rfl
 | cons p r ih=>
  rw[List.forIn_cons,hf]
  rcases cloF_inv h with⟨q,c,hc,h⟩ | ⟨q,h⟩
  .rw[if_pos (beq_iff_eq.mpr q)]
   unfold cellOf
   rw[hc]
   show((pure c >>=_) >>=_)=_
   rw[pure_bind,pure_bind]
   exact ih _ h
  .rw[if_neg fun e=>q (beq_iff_eq.mp e),pure_bind]
   exact ih _ h
theorem rG {cl:List (Str×Kj)} (h:d9 env.cells scope.names []=some cl):closureFor scope env=pure cl:=by
 unfold closureFor
 have:=vd (env:=env) (fun x cs=>if x.2==.free then(do let a <- cellOf env x.1;pure (.yield ((x.1,a)::cs))) else pure (.yield cs)) (fun _ _=>rfl) scope.names [] cl h
 simp only[bind_pure_comp] at this ⊢
 first | exact this | exact Eq.trans (bind_pure _) this
theorem tC (h:∀x,(x,Ks)∈names->(cells.lookup x).isSome=true):∃cl,d9 cells names acc=some cl:=by
 induction names generalizing acc with
 | nil=>exact⟨acc,rfl⟩
 | cons p r ih=>
  show ∃cl,(if p.2=.free then(cells.lookup p.1).bind fun c=>d9 cells r ((p.1,c)::acc) else d9 cells r acc)=some cl
  have k:=fun acc=>ih (acc:=acc) fun x hx=>h x (.tail _ hx)
  by_cases q:p.2=.free
  .obtain⟨c,hc⟩:=Option.isSome_iff_exists.mp (h p.1 (by rw[<- q];exact .head _))
   rw[if_pos q,hc]
   exact k _
  .rw[if_neg q]
   exact k _
theorem wh {cl:List (Str×Kj)} (h:d9 cells names acc=some cl) (p:Str×Kj) (hp:p∈cl):p∈acc\/(cells.lookup p.1=some p.2/\(p.1,Ks)∈names):=by
 induction names generalizing acc with
 | nil=>cases h;exact .inl hp
 | cons z r ih=>
  rcases cloF_inv h with⟨q,c,hc,h⟩ | ⟨_,h⟩
  .rcases ih h with e | e
   .rcases Ka.mp e with rfl | e
    .exact .inr ⟨hc,by rw[<- q];exact .head _⟩
    .exact .inl e
   .exact .inr ⟨e.1,.tail _ e.2⟩
  .exact(ih h).imp_right fun e=>⟨e.1,.tail _ e.2⟩
theorem wV {cl:List (Str×Kj)} (h:d9 cells names acc=some cl) (k:(∃c,(x,c)∈acc)\/(x,Ks)∈names):∃c,(x,c)∈cl:=by
 induction names generalizing acc with
 | nil=>cases h;exact k.elim id nofun
 | cons z r ih=>
  rcases cloF_inv h with⟨q,c,hc,h⟩ | ⟨q,h⟩
  .refine ih h ?_
   rcases k with⟨c',k⟩ | k
   .exact .inl ⟨c',.tail _ k⟩
   .rcases Ka.mp k with e | k
    .exact .inl ⟨c,by rw[<- e];exact .head _⟩
    .exact .inr k
  .refine ih h (k.imp_right fun k=>?_)
   rcases Ka.mp k with e | k
   .exact absurd (by rw[<- e]) q
   .exact k
theorem oG {cl:List (Str×Kj)} (h:d9 cells names acc=some cl) (hx:(x,Ks)∈names):∃c,(x,c)∈cl:=wV h (.inr hx)
theorem C6 {p:Str×Kj} (hp:p∈K7 h.objs.size names acc):p∈acc\/((LM h names).IsCell p.2 none/\h.objs.size <=p.2/\(p.1,LH)∈names):=by
 induction names generalizing h acc with
 | nil=>exact .inl hp
 | cons z r ih=>
  rw[gb] at hp
  show p∈acc\/((if z.2==.cell then LM (h.push { cls:=.type "cell",data:=.cell none }) r else LM h r).IsCell p.2 none/\_)
  by_cases hk:(z.2==LH)=true
  .rw[if_pos hk] at hp ⊢
   have sz:(h.push { cls:=.type "cell",data:=.cell none }).objs.size=h.objs.size + 1:=L6 ..
   rw[<- sz] at hp
   rcases ih hp with q | ⟨q1,q2,q3⟩
   .rcases Ka.mp q with rfl | q
    .exact .inr ⟨⟨_,pushCells_keeps r _ _ _ (Ku _ rfl),rfl⟩,Km _,by rw[<- beq_iff_eq.mp hk];exact .head _⟩
    .exact .inl q
   .exact .inr ⟨q1,by rw[sz] at q2;exact Lo q2,.tail _ q3⟩
  .rw[if_neg hk] at hp ⊢
   exact(ih hp).imp_right fun⟨q1,q2,q3⟩=>⟨q1,q2,.tail _ q3⟩
theorem vh (h1:∀p∈acc,p.2 < n) (h2:∀x y c,(x,c)∈acc->(y,c)∈acc->x=y):∀x y c,(x,c)∈K7 n names acc->(y,c)∈K7 n names acc->x=y:=by
 induction names generalizing n acc with
 | nil=>exact h2
 | cons z r ih=>
  rw[gb]
  by_cases hk:(z.2==LH)=true
  .rw[if_pos hk]
   refine ih (fun p hp=>?_) (fun u v d hu hv=>?_)
   .rcases Ka.mp hp with rfl | hp
    .exact Nat.lt_succ_self _
    .exact Nat.lt_succ_of_lt (h1 p hp)
   .rcases Ka.mp hu with q | hu <;> rcases Ka.mp hv with q' | hv
    .cases q;cases q';rfl
    .cases q;exact absurd (h1 _ hv) (KM _)
    .cases q';exact absurd (h1 _ hu) (KM _)
    .exact h2 u v d hu hv
  .rw[if_neg hk]
   exact ih h1 h2
theorem sL (h:(x,LH)∈names\/∃c,(x,c)∈acc):∃c,(x,c)∈K7 n names acc:=by
 induction names generalizing n acc with
 | nil=>exact h.elim nofun id
 | cons z r ih=>
  rw[gb]
  by_cases hk:(z.2==LH)=true
  .rw[if_pos hk]
   refine ih ?_
   rcases h with h | ⟨c,h⟩
   .rcases Ka.mp h with q | q
    .exact .inr ⟨n,by rw[<- q];exact .head _⟩
    .exact .inl q
   .exact .inr ⟨c,.tail _ h⟩
  .rw[if_neg hk]
   refine ih (h.imp_left fun h=>?_)
   rcases Ka.mp h with q | q
   .exact absurd (by rw[<- q];rfl) hk
   .exact q
theorem bT {l:List (Str×α)} {c:α} (h:(x,c)∈l):∃d,l.lookup x=some d:=by
 induction l with
 | nil=>cases h
 | cons p r ih=>
  rw[K1]
  cases hb:x==p.1 with
  | true=>exact⟨_,rfl⟩
  | false=>
   rcases Ka.mp h with q | q
   .rw[<- q,beq_self_eq_true] at hb
    cases hb
   .exact ih q
theorem nj {M:Model} {A:Lj} {E:Kd->Kl->Prop} {s:Kl} {globals:Kj} {cl:List (Str×Kj)} {qual:Str} {outer:Env} {bl:Kj} {Q:Env->Kl->Prop}
  (h:Q { scope:=scope,locals:=s.heap.objs.size,globals:=globals,cells:=K7 (s.heap.objs.size + 1) scope.names cl,qual:=qual,func:=none,code:=outer.code,frame:=outer.frame,builtins:=outer.builtins }
   { s with heap:=LM (s.heap.push { cls:=.type "dict",data:=.dict #[] }) scope.names }):J6 M A (newFunctionEnv scope globals cl [] qual none .none (some outer) bl) Q E s:=by
 simp only[newFunctionEnv,Option.isSome_some,if_true]
 refine J7 (wpAny_alloc ?_)
 refine J7 (wpAny_layCells _ (fun name kind cells=>by cases hkc:kind==LH <;> simp[hkc]) _ _ _ _ ?_)
 rw[show({ s with heap:=s.heap.push { cls:=.type "dict",data:=.dict #[] } }:Kl).heap.objs.size=s.heap.objs.size + 1 from L6 ..]
 refine J7 (Kb ?_)
 exact Kb h
noncomputable def compSc (scope sc:Scope):Scope:={ scope with names:=scope.names.map fun(n,k)=>if(k==.free&&sc.kind==.function&&sc.names.lookup n==some .cell) then(n,.cell) else(n,k) }
inductive gV (g:G) (D:Nat) (sc:Scope):S->List Expr->Bool->S->Prop where
 | nil {σ:S}:gV g D sc σ [] true σ
 | one {σ σ₁:S} {c:Expr} {b:Bool}:Tr g D sc σ c b σ₁->gV g D sc σ [c] b σ₁
theorem gV.use {b:Bool} (h:gV g D sc σ ifs b σ₁) (he:env.scope=sc) (hr:aB D A) (hs:St g env σ ρ s)
  {Q:Bool->Kl->Prop} (k:∀s1 ρ1,St g env σ₁ ρ1 s1->Go (own env) ρ s ρ1 s1->Q b s1) :
  J6 (Kx PW g.w) A (forIn ifs true fun c r=>if r=true then do let ok <- isTrue c env (KP c env);pure (ForInStep.yield ok) else pure (ForInStep.yield r)) Q E s:=by
 cases h with
 | nil=>exact wpAny_tests_nil (k s ρ hs (Go.refl ..))
 | one h=>exact wpAny_tests_one (h.use he hr hs fun x s1 ρ1 e st1 g1=>by
   obtain rfl:x=b:=e
   exact k s1 ρ1 st1 g1)
inductive ba (g:G) (D:Nat) (sc:Scope) (t:Expr) (ifs:List Expr) (elt:Expr) (nx:Nat->List O->Option (Option V)) (di:Nat) (σe:S):Nat->S->Prop where
 | stop {k:Nat}:nx k σe.os=some none->ba g D sc t ifs elt nx di σe k σe
 | skip {k:Nat} {σ σ₁ σ₂:S} {v:V}:nx k σ.os=some (some v)->aX g D sc σ t v σ₁->gV g D sc σ₁ ifs false σ₂->ba g D sc t ifs elt nx di σe (k + 1) σ₂->ba g D sc t ifs elt nx di σe k σ
 | keep {k:Nat} {σ σ₁ σ₂ σ₃:S} {v y:V} {vs:List V}:nx k σ.os=some (some v)->aX g D sc σ t v σ₁->gV g D sc σ₁ ifs true σ₂->Ev g D sc σ₂ elt y σ₃->σ₃.os[di]?=some (.list vs)->vs.length <=Kg->
   ba g D sc t ifs elt nx di σe (k + 1) ⟨σ₃.os.set di (.list (vs++[y])),σ₃.loc⟩->ba g D sc t ifs elt nx di σe k σ
theorem ut {t:Expr} (he:env.scope=sc) (hr:aB D A) (run:ba g D sc t ifs elt nx di σe k σ) :
  ∀{itA acc:Kj} {P:Nat->Obj->Prop} {ρ₀ ρ:List Kj} {s₀ s:Kl} {R:Mo->Kl->Prop},bE g D (own env) itA P nx k ρ s->ρ[di]?=some acc->St g env σ ρ s->Go ([itA]++own env) ρ₀ s₀ ρ s->s₀.heap.get? itA=none->
   (∀ρ' s',ρ'[di]?=some acc->St g env σe ρ' s'->Go (own env) ρ₀ s₀ ρ' s'->R (.ok .next) s')->Ky (Kx PW g.w) A (.compLoop (.ListComp elt [⟨t,iter,ifs,0⟩] scope pos) 0 (.ref itA) (.ref acc) env) R s:=by
 induction run with
 | stop hx=>
  intro itA acc P ρ₀ ρ s₀ s R at_ ha st g0 hnew q
  refine KV ?_
  show J6 _ _ ((L9 (.ListComp elt [⟨t,iter,ifs,0⟩] scope pos) 0 (.ref itA) (.ref acc) env).onRaise (fun x=>do Ly x env;Le x)) _ _ s
  refine Lp ?_
  rw[compTurn_list]
  exact J7 (KT (J7 (at_.stop hr st hx g0 hnew fun s' st' g'=>Kb (q ρ s' ha st' g'))))
 | skip hx hat hif _ ih=>
  intro itA acc P ρ₀ ρ s₀ s R at_ ha st g0 hnew q
  refine KV ?_
  show J6 _ _ ((L9 (.ListComp elt [⟨t,iter,ifs,0⟩] scope pos) 0 (.ref itA) (.ref acc) env).onRaise (fun x=>do Ly x env;Le x)) _ _ s
  refine Lp ?_
  rw[compTurn_list]
  refine J7 (KT (J7 (at_.item hr st hx fun y s1 ry at1 st1 g1=>?_)))
  obtain⟨ob,o1,o2⟩:=at1.ob
  refine J7 (dF o1 ((at1.nx []).tup _ _ o2) ?_)
  refine J7 (Kr (hat A env _ _ y he hr st1 ry) ?_ (fun _ _ z=>z.elim))
  rintro _ s2 ⟨ρ2,st2,g2⟩
  refine J7 (hif.use he hr st2 fun s3 ρ3 st₃ g3=>?_)
  have gg:=(g0.trans g1).trans ((g2.trans g3).weak fun a h=>Kt _ h)
  have ha':ρ3[di]?=some acc:=by
   obtain⟨ν,e,_⟩:=(g2.trans g3).pre
   rw[e];exact get_app ha
  simp only[LJ,if_false]
  exact Kb (And.intro rfl (ih ((at1.go g2).go g3) ha' st₃ gg hnew q))
 | @keep _ _ _ _ _ _ yy _ hx hat hif hel ho hz _ ih=>
  intro itA acc P ρ₀ ρ s₀ s R at_ ha st g0 hnew q
  refine KV ?_
  show J6 _ _ ((L9 (.ListComp elt [⟨t,iter,ifs,0⟩] scope pos) 0 (.ref itA) (.ref acc) env).onRaise (fun x=>do Ly x env;Le x)) _ _ s
  refine Lp ?_
  rw[compTurn_list]
  refine J7 (KT (J7 (at_.item hr st hx fun y s1 ry at1 st1 g1=>?_)))
  obtain⟨ob,o1,o2⟩:=at1.ob
  refine J7 (dF o1 ((at1.nx []).tup _ _ o2) ?_)
  refine J7 (Kr (hat A env _ _ y he hr st1 ry) ?_ (fun _ _ z=>z.elim))
  rintro _ s2 ⟨ρ2,st2,g2⟩
  refine J7 (hif.use he hr st2 fun s3 ρ3 st₃ g3=>?_)
  simp only[if_true]
  refine J7 (J7 (hel.use he hr st₃ fun z s4 ρ4 rz st4 g4=>?_))
  have ha':ρ4[di]?=some acc:=by
   obtain⟨ν,e,_⟩:=((g2.trans g3).trans g4).pre
   rw[e];exact get_app ha
  have c:=Cl.append (g:=g) (D:=D) (v:=yy) ho hz
  refine J7 ((c ρ4 (.builtin "list.append") [.ref acc,z] [] rfl (.cons ⟨acc,ha',rfl⟩ (.cons rz .nil)) .nil).use hr st4 fun u s5 ρ5 ru st5 g5=>Kb (Kb (And.intro rfl ?_)))
  have gg:=(g0.trans g1).trans ((((g2.trans g3).trans g4).trans g5).weak fun a h=>Kt _ h)
  have ha'':ρ5[di]?=some acc:=by
   obtain⟨ν,e,_⟩:=g5.pre
   rw[e];exact get_app ha'
  exact ih ((((at1.go g2).go g3).go g4).go g5) ha'' st5 gg hnew q
set_option tactic.hygienic true in
theorem compSc_mem {k:Ko} (h:(compSc scope sc).names.lookup x=some k):((x,k)∈scope.names/\k≠.cell)\/(k=.cell/\((x,LH)∈scope.names\/(x,Ks)∈scope.names)):=by
 have hm:=mem_of_lookup h
 unfold compSc at hm
 dsimp only at hm
 obtain⟨⟨n,k'⟩,h1,h2⟩:=List.mem_map.mp hm
 dsimp only at h2
 split at h2
 .rename_i hc
  cases h2
  simp only[Kk,beq_iff_eq] at hc
  refine .inr ⟨rfl,.inr ?_⟩
  rw[<- hc.1.1];exact h1
 .cases h2
  by_cases q:k=.cell
  .subst q;exact .inr ⟨rfl,.inl h1⟩
  .exact .inl ⟨h1,q⟩
theorem dP {l:List (α×β)} {x:α} {a b:β} (nd:(l.map (·.1)).Nodup) (h1:(x,a)∈l) (h2:(x,b)∈l):a=b:=by
 induction l with
 | nil=>cases h1
 | cons p r ih=>
  rw[K6,KW] at nd
  rcases Ka.mp h1 with q | q <;> rcases Ka.mp h2 with q' | q'
  .exact congrArg Prod.snd (q.trans q'.symm)
  .exact absurd (List.mem_map.mpr ⟨_,q',(congrArg Prod.fst q:x=p.1)⟩) nd.1
  .exact absurd (List.mem_map.mpr ⟨_,q,(congrArg Prod.fst q':x=p.1)⟩) nd.1
  .exact ih nd.2 q q'
theorem kR:∀{l:List (Str×Ko)} {x:Str} {k:Ko},(l.map (·.1)).Nodup->(x,k)∈l->l.lookup x=some k:=fun {l x k} nd h=>by
 obtain⟨d,hd⟩:=bT h
 rw[hd,dP nd (mem_of_lookup hd) h]
noncomputable def jQ (target iter elt:Expr) (ifs:List Expr) (gens:List NE) (scope:Scope) (pos:Pos) (d:Nat) (it acc:Kd) (env:Env):Sem Fin:=do
 K8 iter.pos
 match <- pyNext it with
 | none=>pure (.done .next)
 | some v=>
  letOwnedTupleGo target it v
  assign target env v
  let mut ok:=true
  for c in ifs do
   if ok then ok <- isTrue c env (KP c env)
  if ok then
   (do let _ <- call (.builtin "list.append") [acc,<- KP elt env])
  again (.compLoop (.ListComp elt gens scope pos) d it acc env)
theorem yN {t:Expr} (hT:∀it acc env,L9 (.ListComp elt gens scope pos) d it acc env=jQ t iter elt ifs gens scope pos d it acc env) (he:env.scope=sc) (hr:aB D A) (run:ba g D sc t ifs elt nx di σe k σ) :
  ∀{itA acc:Kj} {P:Nat->Obj->Prop} {ρ₀ ρ:List Kj} {s₀ s:Kl} {R:Mo->Kl->Prop},bE g D (own env) itA P nx k ρ s->ρ[di]?=some acc->St g env σ ρ s->Go ([itA]++own env) ρ₀ s₀ ρ s->s₀.heap.get? itA=none->
   (∀ρ' s',ρ'[di]?=some acc->St g env σe ρ' s'->Go (own env) ρ₀ s₀ ρ' s'->R (.ok .next) s')->Ky (Kx PW g.w) A (.compLoop (.ListComp elt gens scope pos) d (.ref itA) (.ref acc) env) R s:=by
 induction run with
 | stop hx=>
  intro itA acc P ρ₀ ρ s₀ s R at_ ha st g0 hnew q
  refine KV ?_
  show J6 _ _ ((L9 (.ListComp elt gens scope pos) d (.ref itA) (.ref acc) env).onRaise (fun x=>do Ly x env;Le x)) _ _ s
  refine Lp ?_
  rw[hT];unfold jQ
  exact J7 (KT (J7 (at_.stop hr st hx g0 hnew fun s' st' g'=>Kb (q ρ s' ha st' g'))))
 | skip hx hat hif _ ih=>
  intro itA acc P ρ₀ ρ s₀ s R at_ ha st g0 hnew q
  refine KV ?_
  show J6 _ _ ((L9 (.ListComp elt gens scope pos) d (.ref itA) (.ref acc) env).onRaise (fun x=>do Ly x env;Le x)) _ _ s
  refine Lp ?_
  rw[hT];unfold jQ
  refine J7 (KT (J7 (at_.item hr st hx fun y s1 ry at1 st1 g1=>?_)))
  obtain⟨ob,o1,o2⟩:=at1.ob
  refine J7 (dF o1 ((at1.nx []).tup _ _ o2) ?_)
  refine J7 (Kr (hat A env _ _ y he hr st1 ry) ?_ (fun _ _ z=>z.elim))
  rintro _ s2 ⟨ρ2,st2,g2⟩
  refine J7 (hif.use he hr st2 fun s3 ρ3 st₃ g3=>?_)
  have gg:=(g0.trans g1).trans ((g2.trans g3).weak fun a h=>Kt _ h)
  have ha':ρ3[di]?=some acc:=by
   obtain⟨ν,e,_⟩:=(g2.trans g3).pre
   rw[e];exact get_app ha
  simp only[LJ,if_false]
  exact Kb (And.intro rfl (ih ((at1.go g2).go g3) ha' st₃ gg hnew q))
 | @keep _ _ _ _ _ _ yy _ hx hat hif hel ho hz _ ih=>
  intro itA acc P ρ₀ ρ s₀ s R at_ ha st g0 hnew q
  refine KV ?_
  show J6 _ _ ((L9 (.ListComp elt gens scope pos) d (.ref itA) (.ref acc) env).onRaise (fun x=>do Ly x env;Le x)) _ _ s
  refine Lp ?_
  rw[hT];unfold jQ
  refine J7 (KT (J7 (at_.item hr st hx fun y s1 ry at1 st1 g1=>?_)))
  obtain⟨ob,o1,o2⟩:=at1.ob
  refine J7 (dF o1 ((at1.nx []).tup _ _ o2) ?_)
  refine J7 (Kr (hat A env _ _ y he hr st1 ry) ?_ (fun _ _ z=>z.elim))
  rintro _ s2 ⟨ρ2,st2,g2⟩
  refine J7 (hif.use he hr st2 fun s3 ρ3 st₃ g3=>?_)
  simp only[if_true]
  refine J7 (J7 (hel.use he hr st₃ fun z s4 ρ4 rz st4 g4=>?_))
  have ha':ρ4[di]?=some acc:=by
   obtain⟨ν,e,_⟩:=((g2.trans g3).trans g4).pre
   rw[e];exact get_app ha
  have c:=Cl.append (g:=g) (D:=D) (v:=yy) ho hz
  refine J7 ((c ρ4 (.builtin "list.append") [.ref acc,z] [] rfl (.cons ⟨acc,ha',rfl⟩ (.cons rz .nil)) .nil).use hr st4 fun u s5 ρ5 ru st5 g5=>Kb (Kb (And.intro rfl ?_)))
  have gg:=(g0.trans g1).trans ((((g2.trans g3).trans g4).trans g5).weak fun a h=>Kt _ h)
  have ha'':ρ5[di]?=some acc:=by
   obtain⟨ν,e,_⟩:=g5.pre
   rw[e];exact get_app ha'
  exact ih ((((at1.go g2).go g3).go g4).go g5) ha'' st5 gg hnew q
noncomputable def lS (g:G) (D:Nat) (sc:Scope) (e:Expr) (nx:Nat->List O->Option (Option V)) (di:Nat) (σe σ:S):Prop:=∀{A:Lj} {env:Env},env.scope=sc->aB D A->
  ∀{itA acc:Kj} {P:Nat->Obj->Prop} {ρ₀ ρ:List Kj} {s₀ s:Kl} {R:Mo->Kl->Prop},bE g D (own env) itA P nx 0 ρ s->ρ[di]?=some acc->St g env σ ρ s->Go ([itA]++own env) ρ₀ s₀ ρ s->s₀.heap.get? itA=none->
   (∀ρ' s',ρ'[di]?=some acc->St g env σe ρ' s'->Go (own env) ρ₀ s₀ ρ' s'->R (.ok .next) s')->Ky (Kx PW g.w) A (.compLoop e 0 (.ref itA) (.ref acc) env) R s
theorem oy {t:Expr} {a:V} {cl0:List (Str×V)} {use:Env->Option (Kd->Sem Unit)} {R:List Kj->Kd->Prop} (hi:Ev g D sc σ iter a σ₁) (hit:aZ g D a σ₁.os nx)
  (hk:scope.kind=.function) (hnd:(scope.names.map (·.1)).Nodup) (hfr:∀x,(x,Ks)∈scope.names->sc.names.lookup x=some .cell\/sc.names.lookup x=some .free)
  (hcl:∀x k,(x,k)∈scope.names->cl0.lookup x=if k=Ks then σ₁.loc.lookup x else none)
  (hrun:lS g D (compSc scope sc) (.ListComp elt (⟨t,iter,ifs,0⟩::rest) scope pos) nx σ₁.os.length σe ⟨σ₁.os++[.list []],cl0⟩) (hl1:∀x,(x,Ks)∈scope.names->loc'.lookup x=σe.loc.lookup x) (hl2:∀x,(x,Ks)∉scope.names->loc'.lookup x=σ₁.loc.lookup x)
  (hs:∀env x,LP iter env x=pure x)
  (hp:∀(A:Lj) (env:Env) (ρ':List Kj) (s':Kl) (C accA:Kj),env.scope=sc->aB D A->St g env ⟨σe.os,loc'⟩ ρ' s'->ρ'[σ₁.os.length]?=some accA->C∉ρ'->C∉own env->N0 <=C->(∃m,s'.heap.Ns C m)->
   compPost (Kx PW g.w) A (fun _ _=>False) (use env) (fun v s''=>∃ρ'' s2 h',R ρ'' v/\St g env σ₂ ρ'' s''/\Go (own env) ρ' s' ρ'' s2/\Lb C s2.heap h'/\s''={ s2 with heap:=h' }) (.ref accA) C (.ok .next) s') :
  aP g D sc σ (fun env=>comprehension (.ListComp elt (⟨t,iter,ifs,0⟩::rest) scope pos) scope env (firstIterPos (⟨t,iter,ifs,0⟩::rest) pos) (newList []) (firstAsync (⟨t,iter,ifs,0⟩::rest)) (firstIter (⟨t,iter,ifs,0⟩::rest) env) (use env)) R σ₂:=fun A env ρ s he hr st=>by
 subst he
 obtain⟨cl,hcloF⟩:=tC (cells:=env.cells) (names:=scope.names) (acc:=[]) fun x hx=>by
  obtain⟨c,o,h1,_⟩:=st.er.cell x (hfr x hx)
  exact Option.isSome_iff_exists.mpr ⟨c,h1⟩
 have clm:∀p∈cl,env.cells.lookup p.1=some p.2/\(p.1,Ks)∈scope.names:=fun p hp=>(wh hcloF p hp).elim (fun h=>nomatch h) id
 have hnames:∀x∈scope.names,x.2=.local->scope.names.lookup x.1=some .local:=fun x hx hl=>kR hnd (hl▸hx)
 refine wpAny_comprehension_free rfl (hs env) (rG hcloF) hk hnames ?_
 show J6 _ _ (KP iter env) _ _ _
 refine hi.use rfl hr st fun x s1 ρ1 rx st1 g1=>?_
 refine bE.new hit rx hr st1 fun itA P s2 at2 hnew st₂ g₂=>?_
 refine Kr (Lf.newList (g:=g) (D:=D) (os:=σ₁.os) (ρ:=ρ1) (vs:=[]) (xs:=[]) .nil (Nat.zero_le _) A s2 hr st₂.hr st₂.k) ?_ (fun _ _ z=>z.elim)
 rintro acc s3 ⟨ρ3,racc,hr3,g30⟩
 have st₃:St g env ⟨σ₁.os++[.list []],σ₁.loc⟩ ρ3 s3:=⟨hr3,st₂.er.go g30,bY (ow:=[]) st₂.k st₂.hr (fun _ h=>(nomatch h)) g30⟩
 have g3:Go (own env) ρ1 s2 ρ3 s3:=g30.nil
 obtain⟨accA,hacc,rfl⟩:=racc
 refine nj ?_
 have sz:({ s3 with heap:=s3.heap.push { cls:=.type "dict",data:=.dict #[] } }:Kl).heap.objs.size=s3.heap.objs.size + 1:=L6 ..
 generalize hH:s3.heap.push { cls:=.type "dict",data:=.dict #[] }=H at *
 have szH:H.objs.size=s3.heap.objs.size + 1:=sz
 have hHle:s3.heap.objs.size <=H.objs.size:=by rw[szH];exact MZ _
 have ltF:∀{a:Nat},H.objs.size <=a->a < s3.heap.objs.size->False:=fun h1 h2=>KM _ (Nj h2 (Lh hHle h1))
 have eqF:∀{a:Nat},H.objs.size <=a->a=s3.heap.objs.size->False:=fun h1 h2=>by rw[h2,szH] at h1;exact Nat.not_succ_le_self _ h1
 have gr1:Gr s3.heap H:=fun b o e=>hH▸Ki _ e
 have gr2:Gr s3.heap (LM H scope.names):=fun b o e=>pushCells_keeps _ _ _ _ (gr1 b o e)
 have new3:∀a,s3.heap.objs.size <=a->s3.heap.get? a=none:=fun a ha=>by
  cases q:s3.heap.get? a with
  | none=>rfl
  | some o=>exact absurd (KJ q) (Nat.not_lt.mpr ha)
 obtain⟨st3',g3'⟩:=st₃.grow (h':=LM H scope.names) (tk:=s3.toks) gr2
 have hN:=aV st₃.k
 have sizeS:s3.heap.objs.size + 1=H.objs.size:=szH.symm
 -- the frame of the comprehension
 generalize hcenv:({ scope:=scope,locals:=s3.heap.objs.size,globals:=env.globals,cells:=K7 (s3.heap.objs.size + 1) scope.names cl,qual:=env.qual,func:=none,code:=env.code,frame:=env.frame,builtins:=env.builtins }:Env)=cenv0
 have hscope:({ cenv0 with scope:=relabel scope env }:Env).scope=compSc scope env.scope:=rfl
 generalize hce:({ cenv0 with scope:=relabel scope env }:Env)=cenv at hscope
 have hlocE:cenv.locals=s3.heap.objs.size:=by rw[<- hce,<- hcenv]
 have hcelE:cenv.cells=K7 H.objs.size scope.names cl:=by rw[<- hce,<- hcenv,szH]
 have outerC:∀p∈cl,N0 <=p.2/\(∃ob,s3.heap.get? p.2=some ob)/\p.2∉ρ3/\p.2≠env.locals:=fun p hp=>st₃.er.clow (p.1,p.2) (mem_of_lookup (clm p hp).1)
 have cmem:∀p∈cenv.cells,p∈cl\/((LM H scope.names).IsCell p.2 none/\H.objs.size <=p.2/\(p.1,LH)∈scope.names):=fun p hp=>C6 (hcelE▸hp)
 have capart:∀x y c,(x,c)∈cenv.cells->(y,c)∈cenv.cells->x=y:=by
  rw[hcelE]
  refine vh (fun p hp=>?_) fun x y c hx hy=>?_
  .obtain⟨_,⟨ob,e⟩,_⟩:=outerC p hp
   rw[szH]
   exact Nat.lt_succ_of_lt (KJ e)
  .exact st₃.er.capart x y c (mem_of_lookup (clm _ hx).1) (mem_of_lookup (clm _ hy).1)
 have hlo:cenv.locals∉ρ3:=fun hm=>by
  have:=st₃.hr.lt hm
  rw[hlocE] at this
  exact KM _ this
 have er:ER ρ3 (LM H scope.names) cenv cl0:=by
  refine⟨by rw[<- hce,<- hcenv];exact st₃.er.glob,by rw[<- hce,<- hcenv];exact st₃.er.blt,by rw[hscope];exact hk,⟨fun _=>none,?_,fun z hz=>?_⟩,fun z hz=>?_,⟨by rw[hlocE];exact hN,hlo⟩,fun p hp=>?_,capart⟩
  .rw[hlocE,<- hH]
   exact(Heap.Ns.new s3.heap (.type "dict")).keeps (pushCells_keeps _ _)
  .have hz':(compSc scope env.scope).names.lookup z=some .local:=by rw[<- hscope];exact hz
   rcases compSc_mem hz' with⟨q,_⟩ | ⟨q,_⟩
   .rw[hcl z _ q,if_neg (by decide)];trivial
   .cases q
  .have cell:(z,LH)∈scope.names->∃c o,cenv.cells.lookup z=some c/\(LM H scope.names).IsCell c o/\aL ρ3 (cl0.lookup z) o:=fun q=>by
    obtain⟨c,hc⟩:=sL (n:=H.objs.size) (acc:=cl) (.inl q)
    rw[<- hcelE] at hc
    obtain⟨d,hd⟩:=bT hc
    refine⟨d,none,hd,?_,by rw[hcl z _ q,if_neg (by decide)];trivial⟩
    rcases cmem _ (mem_of_lookup hd) with q' | q'
    .exact absurd (dP hnd q (clm _ q').2) (by decide)
    .exact q'.1
   have free:(z,Ks)∈scope.names->∃c o,cenv.cells.lookup z=some c/\(LM H scope.names).IsCell c o/\aL ρ3 (cl0.lookup z) o:=fun q=>by
    obtain⟨c,hc⟩:=sL (n:=H.objs.size) (names:=scope.names) (.inr (oG hcloF q))
    rw[<- hcelE] at hc
    obtain⟨d,hd⟩:=bT hc
    rcases cmem _ (mem_of_lookup hd) with q' | q'
    .obtain⟨c',o,h1,h2,h3⟩:=st3'.er.cell z (hfr z q)
     have:some d=some c':=(clm _ q').1.symm.trans h1
     cases this
     exact⟨d,o,hd,h2,by rw[hcl z _ q,if_pos rfl];exact h3⟩
    .exact absurd (dP hnd q q'.2.2) (by decide)
   have hz':(compSc scope env.scope).names.lookup z=some .cell\/(compSc scope env.scope).names.lookup z=some .free:=by rw[<- hscope];exact hz
   rcases hz' with hz' | hz'
   .rcases compSc_mem hz' with⟨_,q⟩ | ⟨_,q | q⟩
    .exact absurd rfl q
    .exact cell q
    .exact free q
   .rcases compSc_mem hz' with⟨q,_⟩ | ⟨q,_⟩
    .exact free q
    .cases q
  .rcases cmem p hp with q | ⟨q1,q2,_⟩
   .obtain⟨a1,⟨ob,a2⟩,a3,a4⟩:=outerC p q
    refine⟨a1,⟨ob,gr2 _ _ a2⟩,a3,fun e=>?_⟩
    have:=KJ a2
    rw[e,hlocE] at this
    exact KM _ this
   .obtain⟨ob,q1,_⟩:=q1
    refine⟨Lh (Lh hN hHle) q2,⟨ob,q1⟩,fun hm=>?_,fun e=>?_⟩
    .exact ltF q2 (st₃.hr.lt hm)
    .rw[hlocE] at e;exact eqF q2 e
 have stc:St g cenv ⟨σ₁.os++[.list []],cl0⟩ ρ3 { s3 with heap:=LM H scope.names }:=⟨st3'.hr,er,st3'.k⟩
 have itOld:∃ob,s3.heap.get? itA=some ob:=by
  obtain⟨ob,e,_⟩:=at2.ob
  obtain⟨o',e'⟩:=g3.alive _ _ e
  exact⟨o',e'⟩
 have at3:bE g D (own env) itA P nx 0 ρ3 { s3 with heap:=LM H scope.names }:=(at2.go g3).go g3'
 have atc:bE g D (own cenv) itA P nx 0 ρ3 { s3 with heap:=LM H scope.names }:=by
  refine⟨at3.rho,fun hm=>?_,at3.hi,at3.ob,at3.nx⟩
  obtain⟨ob,e⟩:=itOld
  have lt:=KJ e
  rcases Ka.mp hm with q | q
  .rw[q,hlocE] at lt;exact KM _ lt
  .obtain⟨p,hp,rfl⟩:=List.mem_map.mp q
   rcases cmem p hp with q' | ⟨_,q2,_⟩
   .exact at2.nown (KO _ (List.mem_map.mpr ⟨(p.1,p.2),mem_of_lookup (clm p q').1,rfl⟩))
   .exact ltF q2 lt
 have accOld:∃ob,s3.heap.get? accA=some ob:=(st₃.hr.hi _ (Kq hacc)).2
 -- the end
 have fin:∀ρ' s',ρ'[σ₁.os.length]?=some accA->St g cenv σe ρ' s'->Go (own cenv) ρ1 s1 ρ' s'->
   compPost (Kx PW g.w) A (fun _ _=>False) (use env) (fun v s'=>∃ρ',R ρ' v/\St g env σ₂ ρ' s'/\Go (own env) ρ s ρ' s') (.ref accA) cenv.locals (.ok .next) s':=fun ρ' s' ha st' go'=>by
  have cnew1:s1.heap.get? cenv.locals=none:=by
   cases q:s1.heap.get? cenv.locals with
   | none=>rfl
   | some o=>
    obtain⟨o₂,q2⟩:=g₂.alive _ _ q
    obtain⟨o3,q3⟩:=g3.alive _ _ q2
    rw[hlocE] at q3
    exact absurd (KJ q3) (KM _)
  have celNew:∀p∈cenv.cells,p∉cl->s1.heap.get? p.2=none:=fun p hp hn=>by
   rcases cmem p hp with q | ⟨_,q2,_⟩
   .exact absurd q hn
   .cases q:s1.heap.get? p.2 with
    | none=>rfl
    | some o=>
     obtain⟨o₂,q2'⟩:=g₂.alive _ _ q
     obtain⟨o3,q3⟩:=g3.alive _ _ q2'
     exact(ltF q2 (KJ q3)).elim
  have goEnv:Go (own env) ρ1 s1 ρ' s':=by
   refine⟨go'.pre,fun b o e h1 h2=>go'.kept b o e h1 fun hm=>?_,go'.alive,go'.gens,go'.os⟩
   rcases Ka.mp hm with q | q
   .rw[q,cnew1] at e;exact nS e
   .obtain⟨p,hp,rfl⟩:=List.mem_map.mp q
    by_cases hpc:p∈cl
    .exact h2 (KO _ (List.mem_map.mpr ⟨(p.1,p.2),mem_of_lookup (clm p hpc).1,rfl⟩))
    .rw[celNew p hp hpc] at e;exact nS e
  have cRho:cenv.locals∉ρ':=st'.er.low.2
  have cOwn:cenv.locals∉own env:=fun hm=>by
   rcases Ka.mp hm with q | q
   .obtain⟨mm,⟨oL,_,_,hoL,_⟩,_⟩:=st1.er.loc
    rw[<- q,cnew1] at hoL;exact nS hoL
   .obtain⟨p,hp,e⟩:=List.mem_map.mp q
    obtain⟨_,⟨ob,e2⟩,_⟩:=st1.er.clow p hp
    rw[e,cnew1] at e2;exact nS e2
  -- the outer frame,at s'
  have erO:ER ρ' s'.heap env loc':=by
   obtain⟨m,⟨oL,es,ep,hoL,r⟩,hl⟩:=st1.er.loc
   obtain⟨ν,eν,hν⟩:=go'.pre
   have up:∀{a:Kj} {o:Obj},s1.heap.get? a=some o->a∉ρ1->a∉ρ':=fun h1 h2 h3=>by
    rw[eν] at h3
    rcases List.mem_append.mp h3 with h | h
    .exact h2 h
    .rw[hν _ h] at h1;exact nS h1
   have keepC:∀{a:Kj} {o:Obj},s1.heap.get? a=some o->a∉ρ1->(∀p∈cl,p.2≠a)->N0 <=a->s'.heap.get? a=some o:=fun {a o} e h1 h2 h3=>by
    refine go'.keep a o e h1 (fun hm=>?_) (dg h3)
    rcases Ka.mp hm with q | q
    .rw[q,cnew1] at e;exact nS e
    .obtain⟨p,hp,rfl⟩:=List.mem_map.mp q
     by_cases hpc:p∈cl
     .exact h2 p hpc rfl
     .rw[celNew p hp hpc] at e;exact nS e
   refine⟨st1.er.glob,st1.er.blt,st1.er.kind,⟨m,⟨oL,es,ep,keepC hoL st1.er.low.2 (fun p hp=>(outerC p hp).2.2.2) st1.er.low.1,r⟩,fun z hz=>?_⟩,fun z hz=>?_,⟨st1.er.low.1,up hoL st1.er.low.2⟩,fun p hp=>?_,st1.er.capart⟩
   .rw[hl2 z fun hm=>?_]
    .exact eν▸aL.mono (hl z hz)
    .rcases hfr z hm with q | q <;> (rw[show env.kindOf z=env.scope.names.lookup z from rfl,q] at hz;cases hz)
   .obtain⟨c,o,h1,h2,h3⟩:=st1.er.cell z hz
    by_cases hc:∃p∈cl,p.2=c
    .obtain⟨p,hp,rfl⟩:=hc
     have ez:p.1=z:=st1.er.capart p.1 z p.2 (mem_of_lookup (clm p hp).1) (mem_of_lookup h1)
     have fr:=(clm p hp).2
     rw[ez] at fr
     have kz:cenv.kindOf z=some .cell\/cenv.kindOf z=some .free:=by
      show cenv.scope.names.lookup z=_\/cenv.scope.names.lookup z=_
      rw[hscope]
      have ob':∃k,(compSc scope env.scope).names.lookup z=some k:=by
       by_cases hb:(Ks==.free&&env.scope.kind==.function&&env.scope.names.lookup z==some .cell)=true
       .exact bT (c:=LH) (List.mem_map.mpr ⟨(z,Ks),fr,by dsimp only;rw[if_pos hb]⟩)
       .exact bT (c:=Ks) (List.mem_map.mpr ⟨(z,Ks),fr,by dsimp only;rw[if_neg hb]⟩)
      obtain⟨k,hkz⟩:=ob'
      rcases compSc_mem hkz with⟨q,q2⟩ | ⟨q,_⟩
      .rw[dP hnd q fr] at hkz;exact .inr hkz
      .rw[q] at hkz;exact .inl hkz
     obtain⟨c',o',k1,k2,k3⟩:=st'.er.cell z kz
     have hc':(z,c')∈cenv.cells:=mem_of_lookup k1
     have hcc:c'=p.2:=by
      rcases cmem _ hc' with q | ⟨_,_,q⟩
      .have:=(clm _ q).1
       dsimp only at this
       rw[h1] at this;cases this;rfl
      .exact absurd (dP hnd fr q) (by decide)
     subst hcc
     exact⟨p.2,o',h1,k2,by rw[hl1 z fr];exact k3⟩
    .obtain⟨ob,h2,h2'⟩:=h2
     have low:=st1.er.clow _ (mem_of_lookup h1)
     refine⟨c,o,h1,⟨ob,keepC h2 low.2.2.1 (fun p hp e=>hc ⟨p,hp,e⟩) low.1,h2'⟩,?_⟩
     rw[hl2 z fun hm=>?_]
     .exact eν▸aL.mono h3
     .obtain⟨d,hd⟩:=oG hcloF hm
      have:=(clm _ hd).1
      dsimp only at this
      rw[h1] at this
      cases this
      exact hc ⟨_,hd,rfl⟩
   .obtain⟨a1,⟨ob,a2⟩,a3,a4⟩:=st1.er.clow p hp
    exact⟨a1,go'.alive _ _ a2,up a2 a3,a4⟩
  have stO:St g env ⟨σe.os,loc'⟩ ρ' s':=⟨st'.hr,erO,st'.k⟩
  obtain⟨m',hm',_⟩:=st'.er.loc
  have z:=hp A env ρ' s' cenv.locals accA rfl hr stO ha cRho cOwn st'.er.low.1 ⟨m',hm'⟩
  have up:∀v s'',(∃ρ'' s2 h',R ρ'' v/\St g env σ₂ ρ'' s''/\Go (own env) ρ' s' ρ'' s2/\Lb cenv.locals s2.heap h'/\s''={ s2 with heap:=h' })->∃ρ'',R ρ'' v/\St g env σ₂ ρ'' s''/\Go (own env) ρ s ρ'' s'':=fun v s'' ⟨ρ'',s2,h',r,st2,g2,same,e⟩=>by
   subst e
   have goE2:=goEnv.trans g2
   have goF:Go ([cenv.locals]++own env) ρ1 s1 ρ'' { s2 with heap:=h' }:=by
    refine⟨goE2.pre,fun b o e q1 q2=>(goE2.kept b o e q1 fun h=>q2 (Kt _ h)).map fun o' e'=>(same.2 b fun q=>q2 (q▸.head _)).trans e',fun b o e=>?_,goE2.gens,goE2.os⟩
    obtain⟨o',e'⟩:=goE2.alive b o e
    exact⟨o',(same.2 b fun q=>by subst q;rw[cnew1] at e;exact nS e).trans e'⟩
   exact⟨ρ'',r,st2,g1.trans (goF.drop fun a ha=>by simp at ha;subst ha;exact cnew1)⟩
  generalize use env=u at z ⊢
  cases u with
  | none=>obtain⟨m,h1,h2⟩:=z;exact⟨m,h1,fun h' same=>up _ _ (h2 h' same)⟩
  | some u=>exact Kr z (fun _ s'' ⟨m,h1,h2⟩=>⟨m,h1,fun h' same=>up _ _ (h2 h' same)⟩) (fun _ _ z=>z)
 have hce':({ cenv0 with scope:=relabel scope env }:Env)=cenv:=hce
 have hl0:cenv0.locals=cenv.locals:=by rw[<- hce]
 rw[hl0]
 have go0:Go ([itA]++own cenv) ρ1 s1 ρ3 { s3 with heap:=LM H scope.names }:=by
  have z:Go [] ρ1 s1 ρ3 { s3 with heap:=LM H scope.names }:=by
   exact(g₂.trans g30).trans (Gr.go (s':={ s3 with heap:=LM H scope.names }) gr2 rfl rfl)
  exact z.nil
 have start:∀{Rr:Mo->Kl->Prop},(∀ρ' s',ρ'[σ₁.os.length]?=some accA->St g cenv σe ρ' s'->Go (own cenv) ρ1 s1 ρ' s'->Rr (.ok .next) s')->
   Ky (Kx PW g.w) A (.compLoop (.ListComp elt (⟨t,iter,ifs,0⟩::rest) scope pos) 0 (.ref itA) (.ref accA) cenv) Rr { s3 with heap:=LM H scope.names }:=fun q=>
  hrun hscope hr (ρ₀:=ρ1) (s₀:=s1) atc hacc stc go0 hnew q
 refine codeAny_compStart_list (start fin) ?_
 obtain⟨ob,o1,o2⟩:=atc.ob
 exact(atc.nx []).again 0 A _ ob _ _ o1 o2 (start fin)
theorem Ev.compG {t:Expr} {a:V} {cl0:List (Str×V)} (hi:Ev g D sc σ iter a σ₁) (hit:aZ g D a σ₁.os nx)
  (hk:scope.kind=.function) (hnd:(scope.names.map (·.1)).Nodup) (hfr:∀x,(x,Ks)∈scope.names->sc.names.lookup x=some .cell\/sc.names.lookup x=some .free)
  (hcl:∀x k,(x,k)∈scope.names->cl0.lookup x=if k=Ks then σ₁.loc.lookup x else none)
  (hrun:lS g D (compSc scope sc) (.ListComp elt (⟨t,iter,ifs,0⟩::rest) scope pos) nx σ₁.os.length σe ⟨σ₁.os++[.list []],cl0⟩) (hl1:∀x,(x,Ks)∈scope.names->loc'.lookup x=σe.loc.lookup x) (hl2:∀x,(x,Ks)∉scope.names->loc'.lookup x=σ₁.loc.lookup x)
  (hs:∀env x,LP iter env x=pure x):Ev g D sc σ (.ListComp elt (⟨t,iter,ifs,0⟩::rest) scope pos) (.ref σ₁.os.length) ⟨σe.os,loc'⟩:=fun A env ρ s he hr st=>by
 show J6 _ _ (KP (.ListComp elt (⟨t,iter,ifs,0⟩::rest) scope pos) env) _ _ _
 rw[eval_ListComp]
 exact oy (use:=fun _=>none) (R:=fun ρ v=>RelV ρ (.ref σ₁.os.length) v) (σ₂:=⟨σe.os,loc'⟩) hi hit hk hnd hfr hcl hrun hl1 hl2 hs (fun A env ρ' s' C accA he hr stO ha cRho cOwn low ⟨m',hm'⟩=>
  ⟨m',hm',fun h' same=>⟨ρ',s',h',⟨accA,ha,rfl⟩,stO.other (tk:=s'.toks) (fun b o hb e=>(same.2 b hb).trans e) cRho cOwn low,.refl _ _ _,same,rfl⟩⟩) A env ρ s he hr st
theorem Ev.comp {t:Expr} {a:V} {cl0:List (Str×V)} (hi:Ev g D sc σ iter a σ₁) (hit:aZ g D a σ₁.os nx)
  (hk:scope.kind=.function) (hnd:(scope.names.map (·.1)).Nodup) (hfr:∀x,(x,Ks)∈scope.names->sc.names.lookup x=some .cell\/sc.names.lookup x=some .free)
  (hcl:∀x k,(x,k)∈scope.names->cl0.lookup x=if k=Ks then σ₁.loc.lookup x else none)
  (hrun:ba g D (compSc scope sc) t ifs elt nx σ₁.os.length σe 0 ⟨σ₁.os++[.list []],cl0⟩) (hl1:∀x,(x,Ks)∈scope.names->loc'.lookup x=σe.loc.lookup x) (hl2:∀x,(x,Ks)∉scope.names->loc'.lookup x=σ₁.loc.lookup x)
  (hs:∀env x,LP iter env x=pure x):Ev g D sc σ (.ListComp elt [⟨t,iter,ifs,0⟩] scope pos) (.ref σ₁.os.length) ⟨σe.os,loc'⟩:=
 Ev.compG hi hit hk hnd hfr hcl (fun he hr _ _ _ _ _ _ _ _ at_ ha st go hn q=>ut he hr hrun at_ ha st go hn q) hl1 hl2 hs
noncomputable def bt (k:Nat):NJ×List Kz×Scope:=F4 (PW.main.body.getD k default)
noncomputable def aM (k j:Nat):NJ×List Kz×Scope:=F4 ((af (PW.main.body.getD k default)).getD j default)
noncomputable def fnO (p:NJ×List Kz×Scope) (name qual:Str) (dflt doc md code:Kd):KN:=
 { name:=name,qualname:=qual,params:=p.1,body:=.stmts p.2.1,scope:=p.2.2,globals:=K9,closure:=[],defaults:=dflt,kwdefaults:=.none,doc:=doc,pyModule:=md,code:=code,builtins:=LL }
noncomputable def f6 (P:K5) (l:List (Str×Tok×Kd)):Array Me:=(l.map fun(x,t,v)=>⟨MJ P x,.str x t,v⟩).toArray
abbrev DE:=List (Str×Tok×Kd)
noncomputable def fN (p:NJ×List Kz×Scope) (nm q:Str) (d:Kd) (md:Str) (t:Tok) (c:Kj):KN:=fnO p nm q d .none (.str md t) (.ref c)
noncomputable def FD (r0 r1:Kj) (x y:Kd) (a:Kj) (f:KN) (t:Tok) (l n1 n2 n3 fl k:Nat):Array Kd:=#[.str f.name t,.str f.qualname (t + 1),.str "/claim/cut.py" (t + 2),.int l 0,.int n1 0,.int n2 0,.int n3 0,.int fl 0,.ref r0,.bool true,.int 318 0,.ref r1,.none,x,y,.ref (a - 2),.int k 0,.int l 0,.str "/claim/cut.py" (k + 1)]
noncomputable def Gc (r0 r1:Kj) (x y:Kd) (a:Kj) (f:KN) (t:Tok) (l n1 n2 n3 fl k:Nat):List (Kj×Obj):=[(a - 1,⟨.type "code",none,.fields (FD r0 r1 x y a f t l n1 n2 n3 fl k),#[]⟩),(a,⟨.type "function",none,.func f,#[]⟩)]
noncomputable def cu (a:Kj):=Gc (a - 6) (a - 5) (.ref (a - 4)) (.ref (a - 3)) a
noncomputable def uk (a:Kj):=Gc (a - 4) (a - 3) .none .none a
noncomputable def bI (n:Nat) (l:List String):List (Str×Tok×Kd):=(l.zipIdx n).map fun(s,i)=>(J8 s,i,.builtin s)
noncomputable def tI (n:Nat) (l:List String):List (Str×Tok×Kd):=(l.zipIdx n).map fun(s,i)=>(J8 s,i,.type s)
noncomputable def Ia:KN:=fN (bt 2) "_wall" "_wall" .none "__main__" 164 43
noncomputable def r6:KN:=fN (bt 7) "_substitution_cost" "_substitution_cost" .none "cpy313.traceback" 331 50
noncomputable def rB:KN:=fN (bt 8) "_levenshtein_distance" "_levenshtein_distance" .none "cpy313.traceback" 331 57
noncomputable def rD:KN:=fN (aM 12 1) "__init__" "_NodeInfo.__init__" .none "cpy313.graphlib" 367 72
noncomputable def j9:KN:=fN (aM 14 0) "__init__" "TopologicalSorter.__init__" (.ref 103) "cpy313.graphlib" 367 109
noncomputable def lu:KN:=fN (aM 14 1) "_get_nodeinfo" "TopologicalSorter._get_nodeinfo" .none "cpy313.graphlib" 367 116
noncomputable def dM:KN:=fN (aM 14 2) "add" "TopologicalSorter.add" .none "cpy313.graphlib" 367 123
noncomputable def cU:KN:=fN (aM 14 3) "prepare" "TopologicalSorter.prepare" .none "cpy313.graphlib" 367 128
noncomputable def g8:KN:=fN (aM 14 4) "get_ready" "TopologicalSorter.get_ready" .none "cpy313.graphlib" 367 135
noncomputable def iZ:KN:=fN (aM 14 5) "is_active" "TopologicalSorter.is_active" .none "cpy313.graphlib" 367 142
noncomputable def cq:KN:=fN (aM 14 7) "done" "TopologicalSorter.done" .none "cpy313.graphlib" 367 156
noncomputable def a7:KN:=fN (aM 14 8) "_find_cycle" "TopologicalSorter._find_cycle" .none "cpy313.graphlib" 367 163
noncomputable def j8:KN:=fN (bt 18) "_index" "_index" .none "io" 589 196
noncomputable def f0:KN:=fN (aM 20 1) "__new__" "IOBase.__new__" .none "io" 589 223
noncomputable def dY:KN:=fN (aM 24 1) "__init__" "StringIO.__init__" (.ref 494) "io" 589 500
noncomputable def nI:KN:=fN (aM 24 2) "__translated" "StringIO.__translated" .none "io" 589 507
noncomputable def ny:KN:=fN (aM 24 3) "__check" "StringIO.__check" .none "io" 589 514
noncomputable def fD:KN:=fN (aM 24 25) "read" "StringIO.read" (.ref 670) "io" 589 676
noncomputable def jg:KN:=fN (aM 34 0) "__init__" "shlex.__init__" (.ref 783) "cpy313.shlex" 1305 789
noncomputable def nu:KN:=fN (aM 34 1) "punctuation_chars" "shlex.punctuation_chars" .none "cpy313.shlex" 1305 796
noncomputable def cz:KN:=fN (aM 34 5) "get_token" "shlex.get_token" .none "cpy313.shlex" 1305 826
noncomputable def bp:KN:=fN (aM 34 6) "read_token" "shlex.read_token" .none "cpy313.shlex" 1305 833
noncomputable def jX:KN:=fN (aM 34 9) "__iter__" "shlex.__iter__" .none "cpy313.shlex" 1305 855
noncomputable def dX:KN:=fN (aM 34 10) "__next__" "shlex.__next__" .none "cpy313.shlex" 1305 862
noncomputable def hV:KN:=fN (bt 35) "split" "split" (.ref 871) "cpy313.shlex" 1305 877
noncomputable def j7:KN:=fN (bt 36) "join" "join" .none "cpy313.shlex" 1305 884
noncomputable def nH:KN:=fN (bt 39) "quote" "quote" .none "cpy313.shlex" 1305 892
noncomputable def ri:KN:=fN (bt 41) "_law_word" "_law_word" .none "law_op0290_01" 1473 899
noncomputable def sg:KN:=fN (bt 42) "_law_quoted" "_law_quoted" .none "law_op0290_01" 1473 906
noncomputable def sr:KN:=fN (bt 43) "_law_size" "_law_size" .none "law_op0290_01" 1473 913
noncomputable def aY:KN:=fN (bt 44) "_law_steps" "_law_steps" .none "law_op0290_01" 1473 918
noncomputable def ar:KN:=fN (bt 45) "_law_told" "_law_told" .none "law_op0290_01" 1473 923
noncomputable def fd929:KN:=fN (bt 46) "_law_due" "_law_due" .none "law_op0290_01" 1473 928
noncomputable def aw:KN:=fN (bt 47) "law" "law" .none "law_op0290_01" 1473 933
noncomputable def KL (P:K5):Frag:=[
 (0,⟨(.type "dict"),none,(.dict (f6 P (([("__name__",1,(.str "builtins" 160)),("__doc__",2,(.builtin "builtins.__doc__:str#opaque")),("__package__",3,(.builtin "builtins.__package__:str#opaque")),("__loader__",4,(.builtin "builtins.__loader__:shared#opaque")),("__spec__",5,(.builtin "builtins.__spec__#opaque"))]:DE)++bI 6 ["__build_class__","__import__","abs","all","any","ascii","bin","breakpoint","callable","chr","compile","delattr","dir","divmod","eval","exec","format","getattr","globals","hasattr","hash","hex","id","input","isinstance","issubclass","iter","aiter","len","locals","max","min","next","anext","oct","ord","pow","print","repr","round","setattr","sorted","sum","vars"]++([("None",50,.none),("Ellipsis",51,.ellipsis),("NotImplemented",52,.notImplemented),("False",53,(.bool false)),("True",54,(.bool true))]:DE)++tI 55 ["bool","memoryview","bytearray","bytes","classmethod","complex","dict","enumerate","filter","float","frozenset","property","int","list","map","object","range","reversed","set","slice","staticmethod","str","super","tuple","type","zip"]++([("__debug__",81,(.bool true))]:DE)++tI 82 ["BaseException","BaseExceptionGroup","Exception","GeneratorExit","KeyboardInterrupt","SystemExit","ArithmeticError","AssertionError","AttributeError","BufferError","EOFError","ImportError","LookupError","MemoryError","NameError","OSError","ReferenceError","RuntimeError","StopAsyncIteration","StopIteration","SyntaxError","SystemError","TypeError","ValueError","Warning","FloatingPointError","OverflowError","ZeroDivisionError","BytesWarning","DeprecationWarning","EncodingWarning","FutureWarning","ImportWarning","PendingDeprecationWarning","ResourceWarning","RuntimeWarning","SyntaxWarning","UnicodeWarning","UserWarning","BlockingIOError","ChildProcessError","ConnectionError","FileExistsError","FileNotFoundError","InterruptedError","IsADirectoryError","NotADirectoryError","PermissionError","ProcessLookupError","TimeoutError","IndentationError","_IncompleteInputError","IndexError","KeyError","ModuleNotFoundError","NotImplementedError","PythonFinalizationError","RecursionError","UnboundLocalError","UnicodeError","BrokenPipeError","ConnectionAbortedError","ConnectionRefusedError","ConnectionResetError","TabError","UnicodeDecodeError","UnicodeEncodeError","UnicodeTranslateError","ExceptionGroup"]++([("EnvironmentError",151,(.type "OSError")),("IOError",152,(.type "OSError"))]:DE)++bI 153 ["open"]++([("quit",154,(.builtin "builtins.quit#opaque")),("exit",155,(.builtin "builtins.exit#opaque")),("copyright",156,(.builtin "builtins.copyright#opaque")),("credits",157,(.builtin "builtins.credits#opaque")),("license",158,(.builtin "builtins.license#opaque")),("help",159,(.builtin "builtins.help#opaque"))]:DE))) 159),#[]⟩),
 (2,⟨.none,none,(.dict (f6 P [("\x69mport.loaded._sre",183,(.bool true)),("class._frozen_importlib.BuiltinImporter",185,(.ref 14)),("watched.\x69mport",206,(.ref 18)),("class._frozen_importlib.ModuleSpec",216,(.ref 22)),("sys.modules.booked-epoch",245,(.int (4) 0)),("\x69mport.later-laid._sre",270,(.bool true)),("watched.library",272,(.ref 27)),("watched.library-objects",0,(.str "\x0c\x1e" 0)),("watched.library-deep._sre",273,(.str "\x04\x00\x00\x0b\x04\x00\x00\x0b\x04\x00\x00\x03\x04\x00\x00\x0b\x08\x04dict\x02" 0)),("\x69mport.loaded._collections",280,(.bool true)),("sys.modules.landed._collections",294,(.bool true)),("\x69mport.later-laid._collections",309,(.bool true)),("watched.library-deep._collections",311,(.str "\x04\x00\x00\x1d\x04\x00\x00\x1d\x04\x00\x00\x03\x04\x00\x00\x1d\x08\x04dict\x02" 0)),("type.__subclasses__.OSError.0",625,(.int (207) 0)),("type.__subclasses__.OSError.n",626,(.int (1) 0))]) 15),#[]⟩),
 (3,⟨(.type "dict"),none,(.dict (f6 P (([("__name__",165,(.str "law_op0290_01" 1473)),("__doc__",166,.none),("__package__",167,.none),("__loader__",168,(.builtin "__main__.__loader__#opaque")),("__spec__",169,.none),("__annotations__",170,(.ref 6)),("__builtins__",171,(.ref 4)),("__file__",173,(.str "/claim/cut.py" 172)),("__cached__",174,.none),("_sre",275,(.ref 12)),("deque",317,(.type "collections.deque")),("_wall",330,(.ref 44)),("_MAX_STRING_SIZE",334,(.int (40) 333)),("_MOVE_COST",336,(.int (2) 335)),("_CASE_COST",338,(.int (1) 337)),("_substitution_cost",346,(.ref 51)),("_levenshtein_distance",366,(.ref 58)),("_NODE_OUT",371,(.int (-1) 370)),("_NODE_DONE",374,(.int (-2) 373)),("_NodeInfo",411,(.ref 77)),("CycleError",429,(.ref 92)),("TopologicalSorter",548,(.ref 174)),("_twin_re_1",588,(.ref 183)),("_whence",598,(.ref 190)),("_index",606,(.ref 197))]:DE)++([("UnsupportedOperation",628,(.ref 207)),("IOBase",660,(.ref 227)),("BufferedIOBase",678,(.ref 242)),("TextIOBase",696,(.ref 254)),("BytesIO",958,(.ref 484)),("StringIO",1245,(.ref 731)),("_kind",1256,(.ref 740)),("_fspath",1265,(.ref 747)),("_check_arg_types",1275,(.ref 754)),("isabs",1282,(.ref 761)),("join",1293,(.ref 885)),("join_path",1294,(.ref 768)),("dirname",1304,(.ref 775)),("shlex",1445,(.ref 866)),("split",1455,(.ref 878)),("join_shlex",1463,(.ref 885)),("_find_unsafe",1465,(.ref 886)),("quote",1472,(.ref 893)),("_law_word",1481,(.ref 900)),("_law_quoted",1489,(.ref 907)),("_law_size",1496,(.ref 914)),("_law_steps",1502,(.ref 919)),("_law_told",1508,(.ref 924)),("_law_due",1514,(.ref 929)),("law",1520,(.ref 934))]:DE))) 50),#[]⟩),
 (4,⟨(.type "module"),(some 0),.plain,#[]⟩),
 (76,⟨(.type "dict"),none,(.dict (f6 P [("__module__",382,(.str "cpy313.graphlib" 367)),("__firstlineno__",386,(.int (57) 385)),("__slots__",390,(.ref 66)),("__init__",398,(.ref 73)),("__static_attributes__",402,(.ref 74)),("node",404,(.ref 78)),("npredecessors",406,(.ref 79)),("successors",408,(.ref 80)),("__doc__",409,.none)]) 5),#[]⟩),
 (77,⟨(.type "type"),none,(.cls { name:="_NodeInfo",bases:=[(.type "object")],mro:=[(.ref 77),(.type "object")],ns:=76,qualname:="_NodeInfo",hasDict:=false,slotNames:=["node","npredecessors","successors"],subclasses:=[],abstract:=false,collection:=none,hasDel:=false }),#[none,none,(some (.str "_NodeInfo" 375)),(some (.str "_NodeInfo" 383)),(some (.builtin "object.__new__")),(some (.bool false))]⟩),
 (78,⟨(.type "member_descriptor"),none,(.fields #[(.str "node" 403),(.ref 77),(.builtin "proto.slot"),(.builtin "proto.slot#set"),(.int (2) 0)]),#[]⟩),
 (79,⟨(.type "member_descriptor"),none,(.fields #[(.str "npredecessors" 405),(.ref 77),(.builtin "proto.slot"),(.builtin "proto.slot#set"),(.int (1) 0)]),#[]⟩),
 (80,⟨(.type "member_descriptor"),none,(.fields #[(.str "successors" 407),(.ref 77),(.builtin "proto.slot"),(.builtin "proto.slot#set"),(.int (0) 0)]),#[]⟩),
 (103,⟨(.type "tuple"),none,(.seq #[.none] 0),#[]⟩),
 (173,⟨(.type "dict"),none,(.dict (f6 P [("__module__",437,(.str "cpy313.graphlib" 367)),("__firstlineno__",441,(.int (66) 440)),("__init__",451,(.ref 110)),("_get_nodeinfo",460,(.ref 117)),("add",472,(.ref 124)),("prepare",478,(.ref 129)),("get_ready",488,(.ref 136)),("is_active",495,(.ref 143)),("__bool__",502,(.ref 150)),("done",516,(.ref 157)),("_find_cycle",529,(.ref 164)),("static_order",536,(.ref 171)),("__static_attributes__",541,(.ref 172)),("__dict__",543,(.ref 175)),("__weakref__",545,(.ref 176)),("__doc__",546,.none)]) 4),#[]⟩),
 (174,⟨(.type "type"),none,(.cls { name:="TopologicalSorter",bases:=[(.type "object")],mro:=[(.ref 174),(.type "object")],ns:=173,qualname:="TopologicalSorter",hasDict:=true,slotNames:=[],subclasses:=[],abstract:=false,collection:=none,hasDel:=false }),#[none,none,(some (.str "TopologicalSorter" 430)),(some (.str "TopologicalSorter" 438)),(some (.builtin "object.__new__")),(some (.bool true))]⟩),
 (182,⟨(.type "tuple"),none,(.seq #[(.int (14) 0),(.int (17) 0),(.int (4) 0),(.int (1) 0),(.int (1) 0),(.int (21) 0),(.int (9) 0),(.int (0) 0),(.int (604043296) 0),(.int (1) 0),(.int (0) 0),(.int (0) 0),(.int (0) 0),(.int (0) 0),(.int (0) 0),(.int (8) 0),(.int (4) 0),(.int (0) 0),(.int (13) 0),(.int (14) 0),(.int (21) 0),(.int (9) 0),(.int (0) 0),(.int (604043296) 0),(.int (1) 0),(.int (0) 0),(.int (0) 0),(.int (0) 0),(.int (0) 0),(.int (0) 0),(.int (8) 0),(.int (4) 0),(.int (0) 0),(.int (1) 0)] 0),#[]⟩),
 (183,⟨(.type "re.Pattern"),none,(.fields #[(.str "[^\\w@%+=:,./-]" 550),(.int (256) 587),(.int (0) 0),.none,.none,(.ref 182),(.int (0) 0)]),#[]⟩),
 (226,⟨(.type "dict"),none,(.dict (f6 P [("__module__",636,(.str "io" 641)),("__firstlineno__",640,(.int (188) 639)),("__new__",651,(.ref 228)),("__static_attributes__",652,(.ref 225)),("__dict__",655,(.ref 229)),("__weakref__",657,(.ref 230)),("__doc__",658,.none)]) 4),#[]⟩),
 (227,⟨(.type "type"),none,(.cls { name:="IOBase",bases:=[(.type "object")],mro:=[(.ref 227),(.type "object")],ns:=226,qualname:="IOBase",hasDict:=true,slotNames:=[],subclasses:=[(.ref 242),(.ref 254)],abstract:=false,collection:=none,hasDel:=false }),#[none,none,(some (.str "IOBase" 629)),(some (.str "IOBase" 637)),(some .none),(some (.bool true))]⟩),
 (228,⟨(.type "staticmethod"),none,(.fields #[(.ref 224)]),#[]⟩),
 (253,⟨(.type "dict"),none,(.dict (f6 P [("__module__",686,(.str "io" 691)),("__firstlineno__",690,(.int (197) 689)),("__static_attributes__",693,(.ref 252)),("__doc__",694,.none)]) 2),#[]⟩),
 (254,⟨(.type "type"),none,(.cls { name:="TextIOBase",bases:=[(.ref 227)],mro:=[(.ref 254),(.ref 227),(.type "object")],ns:=253,qualname:="TextIOBase",hasDict:=true,slotNames:=[],subclasses:=[(.ref 731)],abstract:=false,collection:=none,hasDel:=false }),#[(some (.ref 245)),none,(some (.str "TextIOBase" 679)),(some (.str "TextIOBase" 687)),(some .none),(some (.bool true))]⟩),
 (484,⟨(.type "type"),none,(.cls { name:="BytesIO",bases:=[(.ref 242)],mro:=[(.ref 484),(.ref 242),(.ref 227),(.type "object")],ns:=483,qualname:="BytesIO",hasDict:=true,slotNames:=[],subclasses:=[],abstract:=false,collection:=none,hasDel:=false }),#[(some (.ref 257)),none,(some (.str "BytesIO" 697)),(some (.str "BytesIO" 705)),(some .none),(some (.bool true))]⟩),
 (494,⟨(.type "tuple"),none,(.seq #[(.str "" 973),(.str "\n" 974)] 0),#[]⟩),
 (670,⟨(.type "tuple"),none,(.seq #[(.int (-1) 1166)] 0),#[]⟩),
 (730,⟨(.type "dict"),none,(.dict (f6 P (([("__module__",966,(.str "_io" 971)),("__firstlineno__",970,(.int (369) 969)),("__init__",983,(.ref 501)),("_StringIO__translated",992,(.ref 508)),("_StringIO__check",999,(.ref 515)),("_StringIO__check_dot",1006,(.ref 522)),("_StringIO__line",1021,(.ref 529)),("closed",1029,(.ref 537)),("line_buffering",1037,(.ref 545)),("newlines",1045,(.ref 553)),("encoding",1053,(.ref 561)),("errors",1061,(.ref 569)),("close",1068,(.ref 576)),("__enter__",1075,(.ref 583)),("__exit__",1083,(.ref 590)),("readable",1090,(.ref 597)),("writable",1097,(.ref 604)),("seekable",1104,(.ref 611)),("isatty",1111,(.ref 618)),("flush",1118,(.ref 625)),("fileno",1125,(.ref 632)),("detach",1132,(.ref 639)),("getvalue",1139,(.ref 646)),("tell",1146,(.ref 653)),("seek",1156,(.ref 661))]:DE)++([("truncate",1164,(.ref 669)),("read",1176,(.ref 677)),("readline",1186,(.ref 685)),("readlines",1196,(.ref 693)),("__iter__",1203,(.ref 700)),("__next__",1211,(.ref 707)),("write",1223,(.ref 714)),("writelines",1231,(.ref 721)),("__repr__",1238,(.ref 728)),("__static_attributes__",1242,(.ref 729)),("__doc__",1243,.none)]:DE))) 2),#[]⟩),
 (731,⟨(.type "type"),none,(.cls { name:="StringIO",bases:=[(.ref 254)],mro:=[(.ref 731),(.ref 254),(.ref 227),(.type "object")],ns:=730,qualname:="StringIO",hasDict:=true,slotNames:=[],subclasses:=[],abstract:=false,collection:=none,hasDel:=false }),#[(some (.ref 487)),none,(some (.str "StringIO" 959)),(some (.str "StringIO" 967)),(some .none),(some (.bool true))]⟩),
 (783,⟨(.type "tuple"),none,(.seq #[.none,.none,(.bool false),(.bool false)] 0),#[]⟩),
 (798,⟨(.type "property"),none,(.fields #[(.ref 797),.none,.none,.none,(.str "punctuation_chars" 1338),(.bool false)]),#[]⟩),
 (865,⟨(.type "dict"),none,(.dict (f6 P [("__module__",1314,(.str "cpy313.shlex" 1305)),("__firstlineno__",1318,(.int (639) 1317)),("__init__",1330,(.ref 790)),("punctuation_chars",1338,(.ref 798)),("push_token",1346,(.ref 805)),("push_source",1355,(.ref 813)),("pop_source",1362,(.ref 820)),("get_token",1374,(.ref 827)),("read_token",1385,(.ref 834)),("sourcehook",1393,(.ref 841)),("error_leader",1402,(.ref 849)),("__iter__",1409,(.ref 856)),("__next__",1417,(.ref 863)),("__static_attributes__",1438,(.ref 864)),("__dict__",1440,(.ref 867)),("__weakref__",1442,(.ref 868)),("__doc__",1443,.none)]) 4),#[]⟩),
 (866,⟨(.type "type"),none,(.cls { name:="shlex",bases:=[(.type "object")],mro:=[(.ref 866),(.type "object")],ns:=865,qualname:="shlex",hasDict:=true,slotNames:=[],subclasses:=[],abstract:=false,collection:=none,hasDel:=false }),#[none,none,(some (.str "shlex" 1307)),(some (.str "shlex" 1315)),(some (.builtin "object.__new__")),(some (.bool true))]⟩),
 (871,⟨(.type "tuple"),none,(.seq #[(.bool false),(.bool true)] 0),#[]⟩),
 (886,⟨(.type "builtin_function_or_method"),none,(.fields #[(.builtin "re.Pattern.search"),(.ref 183)]),#[]⟩)]
 ++[
 cu 44 Ia 324 3 1 0 0 3 328,
 cu 51 r6 339 10 2 0 0 3 344,
 cu 58 rB 347 16 3 0 0 3 364,
 cu 73 rD 391 60 2 0 0 3 396,
 cu 110 j9 442 68 2 0 0 3 449,
 cu 117 lu 452 77 2 0 0 3 458,
 cu 124 dM 461 82 2 0 0 7 470,
 uk 129 cU 473 91 1 0 0 3 476,
 cu 136 g8 479 99 1 0 0 3 486,
 cu 143 iZ 489 110 1 0 0 3 493,
 cu 157 cq 503 118 1 0 0 7 514,
 cu 164 a7 517 141 1 0 0 3 527,
 cu 197 j8 599 179 2 0 0 3 604,
 cu 224 f0 643 191 1 1 0 15 649,
 cu 501 dY 975 372 3 0 0 3 981,
 cu 508 nI 984 385 2 0 0 3 990,
 cu 515 ny 993 393 1 0 0 3 997,
 cu 677 fD 1167 515 2 2 0 3 1174,
 cu 790 jg 1319 641 5 0 0 3 1328,
 cu 797 nu 1331 682 1 0 0 3 1335,
 cu 827 cz 1363 709 1 0 0 3 1372,
 cu 834 bp 1375 736 1 0 0 3 1383,
 cu 856 jX 1403 883 1 0 0 3 1407,
 cu 863 dX 1410 886 1 0 0 3 1415,
 cu 878 hV 1446 891 3 0 0 3 1453,
 cu 885 j7 1456 899 1 0 0 3 1460,
 cu 893 nH 1466 903 1 0 0 3 1470,
 cu 900 ri 1475 910 1 0 0 3 1479,
 cu 907 sg 1482 912 1 0 0 3 1487,
 cu 914 sr 1490 915 1 0 0 3 1494,
 uk 919 aY 1497 917 2 0 0 3 1500,
 uk 924 ar 1503 934 1 0 0 3 1506,
 uk 929 fd929 1509 951 1 0 0 3 1512,
 uk 934 aw 1515 961 1 0 0 3 1518].flatten
noncomputable def KA:List Kj:=[0,2,3,4,76,77,78,79,80,103,173,174,182,183,226,227,228,253,254,484,494,670,730,731,783,798,865,866,871,886,43,44,50,51,57,58,72,73,109,110,116,117,123,124,128,129,135,136,142,143,156,157,163,164,196,197,223,224,500,501,507,508,514,515,676,677,789,790,796,797,826,827,833,834,855,856,862,863,877,878,884,885,892,893,899,900,906,907,913,914,918,919,923,924,928,929,933,934]
noncomputable def q:Np:=view NW [0,1,47]
noncomputable def Jg:Kz->List Str
 | .FunctionDef n _ _ _ _ _ _ _ _ _=>[n]
 | .ClassDef n _ _ _ _ _ _ _ _ _ _=>[n]
 | .Assign (.Name n _::_) _ _=>[n]
 | _=>[]
noncomputable def iB (p:Np):List Str:=((p.main.body.drop 2).take 45).flatMap Jg
noncomputable def jU (tb:String->Option Builtin) (p:Np) (w:J9) (n0:Nat) (ann:Option Kd):Nat->SharedT->Thread->Option SharedT
 | 0,_,_=>none
 | n + 1,s,t=>match through t with
  | true=>some s
  | false=>match stepOk n0 ann t with
   | false=>none
   | true=>(stepT (denote tb) p w s t).bind fun r=>jU tb p w n0 ann n r.1 r.2
theorem rE {tb:String->Option Builtin} {p:Np} {n0:Nat} {ann:Option Kd} {s s':SharedT} {t:Thread} (h:jU tb p w n0 ann n s t=some s'):topRun tb p w n0 ann n s.abs t=some s'.abs:=by
 induction n generalizing s t with
 | zero=>exact nS h
 | succ n ih=>
  unfold jU at h
  unfold topRun
  cases he:through t with
  | true=>rw[he] at h;cases h;rfl
  | false=>
   rw[he] at h
   cases hk:stepOk n0 ann t with
   | false=>rw[hk] at h;exact nS h
   | true=>
    rw[hk] at h
    obtain⟨r,hs,h⟩:=Option.bind_eq_some_iff.mp h
    dsimp only
    rw[stepT_spec hs];exact ih h
noncomputable def oF:List Obj->Nat->BT->Option (BT×Nat)
 | [],n,t=>some (t,n)
 | o::r,n,t=>match ((t.ins n o).get n).isSome with
  | true=>oF r (n + 1) (t.ins n o)
  | false=>none
theorem wI {life:Life} {l:List Obj} {t:BT} {r:BT×Nat} (h:oF l n t=some r):absHeap r.1 r.2 life=⟨(absHeap t n life).objs++l.toArray,life⟩:=by
 induction l generalizing n t with
 | nil=>cases h;exact congrArg (Heap.mk · life) (Array.append_empty).symm
 | cons o l ih=>
  replace h:(match ((t.ins n o).get n).isSome with
   | true=>oF l (n + 1) (t.ins n o)
   | false=>none)=some r:=h
  cases e:((t.ins n o).get n).isSome with
  | false=>rw[e] at h;exact nS h
  | true=>
   rw[e] at h
   rw[ih h,absHeap_ins e]
   refine congrArg (Heap.mk · life) ?_
   show(absHeap t n life).objs.push o++l.toArray=_
   simp
noncomputable def rh (PW q:Np) (loose:List Str) (Xt:Kl->Bool) (Yf:Kl->α) (N:Nat) (w:J9):=
 (fencedOpening treeTable PW w N).bind fun s₀=>
  match s₀.heap.isNs K9&&s₀.gens.size==0 with
  | false=>none
  | true=>match oF s₀.heap.objs.toList 0 .nil with
   | none=>none
   | some (t,n)=>(jU treeTable PW w s₀.heap.objs.size (s₀.heap.nsMap K9 "__annotations__") N ⟨t,n,s₀.heap.life,s₀.gens,s₀.drawn,s₀.toks,s₀.os⟩ (topStub PW)).bind fun r=>
    match staticsOk (NR PW.main.body) s₀.heap r.abs.heap&&namesBound PW r.abs.heap&&gensDone r.abs&&laidKept s₀.heap r.abs.heap with
    | true=>some (openSeen q loose (NR PW.main.body) Xt true r.abs,Yf r.abs)
    | false=>none
theorem y5 {loose:List Str} {Xt:Kl->Bool} {Yf:Kl->α} {Ya:J9->α}
  (h:∀w,rh PW q loose Xt Yf N w=some (openGood q loose,Ya w)):LeftO PW q loose Xt Yf Ya N:=fun w=>by
 have h:=h w
 unfold rh at h
 obtain⟨s₀,h0,h⟩:=Option.bind_eq_some_iff.mp h
 unfold openEnds
 rw[h0]
 show(topFrom treeTable PW w N s₀).map _=_
 unfold topFrom
 cases e1:s₀.heap.isNs K9&&s₀.gens.size==0 with
 | false=>rw[e1] at h;exact nS h
 | true=>
  rw[e1] at h
  dsimp only at h ⊢
  cases e2:oF s₀.heap.objs.toList 0 .nil with
  | none=>rw[e2] at h;exact nS h
  | some tn=>
   obtain⟨t,n⟩:=tn
   rw[e2] at h
   dsimp only at h
   obtain⟨r,h1,h⟩:=Option.bind_eq_some_iff.mp h
   have ea:absHeap t n s₀.heap.life=s₀.heap:=by
    have z:=wI (life:=s₀.heap.life) e2
    rw[z]
    obtain⟨⟨⟨l⟩,li⟩,g,d,k,os⟩:=s₀
    simp[absHeap,BT.list]
   have h2:=rE h1
   have es:(⟨t,n,s₀.heap.life,s₀.gens,s₀.drawn,s₀.toks,s₀.os⟩:SharedT).abs=s₀:=by
    show Shared.mk _ _ _ _ _=_
    rw[ea]
   rw[es] at h2
   rw[h2]
   show Option.map _ (match staticsOk (NR PW.main.body) s₀.heap r.abs.heap&&namesBound PW r.abs.heap&&gensDone r.abs&&laidKept s₀.heap r.abs.heap with | true=>some r.abs | false=>none)=_
   cases e3:staticsOk (NR PW.main.body) s₀.heap r.abs.heap&&namesBound PW r.abs.heap&&gensDone r.abs&&laidKept s₀.heap r.abs.heap with
   | false=>rw[e3] at h;exact nS h
   | true=>rw[e3] at h;exact h
noncomputable def run4 (p:Np) (w:J9):=rh p (view p [0,1,47]) (iB p) (fun _=>true) (fun s=>(KA.map s.heap.get?,s.heap.get? 880)) 6400 w
lay_quick Internal.run4
theorem As (w:J9):PySem.W.Fast.tw10661973635909022255 PW w=some (openGood q (iB PW),((KL w.params).map fun p=>some p.2,some (dT #[]))):=∅
def lkF{u a b c d e:Bool}(h:u=(a&&b&&c&&d&&e)):{x:Bool×Bool×Bool×Bool×Bool//x.1=true→x.2.1=true→x.2.2.1=true→x.2.2.2.1=true→x.2.2.2.2=true→u=true}:=⟨(a,b,c,d,e),fun(i:a=true)(j:b=true)(k:c=true)(l:d=true)(m:e=true)=>by rw[h,i,j,k,l,m];rfl⟩
noncomputable def lkE(p:Np):=lkF (by delta PySem.W.Fast.tw12908688711261696721;rfl:PySem.W.Fast.tw12908688711261696721 p=(_&&_&&_&&_&&_))
noncomputable def lkS(l:OpenLaw):{b:Bool//PySem.W.Fast.tw12908688711261696721 (PySem.W.Fast.tw2368527892694137696 l).prog=true→PySem.W.Fast.tw9446332074065402090 l=b}:=⟨_,fun h=>by
 delta PySem.W.Fast.tw9446332074065402090 PySem.W.Fast.tw17960256430627541270 PySem.W.Fast.tw2436336058641802641
 rw[h]⟩
def lkL(p:Np):OpenLaw:={ prog:=p,name:=(PySem.Str.ofString "law"),about:=[(PySem.Str.ofString "_levenshtein_distance")],foot:=7,most:=some 63,bound:=none,writes:=false }
theorem lkA(p:Np)(h:PySem.W.Fast.tw12908688711261696721 p=true)(k:(lkS (lkL p)).1=true):(lkL p).wellSaid=true:=(congrFun PySem.W.Fast.te9446332074065402090 _).trans (((lkS (lkL p)).2 h).trans k)
theorem lz1:(lkE PW).1.1=true:=∅
theorem lz2:(lkE PW).1.2.1=true:=∅
theorem lz3:(lkE PW).1.2.2.1=true:=∅
theorem lz4:(lkE PW).1.2.2.2.1=true:=∅
theorem lz5:(lkE PW).1.2.2.2.2=true:=∅
theorem lz6:(lkS (lkL PW)).1=true:=∅
noncomputable def rn (e:List Nat) (N k:Nat):Nat:=(e[k]?).getD (N + (k - e.length))
noncomputable def bx (f:Nat->Nat):V->V
 | .ref k=>.ref (f k)
 | v=>v
noncomputable def O.ren (f:Nat->Nat):O->O
 | .list xs=>.list (xs.map (Internal.bx f))
 | .tuple xs=>.tuple (xs.map (Internal.bx f))
 | .dict es n=>.dict (es.map fun p=>(p.1,Internal.bx f p.2)) n
 | .inst C d=>.inst C (f d)
 | .slots C d vs=>.slots C (f d) (vs.map (Option.map (Internal.bx f)))
 | .fix ob=>.fix ob
 | .range a b c=>.range a b c
 | .flds ty vs=>.flds ty (vs.map (Internal.bx f))
 | .set ss=>.set ss
 | .map es=>.map (es.map fun p=>(p.1,Internal.bx f p.2))
 | .dead=>.dead
noncomputable def sub (ρ:List Kj) (e:List Nat):List Kj:=e.map fun i=>ρ.getD i 0
theorem RelV.down {e:List Nat} (hN:ρ.length <=N):∀{v:V} {x:Kd},RelV ρ (bx (rn e N) v) x->RelV (sub ρ e) v x
 | .none,_,h=>h
 | .bool _,_,h=>h
 | .int _,_,h=>h
 | .str _,_,h=>h
 | .top _,_,h=>h
 | .ref k,_,⟨a,h,e1⟩=>by
  refine⟨a,?_,e1⟩
  unfold rn at h
  cases q:e[k]? with
  | none=>
   rw[q] at h
   dsimp only [NF] at h
   have:=(List.getElem?_eq_some_iff.mp h).1
   lia
  | some i=>
   rw[q] at h
   dsimp only [Option.getD_some] at h
   unfold sub
   rw[KX,q]
   simp[Kh,h]
theorem aL.down {e:List Nat} (hN:ρ.length <=N):∀{v:Option V} {x:Option Kd},aL ρ (v.map (bx (rn e N))) x->aL (sub ρ e) v x
 | .none,.none,_=>trivial
 | .some _,.some _,h=>RelV.down hN h
 | .some _,.none,h=>h.elim
 | .none,.some _,h=>h.elim
theorem RelV.up {e:List Nat} (he:∀i∈e,i < ρ.length):∀{v:V} {x:Kd},RelV (sub ρ e++ν) v x->RelV (ρ++ν) (bx (rn e ρ.length) v) x
 | .none,_,h=>h
 | .bool _,_,h=>h
 | .int _,_,h=>h
 | .str _,_,h=>h
 | .top _,_,h=>h
 | .ref k,_,⟨a,h,e1⟩=>by
  refine⟨a,?_,e1⟩
  have ls:(sub ρ e).length=e.length:=by simp[sub]
  unfold rn
  by_cases hk:k < e.length
  .rw[Kn (by lia)] at h
   rw[Kc hk]
   have hi:=he _ (Lk hk)
   unfold sub at h
   rw[KX,Kc hk] at h
   simp only[Option.map_some,Option.some.injEq] at h
   dsimp only [Option.getD_some]
   rw[Kn hi,Kc hi]
   rw[Kh,Kc hi] at h
   exact congrArg some h
  .rw[Ke (by lia),ls] at h
   rw[Kv (Lv hk)]
   dsimp only [NF]
   rw[Ke (by lia)]
   rw[show ρ.length + (k - e.length) - ρ.length=k - e.length by lia]
   exact h
theorem aL.up {e:List Nat} (he:∀i∈e,i < ρ.length):∀{v:Option V} {x:Option Kd},aL (sub ρ e++ν) v x->aL (ρ++ν) (v.map (bx (rn e ρ.length))) x
 | .none,.none,_=>trivial
 | .some _,.some _,h=>RelV.up he h
 | .some _,.none,h=>h.elim
 | .none,.some _,h=>h.elim
theorem ae.of_map {R:γ->β->Prop} {R':α->β->Prop} {f:α->γ} (h:∀a b,R (f a) b->R' a b) {l:List α}:∀{l':List β},ae R (l.map f) l'->ae R' l l':=by
 induction l with
 | nil=>
  intro l' x
  cases x
  exact .nil
 | cons a l ih=>
  intro l' x
  cases x with
  | cons x r=>exact .cons (h _ _ x) (ih r)
theorem ae.to_map {α β γ:Type} {R:γ->β->Prop} {R':α->β->Prop} {f:α->γ} (h:∀a b,R' a b->R (f a) b):∀{l:List α} {l':List β},ae R' l l'->ae R (l.map f) l'
 | _,_,.nil=>.nil
 | _,_,.cons x r=>.cons (h _ _ x) (ae.to_map h r)
theorem bj.down {e:List Nat} (hN:ρ.length <=N) (h:bj P ρ ob (o.ren (rn e N))):bj P (sub ρ e) ob o:=by
 have dn:∀{d:Nat} {a:Kj},ρ[rn e N d]?=some a->(sub ρ e)[d]?=some a:=fun {d a} q=>by
  have ob':RelV (sub ρ e) (.ref d) (.ref a):=RelV.down (v:=.ref d) hN ⟨a,q,rfl⟩
  obtain⟨_,h',e'⟩:=ob'
  cases e'
  exact h'
 cases o with
 | list=>exact h.imp fun _ h=>h.imp fun _ h=>⟨h.1,h.2.of_map fun _ _=>RelV.down hN⟩
 | tuple=>exact h.imp fun _ h=>h.imp fun _ h=>⟨h.1,h.2.of_map fun _ _=>RelV.down hN⟩
 | dict=>exact h.imp fun _ h=>⟨h.1,h.2.1.of_map fun _ _ z=>⟨z.1,z.2.1,z.2.2.down hN⟩,by have:=h.2.2;rwa [LU] at this⟩
 | inst=>exact h.imp fun _ h=>⟨dn h.1,h.2⟩
 | slots=>exact h.imp fun _ h=>h.imp fun _ h=>⟨dn h.1,h.2.1,h.2.2.of_map (f:=Option.map (bx (rn e N))) fun _ _ z=>aL.down hN z⟩
 | flds=>exact h.imp fun _ h=>⟨h.1,h.2.of_map fun _ _=>RelV.down hN⟩
 | map=>exact h.imp fun _ h=>h.imp fun _ h=>⟨h.1,h.2.1.of_map fun _ _ z=>⟨z.1,z.2.1,z.2.2.down hN⟩,by have:=h.2.2;rwa [LU] at this⟩
 | _=>exact h
theorem bj.up {e:List Nat} (he:∀i∈e,i < ρ.length) (h:bj P (sub ρ e++ν) ob o):bj P (ρ++ν) ob (o.ren (rn e ρ.length)):=by
 have up:∀{d:Nat} {a:Kj},(sub ρ e++ν)[d]?=some a->(ρ++ν)[rn e ρ.length d]?=some a:=fun {d a} q=>by
  have ob':RelV (ρ++ν) (bx (rn e ρ.length) (.ref d)) (.ref a):=RelV.up (v:=.ref d) he ⟨a,q,rfl⟩
  obtain⟨_,h',e'⟩:=ob'
  cases e'
  exact h'
 cases o with
 | list=>exact h.imp fun _ h=>h.imp fun _ h=>⟨h.1,h.2.to_map (f:=Internal.bx (rn e ρ.length)) fun _ _ z=>RelV.up he z⟩
 | tuple=>exact h.imp fun _ h=>h.imp fun _ h=>⟨h.1,h.2.to_map (f:=Internal.bx (rn e ρ.length)) fun _ _ z=>RelV.up he z⟩
 | dict=>exact h.imp fun _ h=>⟨h.1,h.2.1.to_map (f:=fun p=>(p.1,Internal.bx (rn e ρ.length) p.2)) fun _ _ z=>⟨z.1,z.2.1,RelV.up he z.2.2⟩,by rw[LU];exact h.2.2⟩
 | inst=>exact h.imp fun _ h=>⟨up h.1,h.2⟩
 | slots=>exact h.imp fun _ h=>h.imp fun _ h=>⟨up h.1,h.2.1,h.2.2.to_map (f:=Option.map (bx (rn e ρ.length))) fun _ _ z=>aL.up he z⟩
 | flds=>exact h.imp fun _ h=>⟨h.1,h.2.to_map (f:=Internal.bx (rn e ρ.length)) fun _ _ z=>RelV.up he z⟩
 | map=>exact h.imp fun _ h=>h.imp fun _ h=>⟨h.1,h.2.1.to_map (f:=fun p=>(p.1,Internal.bx (rn e ρ.length) p.2)) fun _ _ z=>⟨z.1,z.2.1,RelV.up he z.2.2⟩,by rw[LU];exact h.2.2⟩
 | _=>exact h
structure eY (e:List Nat) (os W:List O):Prop where
 len:e.length=W.length
 nd:e.Nodup
 lt:∀i∈e,i < os.length
 ob:∀(k i:Nat) (o:O),e[k]?=some i->W[k]?=some o->o=.dead\/os[i]?=some (o.ren (rn e os.length))
theorem iJ {e:List Nat} (he:∀i∈e,i < ρ.length) (h:(sub ρ e)[k]?=some a):∃i,e[k]?=some i/\ρ[i]?=some a:=by
 unfold sub at h
 rw[KX] at h
 obtain⟨i,h1,h2⟩:=Option.map_eq_some_iff.mp h
 refine⟨i,h1,?_⟩
 have hi:=he i (Kq h1)
 rw[Kh,Kc hi] at h2
 rw[Kc hi]
 exact congrArg some h2
theorem gf {e:List Nat} (he:∀i∈e,i < ρ.length) (h:a∈sub ρ e):∃i∈e,ρ[i]?=some a:=by
 obtain⟨k,hk⟩:=List.mem_iff_getElem?.mp h
 obtain⟨i,h1,h2⟩:=iJ he hk
 exact⟨i,Kq h1,h2⟩
theorem eg {l:List α} (h:l.Nodup) {a:α} (hi:l[i]?=some a) (hj:l[j]?=some a):i=j:=
 (List.getElem?_inj (List.getElem?_eq_some_iff.mp hi).1 h).mp (hi.trans hj.symm)
theorem uL {e:List Nat} (he:∀i∈e,i < ρ.length) (h1:e.Nodup) (h2:ρ.Nodup):(sub ρ e).Nodup:=by
 unfold List.Nodup
 rw[List.pairwise_iff_getElem]
 intro i j hi hj hlt heq
 obtain⟨a,a1,a2⟩:=iJ he (Kc hi)
 obtain⟨b,b1,b2⟩:=iJ he (Kc hj)
 rw[heq] at a2
 have:=eg h2 a2 b2
 subst this
 exact absurd (eg h1 a1 b1) (M1 hlt)
theorem HR.sub {W:List O} {e:List Nat} (x:HR P ρ os h) (w:eY e os W):HR P (Internal.sub ρ e) W h:=by
 have he:∀i∈e,i < ρ.length:=fun i hi=>by rw[x.len];exact w.lt i hi
 refine⟨by simp[Internal.sub,w.len],uL he w.nd x.nd,fun a ha=>?_,fun k o a h1 h2=>?_⟩
 .obtain⟨i,_,h2⟩:=gf he ha
  exact x.hi a (Kq h2)
 .obtain⟨i,i1,i2⟩:=iJ he h2
  rcases w.ob k i o i1 h1 with q | q
  .exact .inl q
  .rcases x.ob i _ a q i2 with q2 | ⟨ob,q2,q3⟩
   .cases o <;> first | exact .inl rfl | cases q2
   .exact .inr ⟨ob,q2,q3.down (MM x.len)⟩
structure gU (e:List Nat) (os W' os':List O):Prop where
 len:os'.length + e.length=os.length + W'.length
 inn:∀(k:Nat) (o:O),W'[k]?=some o->os'[rn e os.length k]?=some (o.ren (rn e os.length))
 out:∀i,i < os.length->i∉e->os'[i]?=os[i]?
theorem Lf.frame {W:List O} {e:List Nat} {t:Sem α} (h:Lf g D W (sub ρ e) t R W') (w:eY e os W) (u:gU e os W' os')
  (hR:∀ν x,ρ.length=os.length->R (sub ρ e++ν) x->R' (ρ++ν) x):Lf g D os ρ t R' os':=fun A s hr hh hk=>by
 have he:∀i∈e,i < ρ.length:=fun i hi=>by rw[hh.len];exact w.lt i hi
 refine Kr (h A s hr (hh.sub w) hk) ?_ (fun _ _ z=>z.elim)
 rintro x s' ⟨ρ'',r,hh',go⟩
 obtain⟨ν,rfl,hν⟩:=go.pre
 have lsub:(sub ρ e).length=e.length:=by simp[sub]
 have lW:e.length + ν.length=W'.length:=by rw[<- hh'.len,KC,lsub]
 refine⟨ρ++ν,hR ν x hh.len r,⟨?_,?_,fun a ha=>?_,fun i o a h1 h2=>?_⟩,⟨ν,rfl,hν⟩,fun b o e1 h1 h2=>?_,go.alive,go.gens,go.os⟩
 .rw[KC,hh.len]
  have:=u.len
  lia
 .rw[LQ]
  have nd':=(LQ.mp hh'.nd).2.1
  refine⟨hh.nd,nd',fun a ha b hb=>?_⟩
  rintro rfl
  obtain⟨_,ob,q⟩:=hh.hi a ha
  rw[hν a hb] at q;exact nS q
 .rcases List.mem_append.mp ha with q | q
  .obtain⟨h1,ob,h2⟩:=hh.hi a q
   exact⟨h1,go.alive _ _ h2⟩
  .exact hh'.hi a (Kt _ q)
 .by_cases hi:i < os.length
  .rw[Kn (by rw[hh.len];exact hi)] at h2
   by_cases hm:i∈e
   .obtain⟨k,hk⟩:=List.mem_iff_getElem?.mp hm
    have hk':k < e.length:=(List.getElem?_eq_some_iff.mp hk).1
    have hW:∃o',W'[k]?=some o':=⟨_,Kc (by lia)⟩
    obtain⟨o',hW⟩:=hW
    have ho:=u.inn k o' hW
    rw[show rn e os.length k=i by unfold rn;rw[hk];rfl,h1] at ho
    cases ho
    have h2':(sub ρ e++ν)[k]?=some a:=by
     rw[Kn (by lia)]
     unfold sub
     rw[KX,hk]
     simp[Kh,h2]
    rcases hh'.ob k o' a hW h2' with q | ⟨ob,q1,q2⟩
    .subst q;exact .inl rfl
    .refine .inr ⟨ob,q1,?_⟩
     rw[<- hh.len]
     exact q2.up he
   .rw[u.out i hi hm] at h1
    rcases hh.ob i o a h1 h2 with q | ⟨ob,q1,q2⟩
    .exact .inl q
    .refine .inr ⟨ob,go.keep a ob q1 (fun hm'=>?_) (fun h=>(nomatch h)) (dg (hh.hi a (Kq h2)).1),q2.mono⟩
     obtain⟨j,j1,j2⟩:=gf he hm'
     exact hm (eg hh.nd h2 j2▸j1)
  .have hi':=Lv hi
   rw[Ke (by rw[hh.len];exact hi')] at h2
   have hlt:=(List.getElem?_eq_some_iff.mp h2).1
   have hW:∃o',W'[e.length + (i - os.length)]?=some o':=⟨_,Kc (by rw[hh.len] at hlt;lia)⟩
   obtain⟨o',hW⟩:=hW
   have ho:=u.inn _ o' hW
   rw[show rn e os.length (e.length + (i - os.length))=i by unfold rn;rw[Kv (by lia)];dsimp only [NF];lia,h1] at ho
   cases ho
   have h2':(sub ρ e++ν)[e.length + (i - os.length)]?=some a:=by
    rw[Ke (by lia),lsub,<- h2,hh.len]
    congr 1
    lia
   rcases hh'.ob _ o' a hW h2' with q | ⟨ob,q1,q2⟩
   .subst q;exact .inl rfl
   .refine .inr ⟨ob,q1,?_⟩
    rw[<- hh.len]
    exact q2.up he
 .exact go.kept b o e1 (fun hm=>by
   obtain⟨j,_,j2⟩:=gf he hm
   exact h1 (Kq j2)) h2
theorem Lf.gc {W:List O} {e:List Nat} {t:Sem α} (h:Lf g D os ρ t R os₁) (w:eY e os₁ W) (hp:∀k,k < os.length->e[k]?=some k)
  (hR:∀ρ' x,ρ'.length=os₁.length->R ρ' x->R' (sub ρ' e) x):Lf g D os ρ t R' W:=fun A s hr hh hk=>by
 refine Kr (h A s hr hh hk) ?_ (fun _ _ z=>z.elim)
 rintro x s' ⟨ρ',r,hh',go⟩
 obtain⟨ν,rfl,hν⟩:=go.pre
 have he:∀i∈e,i < (ρ++ν).length:=fun i hi=>by rw[hh'.len];exact w.lt i hi
 have le:os.length <=e.length:=by
  rcases Nat.eq_zero_or_pos os.length with q | q
  .lia
  .have:=(List.getElem?_eq_some_iff.mp (hp (os.length - 1) (by lia))).1
   lia
 refine⟨sub (ρ++ν) e,hR _ x hh'.len r,hh'.sub w,⟨(sub (ρ++ν) e).drop ρ.length,?_,fun a ha=>?_⟩,go.kept,go.alive,go.gens,go.os⟩
 .have:(sub (ρ++ν) e).take ρ.length=ρ:=by
   apply List.ext_getElem?
   intro k
   by_cases hk:k < ρ.length
   .rw[List.getElem?_take_of_lt hk]
    unfold sub
    rw[KX,hp k (by rw[<- hh.len];exact hk)]
    simp[Kh,Kn hk,Kc hk]
   .rw[Kv (by simp;lia),Kv (by lia)]
  conv=>lhs;rw[<- NH ρ.length (sub (ρ++ν) e),this]
 .obtain⟨k,hk⟩:=List.mem_iff_getElem?.mp ha
  rw[List.getElem?_drop] at hk
  obtain⟨i,i1,i2⟩:=iJ he hk
  have ge:ρ.length <=i:=by
   refine Lv fun hlt=>?_
   have:=eg w.nd i1 (hp i (by rw[<- hh.len];exact hlt))
   lia
  rw[Ke ge] at i2
  exact hν a (Kq i2)
noncomputable def lq:List Nat->List Nat->Bool
 | [],y=>(match y with
  | []=>true
  | _::_=>false)
 | a::x,y=>match y with
  | []=>false
  | b::y=>(Lw a b).and (lq x y)
theorem AY {x y:List Nat}:lq x y=true↔x=y:=by
 induction x generalizing y with
 | nil=>cases y with
  | nil=>exact⟨fun _=>rfl,fun _=>rfl⟩
  | cons _ _=>exact⟨nofun,nofun⟩
 | cons a x ih=>cases y with
  | nil=>exact⟨nofun,nofun⟩
  | cons b y=>exact Bool.and_eq_true_iff.trans ((and_congr (Iff.of_eq Nat.beq_eq) ih).trans List.cons_eq_cons.symm)
noncomputable def sq (a b:Str):Bool:=lq a.cps.toList b.cps.toList
theorem ca (a b:Str):sq a b=(a==b):=by
 rw[NN]
 unfold sq
 rw[AY,beq_iff_eq]
 constructor
 .intro h;cases a;cases b;simp only[Str.mk.injEq];exact Array.toList_inj.mp h
 .rintro rfl;rfl
noncomputable def lk {β:Type} (x:Str):List (Str×β)->Option β
 | []=>none
 | (y,v)::r=>match sq x y with
  | true=>some v
  | false=>lk x r
theorem bo (x:Str) (l:List (Str×β)):lk x l=l.lookup x:=by
 induction l with
 | nil=>rfl
 | cons p r ih=>
  show(match sq x p.1 with
   | true=>some p.2
   | false=>lk x r)=_
  rw[ca,K1,ih]
  cases x==p.1 <;> rfl
noncomputable def gw:List (Str×V)->Str->V->List (Str×V)
 | [],x,v=>[(x,v)]
 | (y,u)::r,x,v=>match sq x y with
  | true=>(x,v)::r
  | false=>(y,u)::gw r x v
theorem gk (x:Str) (v:V) (l:List (Str×V)):gw l x v=put l x v:=by
 induction l with
 | nil=>rfl
 | cons p r ih=>
  show(match sq x p.1 with
   | true=>(x,v)::r
   | false=>p::gw r x v)=_
  rw[ca,ih,show put (p::r) x v=_ from ee ..]
  cases x==p.1 <;> rfl
noncomputable def l9:List (Str×V)->List Str->List V->List (Str×V)
 | l,x::xs,v::vs=>l9 (gw l x v) xs vs
 | l,_,_=>l
theorem oE (xs:List Str) (vs:List V) (l:List (Str×V)):l9 l xs vs=puts l xs vs:=by
 induction xs generalizing vs l with
 | nil=>rfl
 | cons x xs ih=>cases vs with
  | nil=>rfl
  | cons v vs=>
   show l9 (gw l x v) xs vs=puts (put l x v) xs vs
   rw[gk,ih]
inductive de where
 | b (x y:Bool)
 | v (x:Option V) (y:V)
 | p (P:Prop)
variable {c:List de}
noncomputable def de.ok:de->Prop
 | .b x y=>x=y
 | .v x y=>x=some y
 | .p P=>P
noncomputable def aR:List de->Prop
 | []=>True
 | c::r=>c.ok/\aR r
theorem gQ {a b:List de}:aR (a++b)↔aR a/\aR b:=by
 induction a with
 | nil=>simp[aR]
 | cons c r ih=>simp only[List.cons_append,aR,ih,and_assoc]
theorem aR.l {a b:List de} (h:aR (a++b)):aR a:=(gQ.mp h).1
theorem aR.r {a b:List de} (h:aR (a++b)):aR b:=(gQ.mp h).2
noncomputable def tD:List de->Bool
 | []=>true
 | .b true true::r=>tD r
 | .b false false::r=>tD r
 | _=>false
theorem lx:∀{l:List de},tD l=true->aR l
 | [],_=>trivial
 | .b true true::r,h=>⟨rfl,lx (l:=r) h⟩
 | .b false false::r,h=>⟨rfl,lx (l:=r) h⟩
 | .b true false::_,h=>by exact nB h
 | .b false true::_,h=>by exact nB h
 | .v _ _::_,h=>by exact nB h
 | .p _::_,h=>by exact nB h
structure aE where
 ts:List (Nat×Nat×Bool):=[]
 vs:List (Nat×Nat×V):=[]
noncomputable def w9 (l c:Nat):List (Nat×Nat×Bool)->Option (Bool×List (Nat×Nat×Bool))
 | []=>none
 | (a,b,x)::r=>match (Lw a l).and (Lw b c) with
  | true=>some (x,r)
  | false=>(w9 l c r).map fun(y,r')=>(y,(a,b,x)::r')
structure LR {β:Type} (J:β->List O->Prop):Type where
 v:β
 os:List O
 c:List de
 ok:aR c->J v os
structure XR {β:Type} (J:β->S->Prop):Type where
 v:β
 s:S
 o:aE
 c:List de
 ok:aR c->J v s
noncomputable def BC {J:Bool->S->Prop} (p:Pos) (r:XR J):XR J:=match w9 p.line p.col r.o.ts with
 | none=>r
 | some (b,ts)=>⟨b,r.s,{ r.o with ts:=ts },.b r.v b::r.c,fun h=>by
  have e:r.v=b:=h.1
  exact e▸r.ok h.2⟩
theorem jn.addS {a b:Str} (h:a.length + b.length <=Kg):jn g D .Add (.str a) (.str b) os (.str (a++b)) os:=fun ρ x y hx hy=>by
 obtain⟨t,rfl⟩:=hx;obtain⟨u,rfl⟩:=hy
 exact Lf.tok fun A s _=>PyProof.Rows.iadd_str (fun t' tk=>⟨⟨_,rfl⟩,_,rfl⟩) h
theorem Ev.named (h:Ev g D sc σ e v σ₁) (hx:aK sc x):Ev g D sc σ (.NamedExpr (.Name x px) e pos) v ⟨σ₁.os,put σ₁.loc x v⟩:=fun A env ρ s he hr hs=>
 wpAny_NamedExpr (h.use he hr hs fun y s1 ρ1 ry st1 g1=>Kr (aX.name (p:=px) hx A env ρ1 s1 y he hr st1 ry) (fun _ s2 ⟨ρ2,st2,g2⟩=>⟨ρ2,ry.go g2,st2,g1.trans g2⟩) fun _ _ z=>z)
theorem Ev.dictNil:Ev g D sc σ (.Dict [] [] pos) (.ref σ.os.length) ⟨σ.os++[.map []],σ.loc⟩:=fun A env ρ s he hr hs=>by
 refine wpAny_Dict_empty ?_
 have go:Go [] ρ s (ρ++[s.heap.objs.size]) { s with heap:=s.heap.push { cls:=.type "dict",data:=.dict #[] } }:=by
  refine .of ⟨[s.heap.objs.size],rfl,fun b hb=>?_⟩ (fun b ob h _ _=>Ki _ h) (fun b ob h=>⟨ob,Ki _ h⟩) rfl rfl
  simp at hb
  subst hb
  cases z:s.heap.get? s.heap.objs.size with
  | none=>rfl
  | some ob=>exact absurd (KJ z) (KM _)
 exact⟨ρ++[s.heap.objs.size],⟨_,by rw[<- hs.hr.len];simp,rfl⟩,⟨hs.hr.push (Km _) (aV hs.k) (fun b o e=>Ki _ e) (Ku _ rfl) (o:=.map []) ⟨#[],0,rfl,.nil,KY⟩,
  hs.er.go go,bY (ow:=[]) hs.k hs.hr (fun _ h=>(nomatch h)) go⟩,go.nil⟩
noncomputable def cb (b:Bool):List de:=[.b b true]
theorem b7 {b:Bool} (h:aR (cb b)):b=true:=h.1
theorem cZ {p:Prop} [Decidable p] (h:aR (cb (decide p))):p:=of_decide_eq_true h.1
noncomputable def GU (op:MF) (a b:V) (os:List O):Option (LR fun v os'=>bn g D op a b os v os'):=match op,a,b with
 | .Add,.int a,.int b=>some ⟨.int (a + b),os,[],fun _=>bn.add⟩
 | .Sub,.int a,.int b=>some ⟨.int (a - b),os,[],fun _=>bn.sub⟩
 | .Mult,.int a,.int b=>some ⟨.int (a * b),os,cb (KS (Builtin.Int.intBits a) 64),fun h=>bn.mul (IntMulOk.of_left (La (b7 h)))⟩
 | .Mod,.int a,.int b=>if h:b=0 then none else some ⟨.int (a.fmod b),os,[],fun _=>bn.mod h⟩
 | .FloorDiv,.int a,.int b=>if h:b=0 then none else some ⟨.int (a.fdiv b),os,cb (!Builtin.divisionGoesByPylong a b),fun z=>bn.fdiv h (by simpa using b7 z)⟩
 | .BitXor,.int a,.int b=>some ⟨.int (MI a b),os,[],fun _=>bn.xor⟩
 | .Add,.str a,.str b=>some ⟨.str (a++b),os,cb (KS (a.length + b.length) Kg),fun h=>bn.addS (La (b7 h))⟩
 | _,_,_=>none
noncomputable def HB (op:CmpOp) (a b:V) (os:List O):Option (LR fun v os'=>ak g D op a b os v os'):=match op,a,b with
 | .Eq,.str a,.str b=>some ⟨.bool (sq a b),os,[],fun _=>ca a b▸ak.eqS⟩
 | .NotEq,.str a,.str b=>some ⟨.bool (!sq a b),os,[],fun _=>ca a b▸ak.neS⟩
 | .In,.str a,.str b=>some ⟨.bool (My b a),os,[],fun _=>ak.inS⟩
 | .Eq,.int a,.int b=>some ⟨.bool (a==b),os,[],fun _=>ak.eqI⟩
 | .NotEq,.int a,.int b=>some ⟨.bool (a !=b),os,[],fun _=>ak.neI⟩
 | .Lt,.int a,.int b=>some ⟨.bool (decide (a < b)),os,[],fun _=>ak.ltI⟩
 | .Gt,.int a,.int b=>some ⟨.bool (decide (b < a)),os,[],fun _=>ak.gtI⟩
 | .LtE,.int a,.int b=>some ⟨.bool (decide (a <=b)),os,[],fun _=>ak.leI⟩
 | .GtE,.int a,.int b=>some ⟨.bool (decide (b <=a)),os,[],fun _=>ak.geI⟩
 | .Is,a,.none=>(match a with
  | .none=>some ⟨.bool true,os,[],fun _=>ak.isNone fun ρ x h=>by cases h;rfl⟩
  | .int _=>some ⟨.bool false,os,[],fun _=>ak.isNone fun ρ x h=>by obtain⟨t,rfl⟩:=h;rfl⟩
  | .str _=>some ⟨.bool false,os,[],fun _=>ak.isNone fun ρ x h=>by obtain⟨t,rfl⟩:=h;rfl⟩
  | .bool _=>some ⟨.bool false,os,[],fun _=>ak.isNone fun ρ x h=>by cases h;rfl⟩
  | .ref _=>some ⟨.bool false,os,[],fun _=>ak.isNone fun ρ x h=>by obtain⟨t,_,rfl⟩:=h;rfl⟩
  | .top _=>none)
 | .IsNot,a,.none=>(match a with
  | .none=>some ⟨.bool false,os,[],fun _=>ak.isNotNone (b:=true) fun ρ x h=>by cases h;rfl⟩
  | .int _=>some ⟨.bool true,os,[],fun _=>ak.isNotNone (b:=false) fun ρ x h=>by obtain⟨t,rfl⟩:=h;rfl⟩
  | .str _=>some ⟨.bool true,os,[],fun _=>ak.isNotNone (b:=false) fun ρ x h=>by obtain⟨t,rfl⟩:=h;rfl⟩
  | .bool _=>some ⟨.bool true,os,[],fun _=>ak.isNotNone (b:=false) fun ρ x h=>by cases h;rfl⟩
  | .ref _=>some ⟨.bool true,os,[],fun _=>ak.isNotNone (b:=false) fun ρ x h=>by obtain⟨t,_,rfl⟩:=h;rfl⟩
  | .top _=>none)
 | _,_,_=>none
noncomputable def Gq (a:V) (os:List O):Option (LR fun r os'=>bV g D a os r os'):=match a with
 | .none=>some ⟨false,os,[],fun _=>bV.none⟩
 | .bool b=>some ⟨b,os,[],fun _=>bV.bool⟩
 | .int i=>some ⟨i !=0,os,[],fun _=>bV.int⟩
 | .str s=>some ⟨(s.length:Int) !=0,os,cb (decide ((s.length:Int) < 2 ^ 63)),fun h=>bV.str (cZ h)⟩
 | _=>none
noncomputable def Ii (value slice:Expr) (a i:V) (os:List O):Option (LR fun v os'=>dm g D value slice a i os v os'):=if hs:cS slice=true then(match a,i with
 | .str a,.int i=>some ⟨.str (Txt.item a i),os,cb (decide (-(a.length:Int) <=i/\i < a.length/\(a.length:Int) < 2 ^ 63)),fun h=>dm.strItem (cZ h).1 (cZ h).2.1 (cZ h).2.2 hs⟩
 | .ref k,.int i=>(match ho:os[k]? with
  | some (.list xs)=>if h0:0 <=i then(match hv:xs[i.toNat]? with
    | some v=>some ⟨v,os,cb (decide (i < 2 ^ 63)),fun h=>dm.listItem ho h0 (cZ h) hv hs⟩
    | none=>none)
   else(match hv:xs[(i + xs.length).toNat]? with
    | some v=>some ⟨v,os,cb (decide (-(xs.length:Int) <=i/\-(2 ^ 63) <=i)),fun h=>dm.listNeg ho (Int.not_le.mp h0) (cZ h).1 (cZ h).2 hv hs⟩
    | none=>none)
  | _=>none)
 | _,_=>none) else none
noncomputable def augF (op:MF) (a b:V) (os:List O):Option (LR fun v os'=>jn g D op a b os v os'):=match op,a,b with
 | .Add,.int a,.int b=>some ⟨.int (a + b),os,[],fun _=>jn.add⟩
 | .Sub,.int a,.int b=>some ⟨.int (a - b),os,[],fun _=>jn.sub⟩
 | .Add,.str a,.str b=>some ⟨.str (a++b),os,cb (KS (a.length + b.length) Kg),fun h=>jn.addS (La (b7 h))⟩
 | _,_,_=>none
noncomputable def Ft (a i v:V) (os:List O):Option (LR fun(_:Unit) os'=>dG g D a i v os os'):=match a,i with
 | .ref k,.int i=>(match ho:os[k]? with
  | some (.list xs)=>some ⟨(),os.set k (.list (xs.set i.toNat v)),cb (decide (0 <=i/\i < 2 ^ 63/\i < xs.length)),fun h=>dG.list ho (cZ h).1 (cZ h).2.1 (cZ h).2.2⟩
  | _=>none)
 | _,_=>none
structure IR (g:G) (D:Nat) (a:V) (os:List O) where
 nx:Nat->List O->Option (Option V)
 c:List de
 ok:aR c->aZ g D a os nx
noncomputable def iterF (a:V) (os:List O):Option (IR g D a os):=match a with
 | .str x=>some ⟨_,[],fun _=>aZ.str⟩
 | .ref i=>(match ho:os[i]? with
  | some (.list vs)=>some ⟨_,[],fun _=>aZ.list ho⟩
  | some (.tuple vs)=>some ⟨_,[],fun _=>aZ.tuple ho⟩
  | some (.range a b c)=>some ⟨bF a c (Ln a b c).toNat,cb ((Mt a b c).and (decide (0 <=Ln a b c))),fun h=>by
    have h:=b7 h
    simp only[Kk,decide_eq_true_eq] at h
    exact aZ.range ho h.1 (Nc h.2).symm⟩
  | _=>none)
 | _=>none
abbrev CT (g:G) (D:Nat):=(f:V)->(args:List V)->(kw:List (Str×V))->(os:List O)->Option (LR fun v os'=>Cl g D f args kw os v os')
noncomputable def HP:CT g D:=fun f args kw os=>match f,args,kw with
 | .top (.builtin n),args,[]=>if hn:n="len" then(match args with
   | [.str a]=>some ⟨.int a.length,os,cb (decide ((a.length:Int) < 2 ^ 63)),fun h=>hn▸Cl.lenS (cZ h)⟩
   | [.ref i]=>(match ho:os[i]? with
    | some (.list vs)=>some ⟨.int vs.length,os,cb (decide ((vs.length:Int) < 2 ^ 63)),fun h=>hn▸Cl.lenL ho (cZ h)⟩
    | _=>none)
   | _=>none)
  else if hn:n="min" then(match args with
   | [.int a,.int b]=>some ⟨.int (if b < a then b else a),os,[],fun h=>hn▸Cl.min2⟩
   | _=>none)
  else if hn:n="list.append" then(match args with
   | [.ref i,v]=>(match ho:os[i]? with
    | some (.list vs)=>some ⟨.none,os.set i (.list (vs++[v])),cb (KS vs.length Kg),fun h=>hn▸Cl.append ho (La (b7 h))⟩
    | _=>none)
   | _=>none)
  else none
 | .top (.type n),args,[]=>if hn:n="range" then(match args with
   | [.int n]=>some ⟨.ref os.length,os++[.range 0 n 1],[],fun h=>hn▸Cl.range1⟩
   | [.int a,.int b]=>some ⟨.ref os.length,os++[.range a b 1],[],fun h=>hn▸Cl.range2⟩
   | [.int a,.int b,.int c]=>if hc:c=0 then none else some ⟨.ref os.length,os++[.range a b c],cb (!Builtin.divisionGoesByPylong (b - a) c),fun h=>hn▸Cl.range3 hc (by simpa using b7 h)⟩
   | _=>none)
  else if hn:n="list" then(match args with
   | [.ref i]=>(match ho:os[i]? with
    | some (.range a b c)=>some ⟨.ref os.length,os++[.list (b9 a c (Ln a b c).toNat)],cb (((Mt a b c).and (decide (0 <=Ln a b c))).and (decide ((Ln a b c).toNat <=2 ^ 24))),fun h=>by
      have h:=b7 h
      simp only[Kk,decide_eq_true_eq] at h
      exact hn▸Cl.listRange ho h.1.1 (Nc h.1.2).symm h.2⟩
    | _=>none)
   | _=>none)
  else none
 | _,_,_=>none
noncomputable def gI:List Str->Bool
 | []=>true
 | x::r=>r.all (fun y=>!sq x y)&&gI r
theorem ej {l:List Str} (h:gI l=true):l.Nodup:=by
 induction l with
 | nil=>exact KY
 | cons x r ih=>
  obtain⟨h1,h2⟩:=Bool.and_eq_true_iff.mp h
  exact KW.mpr ⟨fun hm=>by have:=List.all_eq_true.mp h1 x hm;rw[ca,beq_self_eq_true] at this;(exact nB this),ih h2⟩
noncomputable def isFn:ScopeKind->Bool
 | .function=>true
 | _=>false
theorem iu {k:ScopeKind} (h:isFn k=true):k=.function:=by cases k <;> first | rfl | exact nB h
noncomputable def isFree:Ko->Bool
 | .free=>true
 | _=>false
theorem isFree_ok {k:Ko}:isFree k=true↔k=.free:=⟨fun h=>by(cases k <;> first | rfl | exact nB h),fun h=>by rw[h];rfl⟩
noncomputable def cl0 (loc:List (Str×V)):List (Str×Ko)->List (Str×V)
 | []=>[]
 | p::r=>match isFree p.2 with
  | true=>(match lk p.1 loc with
   | some v=>(p.1,v)::cl0 loc r
   | none=>cl0 loc r)
  | false=>cl0 loc r
theorem pM (loc:List (Str×V)) (p:Str×Ko) (r:List (Str×Ko)):cl0 loc (p::r)=match isFree p.2 with
  | true=>(match lk p.1 loc with
   | some v=>(p.1,v)::cl0 loc r
   | none=>cl0 loc r)
  | false=>cl0 loc r:=rfl
theorem wC {loc:List (Str×V)} (h:(x,v)∈cl0 loc names):(x,Ks)∈names/\loc.lookup x=some v:=by
 induction names with
 | nil=>cases h
 | cons p r ih=>
  rw[pM] at h
  cases h1:isFree p.2 with
  | false=>rw[h1] at h;exact⟨.tail _ (ih h).1,(ih h).2⟩
  | true=>
   rw[h1] at h
   cases h2:lk p.1 loc with
   | none=>rw[h2] at h;exact⟨.tail _ (ih h).1,(ih h).2⟩
   | some u=>
    rw[h2] at h
    rcases Ka.mp h with q | q
    .cases q;rw[<- isFree_ok.mp h1,<- bo];exact⟨.head _,h2⟩
    .exact⟨.tail _ (ih q).1,(ih q).2⟩
theorem zZ {loc:List (Str×V)} (h:(x,Ks)∈names) (hv:loc.lookup x=some v):∃u,(x,u)∈cl0 loc names:=by
 induction names with
 | nil=>cases h
 | cons p r ih=>
  rw[pM]
  rcases Ka.mp h with q | q
  .rw[<- q,bo,hv]
   exact⟨v,.head _⟩
  .cases isFree p.2 with
   | false=>exact ih q
   | true=>
    cases lk p.1 loc with
    | none=>exact ih q
    | some u=>exact(ih q).imp fun _ h=>.tail _ h
theorem kV {loc:List (Str×V)} (nd:(names.map (·.1)).Nodup) (x:Str) (k:Ko) (h:(x,k)∈names):(cl0 loc names).lookup x=if k=Ks then loc.lookup x else none:=by
 cases q:(cl0 loc names).lookup x with
 | some v=>
  obtain⟨h1,h2⟩:=wC (mem_of_lookup q)
  rw[dP nd h h1,if_pos rfl,h2]
 | none=>
  by_cases hk:k=.free
  .subst hk
   rw[if_pos rfl]
   cases q2:loc.lookup x with
   | none=>rfl
   | some v=>
    obtain⟨u,hu⟩:=zZ h q2
    obtain⟨d,hd⟩:=bT hu
    rw[q] at hd;exact nS hd
  .rw[if_neg hk]
noncomputable def iU (e:List (Str×V)):List (Str×Ko)->List (Str×V)->Option (List (Str×V))
 | [],l=>some l
 | p::r,l=>match isFree p.2 with
  | true=>(lk p.1 e).bind fun v=>iU e r (gw l p.1 v)
  | false=>iU e r l
theorem iV {e:List (Str×V)} {l l':List (Str×V)} (nd:(names.map (·.1)).Nodup) (h:iU e names l=some l'):(∀x,(x,Ks)∈names->l'.lookup x=e.lookup x)/\∀x,(x,Ks)∉names->l'.lookup x=l.lookup x:=by
 induction names generalizing l with
 | nil=>cases h;exact⟨fun _ h=>(nomatch h),fun _ _=>rfl⟩
 | cons p r ih=>
  obtain⟨y,k⟩:=p
  rw[K6,KW] at nd
  replace h:(match isFree k with
   | true=>(lk y e).bind fun v=>iU e r (gw l y v)
   | false=>iU e r l)=some l':=h
  cases hk:isFree k with
  | true=>
   rw[hk] at h
   cases isFree_ok.mp hk
   obtain⟨v,hv,h⟩:=Option.bind_eq_some_iff.mp h
   rw[bo] at hv
   rw[gk] at h
   obtain⟨h1,h2⟩:=ih nd.2 h
   refine⟨fun x hx=>?_,fun x hx=>?_⟩
   .rcases Ka.mp hx with q | q
    .cases q
     rw[h2 _ fun hm=>nd.1 (List.mem_map.mpr ⟨_,hm,rfl⟩),cW,if_pos rfl,hv]
    .exact h1 _ q
   .rw[h2 x fun hm=>hx (.tail _ hm),cW,if_neg fun q=>hx (by subst q;exact .head _)]
  | false=>
   rw[hk] at h
   obtain⟨h1,h2⟩:=ih nd.2 h
   refine⟨fun x hx=>?_,fun x hx=>h2 x fun hm=>hx (.tail _ hm)⟩
   rcases Ka.mp hx with q | q
   .cases q;cases hk
   .exact h1 _ q
noncomputable def lP (sc:Scope) (names:List (Str×Ko)):Bool:=names.all fun p=>(!isFree p.2)||(lk p.1 sc.names).any fun k=>match k with
 | .cell=>true
 | .free=>true
 | _=>false
theorem gN (h:lP sc names=true) (x:Str) (hx:(x,Ks)∈names):sc.names.lookup x=some .cell\/sc.names.lookup x=some .free:=by
 obtain⟨k,hk,q⟩:=bh (show(lk x sc.names).any _=true from List.all_eq_true.mp h _ hx)
 rw[<- bo,hk]
 cases k with
 | cell=>exact .inl rfl
 | free=>exact .inr rfl
 | _=>exact nB q
noncomputable def cv:Expr->Bool
 | .Set ..=>false
 | _=>true
theorem aD (h:cv iter=true) (env:Env) (x:Kd):LP iter env x=pure x:=by
 cases iter <;> first | rfl | exact nB h
structure MR (g:G) (a:V) (name:Str) (os:List O) where
 f:V
 ok:an g a name os f
structure KR (g:G) (os:List O) (f:V):Type where
 ok:Kp g os f
noncomputable def db (g:G) (D:Nat) (a l u:V) (os:List O) (v:V) (os':List O):Prop:=∀(value:Expr) (lo hi:Option Expr) (p:Pos) ρ x y z,RelV ρ a x->RelV ρ l y->RelV ρ u z->
 ∀(A:Lj) (s:Kl),aB D A->HR g.w.params ρ os s.heap->g.K.In s.heap->
  J6 (Kx PW g.w) A (newFields "slice" [y,z,.none]) (fun i s1=>J6 (Kx PW g.w) A (subscriptTail value (.Slice lo hi none p) x i) (fun r s'=>∃ρ',RelV ρ' v r/\HR g.w.params ρ' os' s'.heap/\Go [] ρ s ρ' s') (fun _ _=>False) s1) (fun _ _=>False) s
noncomputable def I7 (g:G) (gl:Str->Option V):Prop:=∀x v,gl x=some v->(∃y,nsIn g.K K9 x=some (some y)/\jH v y)\/(nsIn g.K K9 x=some none/\∃y,nsIn g.K LL x=some (some y)/\jH v y)
noncomputable def JS (g:G) (own:Kj->Str->Bool):Prop:=∀C n,own C n=true->iA g.K C n=true/\ek g.K C=true
noncomputable def JN (g:G) (mt:Kj->Str->Option Kj):Prop:=∀C n f,mt C n=some f->pk g.K C n=some f/\ek g.K C=true
noncomputable def IF (g:G) (sa:Kj->Str->Bool):Prop:=∀C n,sa C n=true->iH g.K C n=true
noncomputable def IS (g:G) (kp:Kj->Bool):Prop:=∀a os,kp a=true->Kp g os (.top (.ref a))
noncomputable def E6 (g:G):=(a:V)->(name:Str)->(os:List O)->Option (MR g a name os)
noncomputable def w5 (g:G) (D:Nat):=(a:V)->(name:Str)->(os:List O)->Option (LR fun v os'=>aj g D a name os v os')
noncomputable def ya (g:G) (D:Nat):=(a:V)->(name:Str)->(v:V)->(os:List O)->Option (LR fun(_:Unit) os'=>az g D a name v os os')
noncomputable def EV (g:G) (D:Nat):=(op:MF)->(a b:V)->(os:List O)->Option (LR fun v os'=>bn g D op a b os v os')
noncomputable def DJ (g:G) (D:Nat):=(op:CmpOp)->(a b:V)->(os:List O)->Option (LR fun v os'=>ak g D op a b os v os')
noncomputable def ES (g:G) (D:Nat):=(a:V)->(os:List O)->Option (LR fun r os'=>bV g D a os r os')
noncomputable def Fg (g:G) (D:Nat):=(value slice:Expr)->(a i:V)->(os:List O)->Option (LR fun v os'=>dm g D value slice a i os v os')
noncomputable def D1 (g:G) (D:Nat):=(a i v:V)->(os:List O)->Option (LR fun(_:Unit) os'=>dG g D a i v os os')
noncomputable def EB (g:G) (D:Nat):=(a:V)->(os:List O)->Option (IR g D a os)
noncomputable def D2 (g:G) (D:Nat):=(value:Expr)->(a l u:V)->(os:List O)->Option (LR fun v os'=>db g D a l u os v os')
noncomputable def DL (g:G):=(os:List O)->(f:V)->Option (KR g os f)
structure CX (g:G) (D:Nat) where
 gl:Str->Option V
 gl_ok:I7 g gl
 own:Kj->Str->Bool
 own_ok:JS g own
 mt:Kj->Str->Option Kj
 mt_ok:JN g mt
 sa:Kj->Str->Bool
 sa_ok:IF g sa
 kp:Kj->Bool
 kp_ok:IS g kp
 ct:CT g D
 xm:E6 g
 xg:w5 g D
 xs:ya g D
 xb:EV g D
 xc:DJ g D
 xt:ES g D
 xu:Fg g D
 xi:D1 g D
 xr:EB g D
 xk:DL g
 /-- a value that stands to be cut -/
 xl:D2 g D
 /-- attributes read and stored,asked first -/
 yg:w5 g D:=fun _ _ _=>none
 ys:ya g D:=fun _ _ _ _=>none
section
noncomputable def E4 (X:CX g D) (a:V) (name:Str) (os:List O):Option (LR fun v os'=>aj g D a name os v os'):=match a with
 | .ref i=>(match hi:os[i]? with
  | some (.inst C d)=>(match hd:os[d]? with
   | some (.dict es n)=>(match hv:lk name es with
    | some v=>if h:(X.own C name).and (gd v)=true then some ⟨v,os,[],fun _=>by
       simp only[Kk] at h
       exact aj.own hi hd (bo name es▸hv) (X.own_ok _ _ h.1).1 (X.own_ok _ _ h.1).2 h.2⟩
      else X.xg (.ref i) name os
    | none=>X.xg (.ref i) name os)
   | _=>none)
  | _=>X.xg (.ref i) name os)
 | a=>X.xg a name os
noncomputable def getF (X:CX g D) (a:V) (name:Str) (os:List O):Option (LR fun v os'=>aj g D a name os v os'):=match X.yg a name os with
 | some r=>some r
 | none=>E4 X a name os
noncomputable def mthF (X:CX g D) (a:V) (name:Str) (os:List O):Option (MR g a name os):=match a with
 | .ref i=>(match hi:os[i]? with
  | some (.inst C d)=>(match hd:os[d]? with
   | some (.dict es n)=>(match hv:lk name es with
    | none=>(match hm:X.mt C name with
     | some f=>some ⟨.top (.ref f),an.own hi hd (bo name es▸hv) (X.mt_ok _ _ _ hm).1 (X.mt_ok _ _ _ hm).2⟩
     | none=>none)
    | some _=>none)
   | _=>none)
  | _=>X.xm (.ref i) name os)
 | a=>X.xm a name os
noncomputable def AP (X:CX g D) (a:V) (name:Str) (v:V) (os:List O):Option (LR fun(_:Unit) os'=>az g D a name v os os'):=match a with
 | .ref i=>(match hi:os[i]? with
  | some (.inst C d)=>(match hd:os[d]? with
   | some (.dict es n)=>if h:X.sa C name=true then some ⟨(),os.set d (.dict (gw es name v) (match lk name es with | some _=>n | none=>n + 1)),cb (Nat.blt es.length 1000),fun z=>by
      rw[gk]
      have e:(match lk name es with | some _=>n | none=>n + 1)=ie es name n:=by
       unfold ie
       rw[bo]
       cases List.lookup name es <;> rfl
      rw[e]
      exact az.own hi hd (X.sa_ok _ _ h) (by have:=b7 z;simpa [Lx] using this)⟩
     else none
   | _=>none)
  | _=>X.xs (.ref i) name v os)
 | a=>X.xs a name v os
noncomputable def setAF (X:CX g D) (a:V) (name:Str) (v:V) (os:List O):Option (LR fun(_:Unit) os'=>az g D a name v os os'):=match X.ys a name v os with
 | some r=>some r
 | none=>AP X a name v os
noncomputable def kpF (X:CX g D) (os:List O) (f:V):Option (KR g os f):=match f with
 | .top (.builtin id)=>some ⟨Kp.blt⟩
 | .top (.type id)=>some ⟨Kp.typ⟩
 | .top (.ref a)=>if h:X.kp a=true then some ⟨X.kp_ok _ _ h⟩ else X.xk os (.top (.ref a))
 | f=>X.xk os f
noncomputable def binF' (X:CX g D) (op:MF) (a b:V) (os:List O):Option (LR fun v os'=>bn g D op a b os v os'):=(GU op a b os).orElse fun _=>X.xb op a b os
noncomputable def cmpF' (X:CX g D) (op:CmpOp) (a b:V) (os:List O):Option (LR fun v os'=>ak g D op a b os v os'):=(HB op a b os).orElse fun _=>X.xc op a b os
noncomputable def truF' (X:CX g D) (a:V) (os:List O):Option (LR fun r os'=>bV g D a os r os'):=(Gq a os).orElse fun _=>X.xt a os
noncomputable def subF' (X:CX g D) (value slice:Expr) (a i:V) (os:List O):Option (LR fun v os'=>dm g D value slice a i os v os'):=(Ii value slice a i os).orElse fun _=>X.xu value slice a i os
noncomputable def setIF' (X:CX g D) (a i v:V) (os:List O):Option (LR fun(_:Unit) os'=>dG g D a i v os os'):=(Ft a i v os).orElse fun _=>X.xi a i v os
noncomputable def iterF' (X:CX g D) (a:V) (os:List O):Option (IR g D a os):=(iterF a os).orElse fun _=>X.xr a os
structure J2 (sc:Scope) (x:Str):Type where
 ok:aK sc x
noncomputable def stoF (sc:Scope) (x:Str):Option (J2 sc x):=match h:lk x sc.names with
 | some .local=>some ⟨.inl (bo x sc.names▸h)⟩
 | some .cell=>some ⟨.inr (bo x sc.names▸h)⟩
 | _=>none
structure Hn (sc:Scope) (xs:List Str):Type where
 ok:∀x∈xs,aK sc x
noncomputable def stosF (sc:Scope):(xs:List Str)->Option (Hn sc xs)
 | []=>some ⟨fun _ h=>nomatch h⟩
 | x::r=>match stoF sc x,stosF sc r with
  | some a,some b=>some ⟨fun y hy=>by
    rcases Ka.mp hy with rfl | hy
    .exact a.ok
    .exact b.ok y hy⟩
  | _,_=>none
noncomputable def iq:List Expr->Option (List Str)
 | []=>some []
 | t::r=>(iN t).bind fun x=>(iq r).map (x::·)
theorem iY:∀{xs:List Str},iq ts=some xs->ts.map iN=xs.map some:=by
 induction ts with
 | nil=>
  intro xs h
  cases h
  rfl
 | cons t r ih=>
  intro xs h
  obtain⟨x,e,h⟩:=Option.bind_eq_some_iff.mp h
  obtain⟨ys,h1,rfl⟩:=Option.map_eq_some_iff.mp h
  rw[K6,e,ih h1]
  rfl
noncomputable def Cz (X:CX g D) (sc:Scope) (x:Str) (pos:Pos) (σ:S) (o:aE):Option (XR fun v σ'=>Ev g D sc σ (.Name x pos) v σ'):=
 if hd:sq x ("__debug__" : Str)=false then(match hx:lk x sc.names with
 | some .local=>(match hv:lk x σ.loc with
  | some v=>some ⟨v,σ,o,[],fun _=>Ev.loc (bo x sc.names▸hx) (bo x σ.loc▸hv) (ca x _▸hd)⟩
  | none=>none)
 | some .cell=>(match hv:lk x σ.loc with
  | some v=>some ⟨v,σ,o,[],fun _=>Ev.cell (bo x sc.names▸hx) (bo x σ.loc▸hv) (ca x _▸hd)⟩
  | none=>none)
 | some .free=>if hn:sq x ("__classdict__" : Str)=false then(match hv:lk x σ.loc with
  | some v=>some ⟨v,σ,o,[],fun _=>Ev.free (bo x sc.names▸hx) (bo x σ.loc▸hv) (ca x _▸hd) (ca x _▸hn)⟩
  | none=>none) else none
 | some .globalImplicit=>(match hg:X.gl x with
  | some v=>some ⟨v,σ,o,[],fun _=>(X.gl_ok _ _ hg).elim (fun⟨y,h1,h2⟩=>Ev.glob (bo x sc.names▸hx) h1 h2 (ca x _▸hd)) fun⟨h0,y,h1,h2⟩=>Ev.blt (bo x sc.names▸hx) h0 h1 h2 (ca x _▸hd)⟩
  | none=>none)
 | _=>none) else none
noncomputable def du:V->Bool
 | .int _=>true
 | .none=>true
 | _=>false
theorem kb (h:du v=true):mj v:=by cases v <;> first | trivial | cases h
structure J4 (ts:List Expr) (e:Expr) (sc:Scope):Type where
 v:Option (List Str)
 ok:LY ts e (gS sc)=pure v
noncomputable def swF (ts:List Expr) (e:Expr) (sc:Scope):Option (J4 ts e sc):=match h:LY ts e (gS sc) with
 | .pure v=>some ⟨v,h⟩
 | _=>none
abbrev XE (g:G) (D:Nat) (sc:Scope) (σ:S) (e:Expr):=XR fun v σ'=>Ev g D sc σ e v σ'
abbrev XT (g:G) (D:Nat) (sc:Scope) (σ:S) (e:Expr):=XR fun v σ'=>Tr g D sc σ e v σ'
abbrev XS (g:G) (D:Nat) (sc:Scope) (σ:S) (st:Kz):=XR fun v σ'=>Ex g D sc σ st v σ'
abbrev uG (g:G) (D:Nat) (sc:Scope) (σ:S) (st:List Kz):=XR fun v σ'=>Exs g D sc σ st v σ'
theorem Ev.sliceL {p:Pos} {a l:V} (h1:Ev g D sc σ value a σ₁) (h2:aP g D sc σ₁ (fun env=>LF (Mr lo env)) (fun ρ x=>RelV ρ l x) σ₂)
  (h3:aP g D sc σ₂ (fun env=>LF (Mr hi env)) (fun ρ x=>RelV ρ u x) σ₃) (h4:db g D a l u σ₃.os v os'):Ev g D sc σ (.Subscript value (.Slice lo hi none p) pos) v ⟨os',σ₃.loc⟩:=fun A env ρ s he hr hs=>by
 refine MQ (h1.use he hr hs fun x s1 ρ1 rx st1 g1=>?_)
 show J6 _ _ (do
  let l <- LF (Mr lo env)
  let u <- K3 [l] (LF (Mr hi env))
  let s <- K3 [l,u] (LF (Mr none env))
  newFields "slice" [l,u,s]) _ _ _
 refine J7 (h2.use he hr st1 fun y s2 ρ2 ry st2 g2=>J7 (KQ (h3.use he hr st2 fun z s3 ρ3 rz st₃ g3=>?_)))
 refine J7 (KQ (Kb ?_))
 refine Kr (h4 value lo hi p ρ3 x y z ((rx.go g2).go g3) (ry.go g3) rz A s3 hr st₃.hr st₃.k) (fun i s4 k=>?_) (fun _ _ z=>z.elim)
 refine Kr k (fun r s5 ⟨ρ5,rr,h5,g5⟩=>⟨ρ5,rr,⟨h5,st₃.er.go g5,bY (ow:=[]) st₃.k st₃.hr (fun _ h=>(nomatch h)) g5⟩,((g1.trans g2).trans g3).trans g5.nil⟩) (fun _ _ z=>z.elim)
noncomputable def Jn (g:G) (D:Nat) (sc:Scope) (σ:S) (es:List Expr) (acc out:Str) (σ':S):Prop:=∀(A:Lj) (env:Env) (ρ:List Kj) (s:Kl),env.scope=sc->aB D A->St g env σ ρ s->
 ∀(Q:Str->Kl->Prop),(∀s' ρ',St g env σ' ρ' s'->Go (Internal.own env) ρ s ρ' s'->Q out s')->Joins (Kx PW g.w) A (fun _ _=>False) (evalEach es env) acc Q s
theorem Jn.nil {acc:Str}:Jn g D sc σ [] acc acc σ:=fun A env ρ s he hr hs Q q=>q s ρ hs (Go.refl ..)
theorem Jn.cons {r:List Expr} {acc y:Str} (h:Ev g D sc σ e (.str y) σ₁) (hl:(acc++y).length <=Kg) (k:Jn g D sc σ₁ r (acc++y) out σ₂):Jn g D sc σ (e::r) acc out σ₂:=fun A env ρ s he hr hs Q q=>
 Kr (h A env ρ s he hr hs) (fun x s1 ⟨ρ1,rx,st1,g1⟩=>let⟨t,ht⟩:=rx;⟨y,t,ht,hl,k A env ρ1 s1 he hr st1 Q fun s' ρ' st' g'=>q s' ρ' st' (g1.trans g')⟩) fun _ _ z=>z
theorem Ev.joined {v1 v2:Expr} {rest:List Expr} (h:Jn g D sc σ (v1::v2::rest) Str.empty out σ') (hl:out.length <=Kg):Ev g D sc σ (.JoinedStr (v1::v2::rest) pos) (.str out) σ':=fun A env ρ s he hr hs=>
 wpAny_JoinedStr (h A env ρ s he hr hs _ fun s' ρ' st' g'=>⟨hl,ρ',⟨_,rfl⟩,st'.toks _,g'.trans (Go.toks ..)⟩)
theorem Ev.fmtS (h:Ev g D sc σ e (.str x) σ') (hl:x.length <=Kg):Ev g D sc σ (.FormattedValue e 115 none pos) (.str x) σ':=fun A env ρ s he hr hs=>
 wpAny_FormattedValue_s (h.use he hr hs fun y s1 ρ1 ry st1 g1=>by
  obtain⟨t,rfl⟩:=ry
  have fin:∀t' k,J6 (Kx PW g.w) A (formatField (.str x t') Str.empty) (fun x_1 s'=>∃ρ',RelV ρ' (.str x) x_1/\St g env σ' ρ' s'/\Go (Internal.own env) ρ s ρ' s') (fun _ _=>False) { s1 with toks:=k }:=fun t' k=>
   wpAny_formatField_str ⟨ρ1,⟨_,rfl⟩,st1.toks _,g1.trans (Go.toks ..)⟩ ⟨ρ1,⟨_,rfl⟩,st1.toks _,g1.trans (Go.toks ..)⟩ hl
  exact wpAny_habitSame_str (fin t s1.toks) (fin _ _) hl)
abbrev XA (g:G) (D:Nat) (sc:Scope) (σ:S) (t:Expr) (v:V):=XR fun(_:Unit) σ'=>aX g D sc σ t v σ'
abbrev JM (g:G) (D:Nat) (sc:Scope) (σ:S) (ts:List Expr) (v:V):=XR fun(_:Unit) σ'=>eK g D sc σ ts v σ'
noncomputable def I5 (g:G) (D:Nat) (sc:Scope):=(e:Expr)->(σ:S)->aE->Option (XE g D sc σ e)
noncomputable def IB (g:G) (D:Nat) (sc:Scope):=(e:Option Expr)->(σ:S)->aE->Option (XR fun v σ'=>aP g D sc σ (fun env=>LF (Mr e env)) (fun ρ x=>RelV ρ v x) σ')
noncomputable def JQ (g:G) (D:Nat) (sc:Scope):=(es:List Expr)->(σ:S)->aE->Option (XR fun vs σ'=>bU g D sc σ es vs σ')
noncomputable def IW (g:G) (D:Nat) (sc:Scope):=(pos:Pos)->(es:List Mv)->(σ:S)->aE->Option (XR fun vs σ'=>dC g D sc σ pos es vs σ')
noncomputable def Ir (g:G) (D:Nat) (sc:Scope):=(e:Expr)->(σ:S)->aE->Option (XT g D sc σ e)
noncomputable def JG (g:G) (D:Nat) (sc:Scope):=(t:Expr)->(ifs:List Expr)->(elt:Expr)->(nx:Nat->List O->Option (Option V))->(di k:Nat)->(σ:S)->aE->Option (XR fun(_:Unit) σe=>ba g D sc t ifs elt nx di σe k σ)
noncomputable def Jb (g:G) (D:Nat) (sc:Scope):=(op:BoolOp)->(es:List Expr)->(σ:S)->aE->Option (XR fun b σ'=>bQ g D sc σ op es b σ')
structure Rc (X:CX g D) (sc:Scope) where
 e:I5 g D sc
 b:IB g D sc
 l:JQ g D sc
 k:IW g D sc
 t:Ir g D sc
 c:JG g D sc
 q:Jb g D sc
noncomputable def Rc.zero (X:CX g D) (sc:Scope):Rc X sc:=⟨fun _ _ _=>none,fun _ _ _=>none,fun _ _ _=>none,fun _ _ _ _=>none,fun _ _ _=>none,fun _ _ _ _ _ _ _ _=>none,fun _ _ _ _=>none⟩
noncomputable def evA (X:CX g D) (sc:Scope) (R:Rc X sc) (t:Expr) (v:V) (σ:S) (o:aE):Option (XA g D sc σ t v):=match t with
 | .Name x p=>do
  let h <- stoF sc x
  some ⟨(),⟨σ.os,gw σ.loc x v⟩,o,[],fun _=>gk x v σ.loc▸aX.name h.ok⟩
 | .Tuple ts k p=>(match v with
  | .ref i=>(match ho:σ.os[i]? with
   | some (.tuple vs)=>(match hn:iq ts with
    | some xs=>do
     let h <- stosF sc xs
     (if hl:xs.length=vs.length then
      (some ⟨(),⟨σ.os,l9 σ.loc xs vs⟩,o,[],fun _=>oE xs vs σ.loc▸aX.tuple ho (iY hn) hl h.ok⟩)
     else none)
    | none=>none)
   | _=>none)
  | _=>none)
 | .Attribute q name p=>do
  let a <- R.e q σ o
  let z <- setAF X a.v name v a.s.os
  some ⟨(),⟨z.os,a.s.loc⟩,a.o,a.c++z.c,fun h=>aX.attr (a.ok h.l) (z.ok h.r)⟩
 | .Subscript q i p=>do
  let a <- R.e q σ o
  let k <- R.e i a.s a.o
  let z <- setIF' X a.v k.v v k.s.os
  some ⟨(),⟨z.os,k.s.loc⟩,k.o,a.c++(k.c++z.c),fun h=>aX.sub (a.ok h.l) (k.ok h.r.l) (z.ok h.r.r)⟩
 | _=>none
variable (X:CX g D) (sc:Scope) (R:Rc X sc) (RA:(sc:Scope)->Rc X sc)
noncomputable def Jt (l:Expr) (op:MF) (r:Expr) (pos:Pos) (σ:S) (o:aE):Option (XE g D sc σ (.BinOp l op r pos)):=do
   let a <- R.e l σ o
   let b <- R.e r a.s a.o
   let z <- binF' X op a.v b.v b.s.os
   some ⟨z.v,⟨z.os,b.s.loc⟩,b.o,a.c++(b.c++z.c),fun h=>Ev.bin (a.ok h.l) (b.ok h.r.l) (z.ok h.r.r)⟩
noncomputable def IE (e:Expr) (pos:Pos) (σ:S) (o:aE):Option (XE g D sc σ (.UnaryOp .USub e pos)):=do
   let a <- R.e e σ o
   match a with
   | ⟨.int i,s,o,c,ok⟩=>some ⟨.int (-i),s,o,c,fun h=>Ev.neg (ok h)⟩
   | _=>none
noncomputable def Jw (l:Expr) (op:CmpOp) (r:Expr) (pos:Pos) (σ:S) (o:aE):Option (XE g D sc σ (.Compare l [op] [r] pos)):=if hm:MT op r=false then do
   let a <- R.e l σ o
   let b <- R.e r a.s a.o
   let z <- cmpF' X op a.v b.v b.s.os
   some ⟨z.v,⟨z.os,b.s.loc⟩,b.o,a.c++(b.c++z.c),fun h=>Ev.cmp (a.ok h.l) (b.ok h.r.l) (z.ok h.r.r) hm⟩
   else none
noncomputable def I8 (x y:Expr) (pos:Pos) (σ:S) (o:aE):Option (XE g D sc σ (.BoolOp .Or [x,y] pos)):=do
   let a <- R.e x σ o
   let t <- truF' X a.v a.s.os
   match ht:t.v with
   | true=>some ⟨a.v,⟨t.os,a.s.loc⟩,a.o,a.c++t.c,fun h=>Ev.orT (a.ok h.l) (ht▸t.ok h.r)⟩
   | false=>do
    let b <- R.e y ⟨t.os,a.s.loc⟩ a.o
    some ⟨b.v,b.s,b.o,a.c++(t.c++b.c),fun h=>Ev.orF (a.ok h.l) (ht▸t.ok h.r.l) (b.ok h.r.r)⟩
noncomputable def Im (x y:Expr) (pos:Pos) (σ:S) (o:aE):Option (XE g D sc σ (.BoolOp .And [x,y] pos)):=do
   let a <- R.e x σ o
   let t <- truF' X a.v a.s.os
   match ht:t.v with
   | false=>some ⟨a.v,⟨t.os,a.s.loc⟩,a.o,a.c++t.c,fun h=>Ev.andF (a.ok h.l) (ht▸t.ok h.r)⟩
   | true=>do
    let b <- R.e y ⟨t.os,a.s.loc⟩ a.o
    some ⟨b.v,b.s,b.o,a.c++(t.c++b.c),fun h=>Ev.andT (a.ok h.l) (ht▸t.ok h.r.l) (b.ok h.r.r)⟩
noncomputable def Iz (t x y:Expr) (pos:Pos) (σ:S) (o:aE):Option (XE g D sc σ (.IfExp t x y pos)):=do
   let b <- R.t t σ o
   match hb:b.v with
   | true=>do
    let z <- R.e x b.s b.o
    some ⟨z.v,z.s,z.o,b.c++z.c,fun h=>Ev.ifexp (b:=true) (hb▸b.ok h.l) (z.ok h.r)⟩
   | false=>do
    let z <- R.e y b.s b.o
    some ⟨z.v,z.s,z.o,b.c++z.c,fun h=>Ev.ifexp (b:=false) (hb▸b.ok h.l) (z.ok h.r)⟩
noncomputable def Jj (es:List Expr) (pos:Pos) (σ:S) (o:aE):Option (XE g D sc σ (.List es pos)):=if hp:aW es=true then do
   let a <- R.l es σ o
   some ⟨.ref a.s.os.length,⟨a.s.os++[.list a.v],a.s.loc⟩,a.o,a.c++cb (KS a.v.length Kg),fun h=>Ev.list (a.ok h.l) (La (b7 h.r)) hp⟩
   else none
noncomputable def Ju (es:List Expr) (k:Nat) (pos:Pos) (σ:S) (o:aE):Option (XE g D sc σ (.Tuple es k pos)):=if hp:aW es=true then do
   let a <- R.l es σ o
   some ⟨.ref a.s.os.length,⟨a.s.os++[.tuple a.v],a.s.loc⟩,a.o,a.c++cb (KS a.v.length Kg),fun h=>Ev.tuple (a.ok h.l) (La (b7 h.r)) hp⟩
   else none
noncomputable def Jp (value:Expr) (lo hi:Option Expr) (p pos:Pos) (σ:S) (o:aE):Option (XE g D sc σ (.Subscript value (.Slice lo hi none p) pos)):=do
   let a <- R.e value σ o
   let l <- R.b lo a.s a.o
   let u <- R.b hi l.s l.o
   (match ha:a.v with
   | .str x=>(if hb:du l.v&&du u.v then
     (some ⟨.str (MV x (bound l.v) (bound u.v)),u.s,u.o,a.c++(l.c++(u.c++cb (KS x.length Kg))),fun h=>
      Ev.sliceS (ha▸a.ok h.l) (l.ok h.r.l) (u.ok h.r.r.l) (kb (Bool.and_eq_true_iff.mp hb).1) (kb (Bool.and_eq_true_iff.mp hb).2) (La (b7 h.r.r.r))⟩)
     else none)
   | av=>do
    let z <- X.xl value a.v l.v u.v u.s.os
    some ⟨z.v,⟨z.os,u.s.loc⟩,u.o,a.c++(l.c++(u.c++z.c)),fun h=>Ev.sliceL (a.ok h.l) (l.ok h.r.l) (u.ok h.r.r.l) (z.ok h.r.r.r)⟩)
noncomputable def Ht (value slice:Expr) (pos:Pos) (σ:S) (o:aE):Option (XE g D sc σ (.Subscript value slice pos)):=do
   let a <- R.e value σ o
   let i <- R.e slice a.s a.o
   let z <- subF' X value slice a.v i.v i.s.os
   some ⟨z.v,⟨z.os,i.s.loc⟩,i.o,a.c++(i.c++z.c),fun h=>Ev.sub (a.ok h.l) (i.ok h.r.l) (z.ok h.r.r)⟩
noncomputable def Gw (e:Expr) (name:Str) (pos:Pos) (σ:S) (o:aE):Option (XE g D sc σ (.Attribute e name pos)):=if hb:cI e=true then do
   let a <- R.e e σ o
   let z <- getF X a.v name a.s.os
   some ⟨z.v,⟨z.os,a.s.loc⟩,a.o,a.c++z.c,fun h=>Ev.attr (a.ok h.l) (z.ok h.r) hb⟩
   else none
noncomputable def Bn (q:Expr) (name:Str) (apos:Pos) (args:List Expr) (kws:List Mv) (pos:Pos) (σ:S) (o:aE):Option (XE g D sc σ (.Call (.Attribute q name apos) args kws pos)):=if hh:((cI q).and (aW args)).and ((bO kws).and (bJ apos pos (args.length + kws.length)))=true then do
    let a <- R.e q σ o
    let m <- mthF X a.v name a.s.os
    let vs <- R.l args a.s a.o
    let ks <- R.k pos kws vs.s vs.o
    let k <- kpF X ks.s.os m.f
    let z <- X.ct m.f (a.v::vs.v) ((kwNames kws).zip ks.v) ks.s.os
    (if h4:(kwNames kws).length=ks.v.length then
     (some ⟨z.v,⟨z.os,ks.s.loc⟩,ks.o,a.c++(vs.c++(ks.c++z.c)),fun h=>by
      simp only[Kk] at hh
      exact Ev.meth (a.ok h.l) m.ok (vs.ok h.r.l) (ks.ok h.r.r.l) k.ok (z.ok h.r.r.r) hh.1.1 hh.1.2 hh.2.1 h4 hh.2.2⟩)
    else none)
    else none
noncomputable def Bt (func:Expr) (args:List Expr) (kws:List Mv) (pos:Pos) (σ:S) (o:aE):Option (XE g D sc σ (.Call func args kws pos)):=if hh:((gm func).and (aW args)).and (bO kws)=true then do
    let a <- R.e func σ o
    let vs <- R.l args a.s a.o
    let ks <- R.k pos kws vs.s vs.o
    let k <- kpF X ks.s.os a.v
    let z <- X.ct a.v vs.v ((kwNames kws).zip ks.v) ks.s.os
    (if h4:(kwNames kws).length=ks.v.length then
     (some ⟨z.v,⟨z.os,ks.s.loc⟩,ks.o,a.c++(vs.c++(ks.c++z.c)),fun h=>by
      simp only[Kk] at hh
      exact Ev.call (a.ok h.l) (vs.ok h.r.l) (ks.ok h.r.r.l) k.ok (z.ok h.r.r.r) hh.1.1 hh.1.2 hh.2 h4⟩)
    else none)
    else none
noncomputable def JO (x:Str) (px:Pos) (e:Expr) (pos:Pos) (σ:S) (o:aE):Option (XE g D sc σ (.NamedExpr (.Name x px) e pos)):=do
 let a <- R.e e σ o
 let h <- stoF sc x
 some ⟨a.v,⟨a.s.os,gw a.s.loc x a.v⟩,a.o,a.c,fun q=>gk x a.v a.s.loc▸Ev.named (a.ok q) h.ok⟩
noncomputable def evJ:(es:List Expr)->(acc:Str)->(σ:S)->(o:aE)->Option (XR fun out σ'=>Jn g D sc σ es acc out σ')
 | [],acc,σ,o=>some ⟨acc,σ,o,[],fun _=>Jn.nil⟩
 | e::r,acc,σ,o=>do
  let a <- R.e e σ o
  match a with
  | ⟨.str y,s,o,c,ok⟩=>do
   let b <- evJ r (acc++y) s o
   some ⟨b.v,b.s,b.o,c++(cb (KS (acc++y).length Kg)++b.c),fun h=>Jn.cons (ok h.l) (La (b7 h.r.l)) (b.ok h.r.r)⟩
  | _=>none
noncomputable def Ix (v1 v2:Expr) (rest:List Expr) (pos:Pos) (σ:S) (o:aE):Option (XE g D sc σ (.JoinedStr (v1::v2::rest) pos)):=do
 let a <- evJ X sc R (v1::v2::rest) Str.empty σ o
 some ⟨.str a.v,a.s,a.o,a.c++cb (KS a.v.length Kg),fun h=>Ev.joined (a.ok h.l) (La (b7 h.r))⟩
noncomputable def Jx (e:Expr) (c:Int) (pos:Pos) (σ:S) (o:aE):Option (XE g D sc σ (.FormattedValue e c none pos)):=if hc:c=115 then do
 let a <- R.e e σ o
 match a with
 | ⟨.str x,s,o,k,ok⟩=>some ⟨.str x,s,o,k++cb (KS x.length Kg),fun h=>hc▸Ev.fmtS (ok h.l) (La (b7 h.r))⟩
 | _=>none
 else none
noncomputable def ifF (ifs:List Expr) (σ:S) (o:aE):Option (XR fun b σ'=>gV g D sc σ ifs b σ'):=match ifs with
 | []=>some ⟨true,σ,o,[],fun _=>.nil⟩
 | [c]=>do
  let a <- R.t c σ o
  some ⟨a.v,a.s,a.o,a.c,fun h=>.one (a.ok h)⟩
 | _=>none
noncomputable def F5 (t:Expr) (ifs:List Expr) (elt:Expr) (nx:Nat->List O->Option (Option V)) (di k:Nat) (σ:S) (o:aE):Option (XR fun(_:Unit) σe=>ba g D sc t ifs elt nx di σe k σ):=match hx:nx k σ.os with
 | none=>none
 | some none=>some ⟨(),σ,o,[],fun _=>.stop hx⟩
 | some (some v)=>do
  let a <- evA X sc R t v σ o
  let b <- ifF X sc R ifs a.s a.o
  (match hb:b.v with
  | false=>do
   let z <- R.c t ifs elt nx di (k + 1) b.s b.o
   some ⟨(),z.s,z.o,a.c++(b.c++z.c),fun h=>.skip hx (a.ok h.l) (hb▸b.ok h.r.l) (z.ok h.r.r)⟩
  | true=>do
   let y <- R.e elt b.s b.o
   (match ho:y.s.os[di]? with
   | some (.list vs)=>do
    let z <- R.c t ifs elt nx di (k + 1) ⟨y.s.os.set di (.list (vs++[y.v])),y.s.loc⟩ y.o
    some ⟨(),z.s,z.o,a.c++(b.c++(y.c++(cb (KS vs.length Kg)++z.c))),fun h=>.keep hx (a.ok h.l) (hb▸b.ok h.r.l) (y.ok h.r.r.l) ho (La (b7 h.r.r.r.l)) (z.ok h.r.r.r.r)⟩
   | _=>none))
noncomputable def Dd (elt t iter:Expr) (ifs:List Expr) (scope:Scope) (pos:Pos) (σ:S) (o:aE):Option (XE g D sc σ (.ListComp elt [⟨t,iter,ifs,0⟩] scope pos)):=
 if hh:((isFn scope.kind).and (gI (scope.names.map (·.1)))).and ((lP sc scope.names).and (cv iter))=true then do
  let a <- R.e iter σ o
  let i <- iterF' X a.v a.s.os
  let z <- (RA (compSc scope sc)).c t ifs elt i.nx a.s.os.length 0 ⟨a.s.os++[.list []],cl0 a.s.loc scope.names⟩ a.o
  (match hl:iU z.s.loc scope.names a.s.loc with
  | some l=>some ⟨.ref a.s.os.length,⟨z.s.os,l⟩,z.o,a.c++(i.c++z.c),fun h=>by
    simp only[Kk] at hh
    have nd:=ej hh.1.2
    exact Ev.comp (a.ok h.l) (i.ok h.r.l) (iu hh.1.1) nd (gN hh.2.1) (kV nd) (z.ok h.r.r) (iV nd hl).1 (iV nd hl).2 (aD hh.2.2)⟩
  | none=>none)
 else none
noncomputable def m6 (e:Expr) (σ:S) (o:aE):Option (XE g D sc σ e):=match e with
  | .Name x pos=>Cz X sc x pos σ o
  | .Constant (.int i) k pos=>some ⟨.int i,σ,o,[],fun _=>Ev.intC⟩
  | .Constant (.str x) k pos=>some ⟨.str x,σ,o,[],fun _=>Ev.strC⟩
  | .Constant .none k pos=>some ⟨.none,σ,o,[],fun _=>Ev.noneC⟩
  | .Constant (.bool b) k pos=>some ⟨.bool b,σ,o,[],fun _=>Ev.boolC⟩
  | .BinOp l op r pos=>Jt X sc R l op r pos σ o
  | .UnaryOp .USub e pos=>IE X sc R e pos σ o
  | .UnaryOp .Not e pos=>none
  | .Compare l [op] [r] pos=>Jw X sc R l op r pos σ o
  | .BoolOp .Or [x,y] pos=>I8 X sc R x y pos σ o
  | .BoolOp .And [x,y] pos=>Im X sc R x y pos σ o
  | .IfExp t x y pos=>Iz X sc R t x y pos σ o
  | .List es pos=>Jj X sc R es pos σ o
  | .Tuple es k pos=>Ju X sc R es k pos σ o
  | .Subscript value (.Slice lo hi none p) pos=>Jp X sc R value lo hi p pos σ o
  | .Subscript value slice pos=>Ht X sc R value slice pos σ o
  | .Attribute e name pos=>Gw X sc R e name pos σ o
  | .ListComp elt [⟨t,iter,ifs,0⟩] scope pos=>Dd X sc R RA elt t iter ifs scope pos σ o
  | .JoinedStr (v1::v2::rest) pos=>Ix X sc R v1 v2 rest pos σ o
  | .Dict [] [] pos=>some ⟨.ref σ.os.length,⟨σ.os++[.map []],σ.loc⟩,o,[],fun _=>Ev.dictNil⟩
  | .NamedExpr (.Name x px) e pos=>JO X sc R x px e pos σ o
  | .FormattedValue e c none pos=>Jx X sc R e c pos σ o
  | .Call (.Attribute q name apos) args kws pos=>Bn X sc R q name apos args kws pos σ o
  | .Call func args kws pos=>Bt X sc R func args kws pos σ o
  | _=>none
noncomputable def FK (e:Option Expr) (σ:S) (o:aE):Option (XR fun v σ'=>aP g D sc σ (fun env=>LF (Mr e env)) (fun ρ x=>RelV ρ v x) σ'):=match e with
  | none=>some ⟨.none,σ,o,[],fun _=>zT⟩
  | some e=>do
   let a <- R.e e σ o
   some ⟨a.v,a.s,a.o,a.c,fun h=>qO (a.ok h)⟩
noncomputable def F0 (es:List Expr) (σ:S) (o:aE):Option (XR fun vs σ'=>bU g D sc σ es vs σ'):=match es with
  | []=>some ⟨[],σ,o,[],fun _=>bU.nil⟩
  | e::r=>do
   let a <- R.e e σ o
   let b <- R.l r a.s a.o
   some ⟨a.v::b.v,b.s,b.o,a.c++b.c,fun h=>bU.cons (a.ok h.l) (b.ok h.r)⟩
noncomputable def FM (pos:Pos) (es:List Mv) (σ:S) (o:aE):Option (XR fun vs σ'=>dC g D sc σ pos es vs σ'):=match es with
  | []=>some ⟨[],σ,o,[],fun _=>dC.nil⟩
  | ⟨some x,e,p⟩::r=>do
   let a <- R.e e σ o
   let b <- R.k pos r a.s a.o
   some ⟨a.v::b.v,b.s,b.o,a.c++b.c,fun h=>dC.cons (a.ok h.l) (b.ok h.r)⟩
  | _=>none
noncomputable def BD (e:Expr) (σ:S) (o:aE):Option (XT g D sc σ e):=match e with
  | .UnaryOp .Not e pos=>do
   let a <- R.t e σ o
   some ⟨!a.v,a.s,a.o,a.c,fun h=>Tr.not (a.ok h) rfl⟩
  | .BoolOp op es pos=>do
   let a <- R.q op es σ o
   some ⟨a.v,a.s,a.o,a.c,fun h=>Tr.boolop (a.ok h)⟩
  | .Compare l [op] [r] pos=>if hm:MT op r=false then do
   let a <- R.e l σ o
   let b <- R.e r a.s a.o
   let z <- cmpF' X op a.v b.v b.s.os
   match z with
   | ⟨.bool t,zo,zc,zk⟩=>some (BC pos ⟨t,⟨zo,b.s.loc⟩,b.o,a.c++(b.c++zc),fun h=>Tr.cmp (a.ok h.l) (b.ok h.r.l) (zk h.r.r) hm⟩)
   | _=>none
   else none
  | e=>if hp:oO e=true then do
   let a <- R.e e σ o
   let t <- truF' X a.v a.s.os
   some (BC e.pos ⟨t.v,⟨t.os,a.s.loc⟩,a.o,a.c++t.c,fun h=>Tr.val (a.ok h.l) (t.ok h.r) hp⟩)
   else none
noncomputable def F8 (op:BoolOp) (es:List Expr) (σ:S) (o:aE):Option (XR fun b σ'=>bQ g D sc σ op es b σ'):=match op,es with
  | .And,[]=>some ⟨true,σ,o,[],fun _=>bQ.andNil⟩
  | .Or,[]=>some ⟨false,σ,o,[],fun _=>bQ.orNil⟩
  | .And,e::r=>do
   let a <- R.t e σ o
   match ha:a.v with
   | true=>do
    let b <- R.q .And r a.s a.o
    some ⟨b.v,b.s,b.o,a.c++b.c,fun h=>bQ.andT (ha▸a.ok h.l) (b.ok h.r)⟩
   | false=>some ⟨false,a.s,a.o,a.c,fun h=>bQ.andF (ha▸a.ok h)⟩
  | .Or,e::r=>do
   let a <- R.t e σ o
   match ha:a.v with
   | false=>do
    let b <- R.q .Or r a.s a.o
    some ⟨b.v,b.s,b.o,a.c++b.c,fun h=>bQ.orF (ha▸a.ok h.l) (b.ok h.r)⟩
   | true=>some ⟨true,a.s,a.o,a.c,fun h=>bQ.orT (ha▸a.ok h)⟩
noncomputable def Rc.up:Rc X sc:=⟨m6 X sc (RA sc) RA,FK X sc (RA sc),F0 X sc (RA sc),FM X sc (RA sc),BD X sc (RA sc),F5 X sc (RA sc),F8 X sc (RA sc)⟩
noncomputable def Rc.at(X:CX g D):Nat->(sc:Scope)->Rc X sc
 | 0,sc=>Rc.zero X sc
 | n + 1,sc=>Rc.up X sc (Rc.at X n)
end
section
noncomputable def evAL (X:CX g D) (sc:Scope) (R:Rc X sc):(ts:List Expr)->(v:V)->(σ:S)->(o:aE)->Option (JM g D sc σ ts v)
 | [],_,_,_=>none
 | [t],v,σ,o=>(if hs:dO t=true then(do
  let a <- evA X sc R t v σ o
  some ⟨(),a.s,a.o,a.c,fun h=>eK.one (a.ok h) hs⟩) else none)
 | t::u::ts,v,σ,o=>(if hs:(dO t).and (dO u)=true then(do
  let a <- evA X sc R t v σ o
  let b <- evAL X sc R (u::ts) v a.s a.o
  some ⟨(),b.s,b.o,a.c++b.c,fun h=>eK.cons (a.ok h.l) (b.ok h.r) (Bool.and_eq_true_iff.mp hs).1 (Bool.and_eq_true_iff.mp hs).2⟩) else none)
noncomputable def ldF (sc:Scope) (x:Str) (σ:S):Option (LR fun v (_:List O)=>Ld g D sc σ x v):=match hx:lk x sc.names with
 | some .local=>(match hv:lk x σ.loc with
  | some v=>some ⟨v,[],[],fun _=>Ld.loc (bo x sc.names▸hx) (bo x σ.loc▸hv)⟩
  | none=>none)
 | _=>none
noncomputable def l7:F->Bool
 | .next=>true
 | _=>false
theorem mM (h:l7 f=true):f=.next:=by cases f <;> first | rfl | exact nB h
theorem sX (h:l7 f=false):f≠.next:=by rintro rfl;cases h
noncomputable def Iy (g:G) (D:Nat) (sc:Scope):=(st:Kz)->(σ:S)->aE->Option (XS g D sc σ st)
noncomputable def JV (g:G) (D:Nat) (sc:Scope):=(st:List Kz)->(σ:S)->aE->Option (uG g D sc σ st)
noncomputable def J3 (g:G) (D:Nat) (sc:Scope):=(t:Expr)->(body orelse:List Kz)->(nx:Nat->List O->Option (Option V))->(k:Nat)->(σ:S)->aE->Option (XR fun fin σe=>bH g D sc t body orelse nx fin σe k σ)
noncomputable def I3 (g:G) (D:Nat) (sc:Scope):=(test:Expr)->(body orelse:List Kz)->(σ:S)->aE->Option (XR fun fin σe=>dN g D sc test body orelse fin σe σ)
structure Rs (X:CX g D) (sc:Scope) where
 s:Iy g D sc
 ss:JV g D sc
 f:J3 g D sc
 w:I3 g D sc
noncomputable def Rs.zero (X:CX g D) (sc:Scope):Rs X sc:=⟨fun _ _ _=>none,fun _ _ _=>none,fun _ _ _ _ _ _ _=>none,fun _ _ _ _ _=>none⟩
variable (X:CX g D) (sc:Scope) (R:Rc X sc) (T:Rs X sc)
noncomputable def Jc (e:Expr) (pos:Pos) (σ:S) (o:aE):Option (XS g D sc σ (.Return (some e) pos)):=do
   let a <- R.e e σ o
   some ⟨.ret a.v,a.s,a.o,a.c,fun h=>Ex.ret (a.ok h)⟩
noncomputable def Jh (e:Expr) (pos:Pos) (σ:S) (o:aE):Option (XS g D sc σ (.Expr e pos)):=(if hp:cX e=true then(do
   let a <- R.e e σ o
   some ⟨.next,a.s,a.o,a.c,fun h=>Ex.expr (a.ok h) hp⟩) else none)
noncomputable def Iu (t:Expr) (b e:List Kz) (pos:Pos) (σ:S) (o:aE):Option (XS g D sc σ (.If t b e pos)):=do
   let a <- R.t t σ o
   (match ha:a.v with
   | true=>do
    let z <- T.ss b a.s a.o
    some ⟨z.v,z.s,z.o,a.c++z.c,fun h=>Ex.iteT (ha▸a.ok h.l) (z.ok h.r)⟩
   | false=>do
    let z <- T.ss e a.s a.o
    some ⟨z.v,z.s,z.o,a.c++z.c,fun h=>Ex.iteF (ha▸a.ok h.l) (z.ok h.r)⟩)
noncomputable def JW (ts:List Expr) (e:Expr) (pos:Pos) (σ:S) (o:aE):Option (XS g D sc σ (.Assign ts e pos)):=(if hp:cX e=true then(do
   let a <- R.e e σ o
   let w <- swF ts e sc
   (match hw:w.v with
   | none=>do
    let z <- evAL X sc R ts a.v a.s a.o
    some ⟨.next,z.s,z.o,a.c++z.c,fun h=>Ex.assignG (a.ok h.l) (z.ok h.r) (hw▸w.ok) hp⟩
   | some names=>(match ts,w,hw,a with
    | [.Tuple ts k tp],w,hw,⟨.ref i,s,ao,ac,ok⟩=>(match ho:s.os[i]? with
     | some (.tuple vs)=>do
      let q <- stosF sc names
      (if hl:names.length=vs.length then
       (some ⟨.next,⟨s.os,l9 s.loc names.reverse vs.reverse⟩,ao,ac,fun h=>oE names.reverse vs.reverse s.loc▸Ex.assignSw (ok h) ho hl q.ok (hw▸w.ok) hp⟩)
      else none)
     | _=>none)
    | _,_,_,_=>none))) else none)
noncomputable def JA (t:Expr) (op:MF) (e:Expr) (pos:Pos) (σ:S) (o:aE):Option (XS g D sc σ (.AugAssign t op e pos)):=(match t with
   | .Name x px=>do
    let l <- ldF (g:=g) (D:=D) sc x σ
    let b <- R.e e σ o
    let z <- augF op l.v b.v b.s.os
    let h <- stoF sc x
    some ⟨.next,⟨z.os,gw b.s.loc x z.v⟩,b.o,l.c++(b.c++z.c),fun q=>gk x z.v b.s.loc▸Ex.aug (l.ok q.l) (b.ok q.r.l) (z.ok q.r.r) h.ok⟩
   | .Attribute q name p=>do
    let a <- R.e q σ o
    let u <- getF X a.v name a.s.os
    let b <- R.e e ⟨u.os,a.s.loc⟩ a.o
    let z <- augF op u.v b.v b.s.os
    let w <- setAF X a.v name z.v z.os
    some ⟨.next,⟨w.os,b.s.loc⟩,b.o,a.c++(u.c++(b.c++(z.c++w.c))),fun h=>Ex.augAttr (a.ok h.l) (u.ok h.r.l) (b.ok h.r.r.l) (z.ok h.r.r.r.l) (w.ok h.r.r.r.r)⟩
   | _=>none)
noncomputable def Jv (t iter:Expr) (body orelse:List Kz) (pos:Pos) (σ:S) (o:aE):Option (XS g D sc σ (.For t iter body orelse pos)):=(if hs:cv iter=true then(do
   let a <- R.e iter σ o
   let i <- iterF' X a.v a.s.os
   let z <- T.f t body orelse i.nx 0 a.s a.o
   some ⟨z.v,z.s,z.o,a.c++(i.c++z.c),fun h=>Ex.forRun (a.ok h.l) (i.ok h.r.l) (z.ok h.r.r) (aD hs)⟩) else none)
noncomputable def JD (test:Expr) (body orelse:List Kz) (pos:Pos) (σ:S) (o:aE):Option (XS g D sc σ (.While test body orelse pos)):=do
   let z <- T.w test body orelse σ o
   some ⟨z.v,z.s,z.o,z.c,fun h=>Ex.whRun (z.ok h)⟩
noncomputable def Bl (st:Kz) (σ:S) (o:aE):Option (XS g D sc σ st):=match st with
  | .Pass pos=>some ⟨.next,σ,o,[],fun _=>Ex.pass⟩
  | .Break pos=>some ⟨.brk,σ,o,[],fun _=>Ex.brk⟩
  | .Continue pos=>some ⟨.cont,σ,o,[],fun _=>Ex.cont⟩
  | .Return (some e) pos=>Jc X sc R e pos σ o
  | .Expr e pos=>Jh X sc R e pos σ o
  | .If t b e pos=>Iu X sc R T t b e pos σ o
  | .Assign ts e pos=>JW X sc R ts e pos σ o
  | .AugAssign t op e pos=>JA X sc R t op e pos σ o
  | .For t iter body orelse pos=>Jv X sc R T t iter body orelse pos σ o
  | .While test body orelse pos=>JD X sc T test body orelse pos σ o
  | _=>none
noncomputable def C8 (st:List Kz) (σ:S) (o:aE):Option (uG g D sc σ st):=match st with
  | []=>some ⟨.next,σ,o,[],fun _=>Exs.nil⟩
  | st::r=>do
   let a <- T.s st σ o
   (match ha:l7 a.v with
   | true=>do
    let b <- T.ss r a.s a.o
    some ⟨b.v,b.s,b.o,a.c++b.c,fun h=>Exs.cons (mM ha▸a.ok h.l) (b.ok h.r)⟩
   | false=>some ⟨a.v,a.s,a.o,a.c,fun h=>Exs.stop (a.ok h) (sX ha)⟩)
noncomputable def FZ (t:Expr) (body orelse:List Kz) (nx:Nat->List O->Option (Option V)) (k:Nat) (σ:S) (o:aE):Option (XR fun fin σe=>bH g D sc t body orelse nx fin σe k σ):=match hx:nx k σ.os with
  | none=>none
  | some none=>do
   let z <- T.ss orelse σ o
   some ⟨z.v,z.s,z.o,z.c,fun h=>.stop hx (z.ok h)⟩
  | some (some v)=>do
   let a <- evA X sc R t v σ o
   let b <- T.ss body a.s a.o
   (match hb:b.v with
   | .next=>do
    let z <- T.f t body orelse nx (k + 1) b.s b.o
    some ⟨z.v,z.s,z.o,a.c++(b.c++z.c),fun h=>.turn hx (a.ok h.l) (b.ok h.r.l) (.inl hb) (z.ok h.r.r)⟩
   | .cont=>do
    let z <- T.f t body orelse nx (k + 1) b.s b.o
    some ⟨z.v,z.s,z.o,a.c++(b.c++z.c),fun h=>.turn hx (a.ok h.l) (b.ok h.r.l) (.inr hb) (z.ok h.r.r)⟩
   | .brk=>some ⟨.next,b.s,b.o,a.c++b.c,fun h=>.leave hx (a.ok h.l) (b.ok h.r) (by rw[hb];rfl)⟩
   | .ret v=>some ⟨.ret v,b.s,b.o,a.c++b.c,fun h=>.leave hx (a.ok h.l) (b.ok h.r) (by rw[hb];rfl)⟩)
noncomputable def F6 (test:Expr) (body orelse:List Kz) (σ:S) (o:aE):Option (XR fun fin σe=>dN g D sc test body orelse fin σe σ):=do
  let t <- R.t test σ o
  (match ht:t.v with
  | false=>do
   let z <- T.ss orelse t.s t.o
   some ⟨z.v,z.s,z.o,t.c++z.c,fun h=>.stop (ht▸t.ok h.l) (z.ok h.r)⟩
  | true=>do
   let b <- T.ss body t.s t.o
   (match hb:b.v with
   | .next=>do
    let z <- T.w test body orelse b.s b.o
    some ⟨z.v,z.s,z.o,t.c++(b.c++z.c),fun h=>.turn (ht▸t.ok h.l) (b.ok h.r.l) (.inl hb) (z.ok h.r.r)⟩
   | .cont=>do
    let z <- T.w test body orelse b.s b.o
    some ⟨z.v,z.s,z.o,t.c++(b.c++z.c),fun h=>.turn (ht▸t.ok h.l) (b.ok h.r.l) (.inr hb) (z.ok h.r.r)⟩
   | .brk=>some ⟨.next,b.s,b.o,t.c++b.c,fun h=>.leave (ht▸t.ok h.l) (b.ok h.r) (by rw[hb];rfl)⟩
   | .ret v=>some ⟨.ret v,b.s,b.o,t.c++b.c,fun h=>.leave (ht▸t.ok h.l) (b.ok h.r) (by rw[hb];rfl)⟩))
noncomputable def Rs.up:Rs X sc:=⟨Bl X sc R T,C8 X sc T,FZ X sc R T,F6 X sc R T⟩
noncomputable def Rs.at(X:CX g D) (sc:Scope):Nat->Rs X sc
 | 0=>Rs.zero X sc
 | n + 1=>Rs.up X sc (Rc.at X n sc) (Rs.at X sc n)
noncomputable def Cs (X:CX g D) (sc:Scope) (n:Nat):=(Rs.at X sc n).ss
end
theorem yw {K:Frag} (h:K.all (fun p=>Nat.blt p.1 935)=true) {o:Obj} (e:K.lookup a=some o):a < 935:=by
 have hm:(a,o)∈K:=by
  induction K with
  | nil=>exact nS e
  | cons p r ih=>
   obtain⟨b,x⟩:=p
   rw[K1] at e
   cases hb:a==b with
   | true=>rw[hb] at e;cases e;rw[beq_iff_eq.mp hb];exact .head _
   | false=>rw[hb] at e;exact .tail _ (ih (by simp only[List.all_cons,Kk] at h;exact h.2) e)
 have:=List.all_eq_true.mp h _ hm
 simpa [Lx] using this
theorem Ad (P:K5):(KL P).all (fun p=>Nat.blt p.1 935)=true:=∅
theorem An (P:K5):(KL P).any (fun p=>Lw p.1 934)=true:=∅
theorem Fm (P:K5):(KL P).lookup TJ=none:=∅
noncomputable def EK (P:K5):Option Obj:=(KL P).lookup cStatics
noncomputable def nM:Kd->Bool
 | .str _ _=>true
 | _=>false
theorem lO {es:Array Me} (h:es.toList.all (fun e=>nM e.key)=true):StrKeys es:=fun e he=>by
 have:=List.all_eq_true.mp h e (Array.mem_toList_iff.mpr he)
 cases hk:e.key with
 | str x y=>exact⟨_,_,rfl⟩
 | _=>rw[hk] at this;cases this
noncomputable def Hh (o:Option Obj):Bool:=o.any fun o=>match o.data with
 | .dict es _=>es.toList.all (fun e=>nM e.key)&&(nsFind es "sys.recursionlimit").isNone
 | _=>false
theorem yE (P:K5):Hh (EK P)=true:=∅
theorem pY {K:Frag} (h:K.any (fun p=>Lw p.1 a)=true):∃o,K.lookup a=some o:=by
 induction K with
 | nil=>exact nB h
 | cons p r ih=>
  obtain⟨b,x⟩:=p
  rw[K1]
  cases hb:a==b with
  | true=>exact⟨_,rfl⟩
  | false=>
   simp only[List.any_cons,Bool.or_eq_true] at h
   rcases h with h | h
   .rw[MC h] at hb;simp at hb
   .exact ih h
noncomputable def aa (w:J9):G where
 w:=w
 K:=KL w.params
 low:=fun a o e=>yw (Ad _) e
 lim:=fun h hK=>by
  obtain⟨⟨c,di,d,sl⟩,e,h1⟩:=bh (yE w.params)
  cases d with
  | dict es n=>
   obtain⟨h1,h2⟩:=Bool.and_eq_true_iff.mp h1
   exact⟨_,⟨_,_,_,hK _ _ e,rfl,lO h1,fun name=>rfl⟩,Option.isNone_iff_eq_none.mp h2⟩
  | _=>exact nB h1
 last:=pY (An _)
 tj:=Fm _
noncomputable def i4:V->Bool
 | .ref _=>false
 | _=>true
noncomputable def qF:V->V->Option Bool
 | .int a,.int b=>some (a==b)
 | .str a,.str b=>some (sq a b)
 | _,_=>none
theorem eq0_inv {a b:V} {r:Bool} (h:qF a b=some r):(∃x y,a=.int x/\b=.int y/\r=(x==y))\/∃x y,a=.str x/\b=.str y/\r=sq x y:=by
 cases a with
 | int x=>cases b with
  | int y=>cases h;exact .inl ⟨x,y,rfl,rfl,rfl⟩
  | _=>exact nS h
 | str x=>cases b with
  | str y=>cases h;exact .inr ⟨x,y,rfl,rfl,rfl⟩
  | _=>exact nS h
 | _=>exact nS h
noncomputable def Be (a b:V):Bool:=qF a b==some true
theorem sJ {a b:V} (h:Be a b=true):a=b/\i4 b=true:=by
 rcases eq0_inv (MB h) with⟨x,y,rfl,rfl,e⟩ | ⟨x,y,rfl,rfl,e⟩
 .rw[beq_iff_eq.mp e.symm];exact⟨rfl,rfl⟩
 .rw[beq_iff_eq.mp ((ca _ _).symm.trans e.symm)];exact⟨rfl,rfl⟩
noncomputable def FT:Kd->V
 | .none=>.none
 | .bool b=>.bool b
 | .int i _=>.int i
 | .str s _=>.str s
 | x=>.top x
theorem CW (x:Kd):jH (FT x) x:=fun ρ=>by cases x <;> first | rfl | exact⟨_,rfl⟩
noncomputable def EU:V->Kd->Bool
 | .top a,x=>a==x
 | _,_=>false
noncomputable def vk (v:V) (x:Kd):Bool:=Be v (FT x)||EU v x
theorem qN {x:Kd} (h:vk v x=true):jH v x:=by
 rcases Bool.or_eq_true_iff.mp h with h | h
 .rw[(sJ h).1];exact CW x
 .cases v with
  | top a=>exact fun ρ=>(beq_iff_eq.mp h).symm
  | _=>exact nB h
noncomputable def JH:List (String×V):=[("_MAX_STRING_SIZE",.int 40),("_MOVE_COST",.int 2),("_CASE_COST",.int 1),("_substitution_cost",.top (.ref 51)),("_levenshtein_distance",.top (.ref 58)),
 ("_NODE_OUT",.int (-1)),("_NODE_DONE",.int (-2)),("_NodeInfo",.top (.ref 77)),("TopologicalSorter",.top (.ref 174)),("_index",.top (.ref 197)),("BytesIO",.top (.ref 484)),("StringIO",.top (.ref 731)),
 ("shlex",.top (.ref 866)),("split",.top (.ref 878)),("join_shlex",.top (.ref 885)),("quote",.top (.ref 893)),("_find_unsafe",.top (.ref 886)),("deque",.top (.type "collections.deque")),
 ("_law_word",.top (.ref 900)),("_law_quoted",.top (.ref 907)),("_law_size",.top (.ref 914)),("_law_steps",.top (.ref 919)),("_law_told",.top (.ref 924)),("_law_due",.top (.ref 929)),
 ("len",.top (.builtin "len")),("min",.top (.builtin "min")),("range",.top (.type "range")),("list",.top (.type "list")),("sorted",.top (.builtin "sorted")),("isinstance",.top (.builtin "isinstance")),
 ("str",.top (.type "str")),("int",.top (.type "int")),("bool",.top (.type "bool")),("type",.top (.type "type")),("set",.top (.type "set")),("tuple",.top (.type "tuple")),("iter",.top (.builtin "iter")),
 ("object",.top (.type "object")),("StopIteration",.top (.type "StopIteration")),("bytes",.top (.type "bytes")),("bytearray",.top (.type "bytearray"))]
noncomputable def Cg:List (Str×V):=JH.map fun p=>(J8 p.1,p.2)
noncomputable def Iw (K:Frag) (p:Str×V):Bool:=(nsIn K K9 p.1).any fun o=>match o with
 | some y=>vk p.2 y
 | none=>(nsIn K LL p.1).any fun o=>o.any (vk p.2)
theorem Dp (P:K5):Cg.all (Iw (KL P))=true:=∅
theorem gl_ok (P:K5) (x:Str) (v:V) (h:lk x Cg=some v):(∃y,nsIn (KL P) K9 x=some (some y)/\jH v y)\/(nsIn (KL P) K9 x=some none/\∃y,nsIn (KL P) LL x=some (some y)/\jH v y):=by
 rw[bo] at h
 obtain⟨o,e,h⟩:=bh (List.all_eq_true.mp (Dp P) _ (mem_of_lookup h))
 cases o with
 | some y=>exact .inl ⟨y,e,qN h⟩
 | none=>
  obtain⟨o,e',h⟩:=bh h
  obtain⟨y,rfl,h⟩:=bh h
  exact .inr ⟨e,y,e',qN h⟩
noncomputable def pu {β:Type} (a:Kj):List (Kj×β)->Option β
 | []=>none
 | (b,v)::r=>match Lw b a with
  | true=>some v
  | false=>pu a r
theorem mv {v:β} {l:List (Kj×β)} (h:pu a l=some v):(a,v)∈l:=by
 induction l with
 | nil=>exact nS h
 | cons p r ih=>
  obtain⟨b,u⟩:=p
  replace h:(match Lw b a with
   | true=>some u
   | false=>pu a r)=some v:=h
  cases q:Lw b a with
  | true=>rw[q] at h;cases h;rw[MC q];exact .head _
  | false=>rw[q] at h;exact .tail _ (ih h)
noncomputable def F9:List (Kj×List (Str×Unit)):=[(174,["_node2info","_ready_nodes","_npassedout","_nfinished"].map fun x=>(J8 x,())),
 (866,["instream","infile","posix","eof","commenters","wordchars","whitespace","whitespace_split","quotes","escape","escapedquotes","state","pushback","lineno","debug","token","filestack","source","_punctuation_chars"].map fun x=>(J8 x,())),
 (731,["_StringIO__newline","_StringIO__buf","_StringIO__pos"].map fun x=>(J8 x,()))]
noncomputable def Jy (K:Frag) (p:Kj×List (Str×Unit)):Bool:=ek K p.1&&p.2.all fun q=>iA K p.1 q.1&&iH K p.1 q.1
theorem BH (P:K5):F9.all (Jy (KL P))=true:=∅
noncomputable def ow (C:Kj) (n:Str):Bool:=(pu C F9).any fun l=>(lk n l).isSome
theorem bP (P:K5) (C:Kj) (n:Str) (h:ow C n=true):(iA (KL P) C n=true/\ek (KL P) C=true)/\iH (KL P) C n=true:=by
 obtain⟨l,e,h⟩:=bh h
 obtain⟨h1,h2⟩:=Bool.and_eq_true_iff.mp (List.all_eq_true.mp (BH P) _ (mv e))
 obtain⟨u,hu⟩:=Option.isSome_iff_exists.mp h
 rw[bo] at hu
 obtain⟨q1,q2⟩:=Bool.and_eq_true_iff.mp (List.all_eq_true.mp h2 _ (mem_of_lookup hu))
 exact⟨⟨q1,h1⟩,q2⟩
noncomputable def JE:List (Kj×List (String×Kj)):=[(174,[("add",124),("_get_nodeinfo",117),("prepare",129),("get_ready",136),("is_active",143),("done",157),("_find_cycle",164)]),
 (866,[("get_token",827),("read_token",834)]),(731,[("read",677),("_StringIO__check",515),("_StringIO__translated",508)])]
noncomputable def FH:List (Kj×List (Str×Kj)):=JE.map fun p=>(p.1,p.2.map fun q=>(J8 q.1,q.2))
noncomputable def F7 (K:Frag) (p:Kj×List (Str×Kj)):Bool:=ek K p.1&&p.2.all fun q=>pk K p.1 q.1==some q.2
theorem Bs (P:K5):FH.all (F7 (KL P))=true:=∅
noncomputable def mt (C:Kj) (n:Str):Option Kj:=(pu C FH).bind (lk n)
theorem mt_ok (P:K5) (C:Kj) (n:Str) (f:Kj) (h:mt C n=some f):pk (KL P) C n=some f/\ek (KL P) C=true:=by
 obtain⟨l,e,h⟩:=Option.bind_eq_some_iff.mp h
 have:=List.all_eq_true.mp (Bs P) _ (mv e)
 simp only[F7,Kk] at this
 rw[bo] at h
 have q:=List.all_eq_true.mp this.2 _ (mem_of_lookup h)
 exact⟨beq_iff_eq.mp q,this.1⟩
noncomputable def BQ:List (Kj×Unit):=[44,51,58,73,110,117,124,129,136,143,157,164,197,224,501,508,515,677,790,797,827,834,856,863,878,885,893,900,907,914,919,924,929,934].map fun a=>(a,())
noncomputable def Fx (o:Option Obj):Bool:=o.any fun o=>match o.data with
 | .func _=>true
 | _=>false
theorem B6 (P:K5):BQ.all (fun p=>Fx ((KL P).lookup p.1))=true:=∅
theorem kp_ok (w:J9) (a:Kj) (os:List O) (h:(pu a BQ).isSome=true):Kp (aa w) os (.top (.ref a)):=by
 obtain⟨u,hu⟩:=Option.isSome_iff_exists.mp h
 obtain⟨⟨c,di,d,sl⟩,e,q⟩:=bh (List.all_eq_true.mp (B6 w.params) _ (mv hu))
 cases d with
 | func f=>exact Kp.def_ (g:=aa w) e
 | _=>exact nB q
noncomputable def kY (names:List (Str×Ko)):Bool:=names.all fun p=>match p.2 with
 | .free=>false
 | _=>true
theorem m8 (names:List (Str×Ko)) (n:Nat) (acc:List (Str×Kj)) (x:Str) (h:(acc.lookup x).isSome=true):((K7 n names acc).lookup x).isSome=true:=by
 induction names generalizing n acc with
 | nil=>exact h
 | cons p r ih=>
  rw[gb]
  by_cases hk:(p.2==LH)=true
  .rw[if_pos hk]
   refine ih _ _ ?_
   rw[K1]
   cases x==p.1
   .exact h
   .rfl
  .rw[if_neg hk]
   exact ih _ _ h
theorem nq (names:List (Str×Ko)) (n:Nat) (acc:List (Str×Kj)) (x:Str) (h:names.lookup x=some .cell):((K7 n names acc).lookup x).isSome=true:=by
 induction names generalizing n acc with
 | nil=>exact nS h
 | cons p r ih=>
  rw[K1] at h
  rw[gb]
  cases hb:x==p.1 with
  | true=>
   rw[hb] at h
   rw[if_pos (beq_iff_eq.mpr (Lu h))]
   exact m8 r _ _ x (by rw[K1,hb];rfl)
  | false=>
   rw[hb] at h
   by_cases hk:(p.2==LH)=true
   .rw[if_pos hk];exact ih _ _ h
   .rw[if_neg hk];exact ih _ _ h
theorem wP (h:kY names=true) (q:names.lookup x=some .cell\/names.lookup x=some .free) (n:Nat):((K7 n names []).lookup x).isSome=true:=by
 rcases q with q | q
 .exact nq _ _ _ _ q
 .have:=List.all_eq_true.mp h _ (mem_of_lookup q)
  exact nB this
noncomputable def yd (K:Frag) (fd:KN):Bool:=codeIn K fd.code fd.qualname&&!fd.scope.isCoroutine&&!fd.scope.isGenerator&&isFn fd.scope.kind&&kY fd.scope.names&&gI ((K7 0 fd.scope.names []).map (·.1))
theorem bk {p:NJ×List Kz×Scope} {name:Str} {dflt doc md:Kd} (h1:(KL w.params).lookup a=some ⟨.type "function",none,.func (fnO p name qual dflt doc md code),#[]⟩)
  (h2:yd (KL w.params) (fnO p name qual dflt doc md code)=true):Fn (aa w) a (fnO p name qual dflt doc md code) p.2.1:=by
 simp only[yd,Kk,Bool.not_eq_true'] at h2
 obtain⟨⟨⟨⟨⟨a1,a2⟩,a3⟩,a4⟩,a5⟩,a6⟩:=h2
 refine⟨⟨_,_,_,h1⟩,rfl,rfl,rfl,rfl,a1,a2,a3,?_,ej a6,fun x hx n=>wP a5 hx n⟩
 revert a4;cases (fnO p name qual dflt doc md code).scope.kind <;> simp[isFn]
theorem H7 (w:J9):Fn (aa w) 51 r6 (bt 7).2.1:=bk ∅ ∅
theorem HK (w:J9):Fn (aa w) 58 rB (bt 8).2.1:=bk ∅ ∅
theorem Hj (w:J9):Fn (aa w) 73 rD (aM 12 1).2.1:=bk ∅ ∅
theorem Ey (w:J9):Fn (aa w) 110 j9 (aM 14 0).2.1:=bk ∅ ∅
theorem xj (w:J9):Fn (aa w) 117 lu (aM 14 1).2.1:=bk ∅ ∅
theorem xD (w:J9):Fn (aa w) 124 dM (aM 14 2).2.1:=bk ∅ ∅
theorem xo (w:J9):Fn (aa w) 129 cU (aM 14 3).2.1:=bk ∅ ∅
theorem Ek (w:J9):Fn (aa w) 136 g8 (aM 14 4).2.1:=bk ∅ ∅
theorem xa (w:J9):Fn (aa w) 143 iZ (aM 14 5).2.1:=bk ∅ ∅
theorem EO (w:J9):Fn (aa w) 157 cq (aM 14 7).2.1:=bk ∅ ∅
theorem xz (w:J9):Fn (aa w) 164 a7 (aM 14 8).2.1:=bk ∅ ∅
theorem DO (w:J9):Fn (aa w) 197 j8 (bt 18).2.1:=bk ∅ ∅
theorem D0 (w:J9):Fn (aa w) 224 f0 (aM 20 1).2.1:=bk ∅ ∅
theorem Eb (w:J9):Fn (aa w) 501 dY (aM 24 1).2.1:=bk ∅ ∅
theorem EP (w:J9):Fn (aa w) 508 nI (aM 24 2).2.1:=bk ∅ ∅
theorem Ej (w:J9):Fn (aa w) 515 ny (aM 24 3).2.1:=bk ∅ ∅
theorem rp (w:J9):Fn (aa w) 677 fD (aM 24 25).2.1:=bk ∅ ∅
theorem El (w:J9):Fn (aa w) 790 jg (aM 34 0).2.1:=bk ∅ ∅
theorem Fa (w:J9):Fn (aa w) 797 nu (aM 34 1).2.1:=bk ∅ ∅
theorem xq (w:J9):Fn (aa w) 827 cz (aM 34 5).2.1:=bk ∅ ∅
theorem qT (w:J9):Fn (aa w) 834 bp (aM 34 6).2.1:=bk ∅ ∅
theorem EH (w:J9):Fn (aa w) 856 jX (aM 34 9).2.1:=bk ∅ ∅
theorem xK (w:J9):Fn (aa w) 863 dX (aM 34 10).2.1:=bk ∅ ∅
theorem xP (w:J9):Fn (aa w) 878 hV (bt 35).2.1:=bk ∅ ∅
theorem sd (w:J9):Fn (aa w) 885 j7 (bt 36).2.1:=bk ∅ ∅
theorem xn (w:J9):Fn (aa w) 893 nH (bt 39).2.1:=bk ∅ ∅
theorem DR (w:J9):Fn (aa w) 900 ri (bt 41).2.1:=bk ∅ ∅
theorem DT (w:J9):Fn (aa w) 907 sg (bt 42).2.1:=bk ∅ ∅
theorem Fq (w:J9):Fn (aa w) 914 sr (bt 43).2.1:=bk ∅ ∅
theorem D5 (w:J9):Fn (aa w) 919 aY (bt 44).2.1:=bk ∅ ∅
theorem xp (w:J9):Fn (aa w) 924 ar (bt 45).2.1:=bk ∅ ∅
theorem yc (w:J9):Fn (aa w) 929 fd929 (bt 46).2.1:=bk ∅ ∅
theorem DS (w:J9):Fn (aa w) 934 aw (bt 47).2.1:=bk ∅ ∅
section
variable {fd:KN}
theorem bf.of1 {a:V} {n:Str} (h:∀x,K2 fd ⟨[x],[]⟩=pure [(n,x)]):bf g D fd [a] [] os [(n,a)] os:=fun ρ xs ks hx hk=>by
 cases hk
 cases hx with
 | cons r rs=>
  cases rs
  exact Lf.tok fun A s _=>by rw[show(KB (·.1) ([]:List (Str×V))).zip ([]:List Kd)=[] from rfl,h];exact Kb ⟨.cons ⟨rfl,r⟩ .nil,s.toks,rfl⟩
theorem bf.of2 {a b:V} {n m:Str} (h:∀x y,K2 fd ⟨[x,y],[]⟩=pure [(n,x),(m,y)]):bf g D fd [a,b] [] os [(n,a),(m,b)] os:=fun ρ xs ks hx hk=>by
 cases hk
 cases hx with
 | cons r rs=>
  cases rs with
  | cons r' rs=>
   cases rs
   exact Lf.tok fun A s _=>by rw[show(KB (·.1) ([]:List (Str×V))).zip ([]:List Kd)=[] from rfl,h];exact Kb ⟨.cons ⟨rfl,r⟩ (.cons ⟨rfl,r'⟩ .nil),s.toks,rfl⟩
theorem bf.of3 {a b c:V} {n m l:Str} (h:∀x y z,K2 fd ⟨[x,y,z],[]⟩=pure [(n,x),(m,y),(l,z)]):bf g D fd [a,b,c] [] os [(n,a),(m,b),(l,c)] os:=fun ρ xs ks hx hk=>by
 cases hk
 cases hx with
 | cons r rs=>
  cases rs with
  | cons r' rs=>
   cases rs with
   | cons r'' rs=>
    cases rs
    exact Lf.tok fun A s _=>by rw[show(KB (·.1) ([]:List (Str×V))).zip ([]:List Kd)=[] from rfl,h];exact Kb ⟨.cons ⟨rfl,r⟩ (.cons ⟨rfl,r'⟩ (.cons ⟨rfl,r''⟩ .nil)),s.toks,rfl⟩
end
theorem Jf:∀x y,K2 r6 ⟨[x,y],[]⟩=pure [(J8 "ch_a",x),(J8 "ch_b",y)]:=fun x y=>∅
theorem Ip:∀x y z,K2 rB ⟨[x,y,z],[]⟩=pure [(J8 "a",x),(J8 "b",y),(J8 "max_cost",z)]:=fun x y z=>∅
theorem sq_ok {a b:Str} (h:sq a b=true):a=b:=by rw[ca] at h;exact beq_iff_eq.mp h
theorem an.lower:an g (.str x) "lower" os (.top (.builtin "str.lower")):=fun A ρ s y pl Q E hy hh hk q=>by
 obtain⟨t,rfl⟩:=hy
 exact PySem.GM.lower (q _ s.toks rfl)
theorem an.isupper:an g (.str x) "isupper" os (.top (.builtin "str.isupper")):=fun A ρ s y pl Q E hy hh hk q=>by
 obtain⟨t,rfl⟩:=hy
 exact PySem.GM.isupper (q _ s.toks rfl)
theorem an.join:an g (.str x) "join" os (.top (.builtin "str.join")):=fun A ρ s y pl Q E hy hh hk q=>by
 obtain⟨t,rfl⟩:=hy
 exact PySem.GM.join (q _ s.toks rfl)
theorem an.replace:an g (.str x) "replace" os (.top (.builtin "str.replace")):=fun A ρ s y pl Q E hy hh hk q=>by
 obtain⟨t,rfl⟩:=hy
 exact PySem.GM.replace (q _ s.toks rfl)
theorem fk {f:V} {a:V} (h:∀ρ x y,RelV ρ f x->RelV ρ a y->Lf g D os ρ (call x [y] []) (fun ρ' z=>RelV ρ' v z) os'):Cl g D f [a] [] os v os':=fun ρ x xs ks hx hxs hks=>by
 cases hks
 cases hxs with
 | cons r rs=>
  cases rs
  exact h ρ x _ hx r
theorem By {f:V} {a b:V} (h:∀ρ x y z,RelV ρ f x->RelV ρ a y->RelV ρ b z->Lf g D os ρ (call x [y,z] []) (fun ρ' z=>RelV ρ' v z) os'):Cl g D f [a,b] [] os v os':=fun ρ x xs ks hx hxs hks=>by
 cases hks
 cases hxs with
 | cons r rs=>
  cases rs with
  | cons r' rs=>
   cases rs
   exact h ρ x _ _ hx r r'
theorem Cl.lower (h:(Txt.lower x).length <=Kg):Cl g D (.top (.builtin "str.lower")) [.str x] [] os (.str (Txt.lower x)) os:=fk fun ρ f y hf hy=>by
 obtain rfl:f=.builtin "str.lower":=hf
 obtain⟨t,rfl⟩:=hy
 exact Lf.tok fun A s _=>PySem.SC.lower (by unfold Builtin.Str.tooLong;simpa using h) ⟨⟨_,rfl⟩,_,rfl⟩
theorem Cl.isupper:Cl g D (.top (.builtin "str.isupper")) [.str x] [] os (.bool (NY x)) os:=fk fun ρ f y hf hy=>by
 obtain rfl:f=.builtin "str.isupper":=hf
 obtain⟨t,rfl⟩:=hy
 exact Lf.tok fun A s _=>PySem.SC.isupper ⟨rfl,s.toks,rfl⟩
noncomputable def F1 (a:V) (name:Str) (os:List O):Option (MR g a name os):=match a with
 | .str x=>if h:sq name ("lower" : Str)=true then some ⟨_,sq_ok h▸an.lower⟩
  else if h:sq name ("isupper" : Str)=true then some ⟨_,sq_ok h▸an.isupper⟩
  else if h:sq name ("join" : Str)=true then some ⟨_,sq_ok h▸an.join⟩
  else if h:sq name ("replace" : Str)=true then some ⟨_,sq_ok h▸an.replace⟩
  else none
 | _=>none
noncomputable def DN:CT g D:=fun f args kw os=>match f,args,kw with
 | .top (.builtin n),[.str x],[]=>if hn:n="str.lower" then some ⟨.str (Txt.lower x),os,cb (KS (Txt.lower x).length Kg),fun h=>hn▸Cl.lower (La (b7 h))⟩
  else if hn:n="str.isupper" then some ⟨.bool (NY x),os,[],fun h=>hn▸Cl.isupper⟩
  else none
 | _,_,_=>none
noncomputable def pj (X:CX g D) (n:Nat) {fd:KN} (fn:Fn g a fd body) (bs:List (Str×V)) (hb:bf g D fd args kw os bs os₁)
  (hk:∀x∈bs,fd.scope.names.lookup x.1=some .local\/fd.scope.names.lookup x.1=some .cell) (nd:(bs.map (·.1)).Nodup) (o:aE):Option (LR fun v os'=>Cl g (D + 1) (.top (.ref a)) args kw os v os'):=
 match Cs X fd.scope n body ⟨os₁,bs⟩ o with
 | none=>none
 | some r=>(match hv:r.v with
  | .next=>some ⟨.none,r.s.os,r.c,fun h=>Cl.def_ fn hb hk nd (r.ok h) (by rw[hv];rfl) (by rw[hv];exact⟨nofun,nofun⟩)⟩
  | .ret v=>some ⟨v,r.s.os,r.c,fun h=>Cl.def_ fn hb hk nd (r.ok h) (by rw[hv];rfl) (by rw[hv];exact⟨nofun,nofun⟩)⟩
  | _=>none)
noncomputable def o9 (sc:Scope) (bs:List (Str×V)):Bool:=bs.all (fun p=>(lk p.1 sc.names).any fun k=>match k with | .local=>true | .cell=>true | _=>false)&&gI (bs.map (·.1))
theorem eu (h:o9 sc bs=true):(∀x∈bs,sc.names.lookup x.1=some .local\/sc.names.lookup x.1=some .cell)/\(bs.map (·.1)).Nodup:=by
 obtain⟨h1,h2⟩:=Bool.and_eq_true_iff.mp h
 refine⟨fun x hx=>?_,ej h2⟩
 obtain⟨k,e,q⟩:=bh (List.all_eq_true.mp h1 x hx)
 rw[<- bo,e]
 cases k with
 | «local»=>exact .inl rfl
 | cell=>exact .inr rfl
 | _=>exact nB q
inductive Sh (fd:KN) where
 | p1 (n:Str) (h:∀x,K2 fd ⟨[x],[]⟩=pure [(n,x)])
 | p2 (n m:Str) (h:∀x y,K2 fd ⟨[x,y],[]⟩=pure [(n,x),(m,y)])
 | p3 (n m l:Str) (h:∀x y z,K2 fd ⟨[x,y,z],[]⟩=pure [(n,x),(m,y),(l,z)])
noncomputable def iF (X:CX g D) (n:Nat) {fd:KN} (fn:Fn g a fd body) (sh:Sh fd) (o:aE:={}) (args:List V) (os:List O):Option (LR fun v os'=>Cl g (D + 1) (.top (.ref a)) args [] os v os'):=match sh,args with
 | .p1 k h,[x]=>if hb:o9 fd.scope [(k,x)]=true then pj X n fn _ (bf.of1 h) (eu hb).1 (eu hb).2 o else none
 | .p2 k m h,[x,y]=>if hb:o9 fd.scope [(k,x),(m,y)]=true then pj X n fn _ (bf.of2 h) (eu hb).1 (eu hb).2 o else none
 | .p3 k m l h,[x,y,z]=>if hb:o9 fd.scope [(k,x),(m,y),(l,z)]=true then pj X n fn _ (bf.of3 h) (eu hb).1 (eu hb).2 o else none
 | _,_=>none
theorem aB.up {E:Nat} (h:aB E A) (le:D <=E):aB D A:=⟨h.handled,by have:=h.depth;lia,by have:=h.units;lia⟩
theorem Lf.up {E:Nat} {t:Sem α} (h:Lf g D os ρ t R os') (le:D <=E):Lf g E os ρ t R os':=fun A s hr=>h A s (hr.up le)
theorem Cl.up {E:Nat} {f:V} (h:Cl g D f args kw os v os') (le:D <=E):Cl g E f args kw os v os':=fun ρ x xs ks a b c=>(h ρ x xs ks a b c).up le
noncomputable def HS:Sh r6:=.p2 _ _ Jf
noncomputable def Hb:Sh rB:=.p3 _ _ _ Ip
noncomputable def X0 (w:J9) (D:Nat) (ct:CT (aa w) D):CX (aa w) D where
 gl x:=lk x Cg
 gl_ok:=gl_ok w.params
 own:=ow
 own_ok C n h:=(bP w.params C n h).1
 mt:=mt
 mt_ok:=mt_ok w.params
 sa:=ow
 sa_ok C n h:=(bP w.params C n h).2
 kp a:=(pu a BQ).isSome
 kp_ok:=kp_ok w
 ct:=fun f args kw os=>(HP f args kw os).orElse fun _=>(DN f args kw os).orElse fun _=>ct f args kw os
 xm:=F1
 xg _ _ _:=none
 xs _ _ _ _:=none
 xb _ _ _ _:=none
 xc _ _ _ _:=none
 xt _ _:=none
 xu _ _ _ _ _:=none
 xi _ _ _ _:=none
 xr _ _:=none
 xk _ _:=none
 xl _ _ _ _ _:=none
noncomputable def aq:CT g D:=fun _ _ _ _=>none
theorem RelV.noRef {x:Kd} (h:i4 v=true) (r:RelV ρ v x):RelV ρ' v x:=by cases v <;> first | exact r | exact nB h
theorem ae.noRef {vs:List V} {xs:List Kd} (h:vs.all Internal.i4=true) (q:ae (RelV ρ) vs xs):ae (RelV ρ') vs xs:=by
 induction q with
 | nil=>exact .nil
 | cons a _ ih=>
  obtain⟨h1,h2⟩:=Bool.and_eq_true_iff.mp h
  exact .cons (a.noRef h1) (ih h2)
theorem eY.nil (os:List O):eY [] os []:=⟨rfl,KY,fun _ h=>(nomatch h),fun _ _ _ h=>by simp at h⟩
theorem gU.nil (os:List O):gU [] os [] os:=⟨rfl,fun _ _ h=>by simp at h,fun _ _ _=>rfl⟩
theorem Cl.pure {f:V} (h:Cl g D f args kw [] v μ) (hv:i4 v=true) (hf:i4 f=true) (ha:args.all i4=true) (hk:(kw.map (·.2)).all i4=true) (os:List O):Cl g D f args kw os v os:=
 fun ρ x xs ks hx hxs hks=>Lf.frame (e:=[]) (W:=[]) (W':=[]) (R:=fun ρ' z=>RelV ρ' v z) (Lf.gc (e:=[]) (h [] x xs ks (hx.noRef hf) (hxs.noRef ha) (hks.noRef hk)) (eY.nil _) (fun k hk=>by simp at hk) fun ρ' x _ r=>r.noRef hv) (eY.nil _) (gU.nil _) fun ν x _ r=>r.noRef hv
noncomputable def mN {J:V->List O->Prop} (x:Option (LR J)) (v:V):Bool:=x.any fun r=>tD r.c&&Be r.v v
theorem gy {J:V->List O->Prop} {x:Option (LR J)} (h:mN x v=true):∃os,J v os/\i4 v=true:=by
 cases x with
 | none=>exact nB h
 | some r=>
  have h:=Bool.and_eq_true_iff.mp h
  have e:=sJ h.2
  exact⟨_,e.1▸r.ok (lx h.1),e.2⟩
noncomputable def Hx:∀x,K2 ri ⟨[x],[]⟩=pure [(J8 "mask",x)]:=fun x=>∅
noncomputable def GJ:∀x,K2 sg ⟨[x],[]⟩=pure [(J8 "mask",x)]:=fun x=>∅
noncomputable def G6:∀x,K2 sr ⟨[x],[]⟩=pure [(J8 "mask",x)]:=fun x=>∅
noncomputable def wdN (k:Nat):Str:=⟨#[if k % 2==0 then 97 else 65,39,if k / 2 % 2==0 then 98 else 66,if k / 4==0 then 99 else 67]⟩
noncomputable def szN (k:Nat):Int:=k % 2 + k / 2 % 2 + k / 4
theorem uj (w:J9):(K0 8).all (fun k=>mN (iF (X0 w 0 aq) 40 (Fq w) (.p1 _ G6) {} [.int k] []) (.int (szN k)))=true:=∅
theorem sQ (w:J9):(K0 8).all (fun k=>mN (iF (X0 w 0 aq) 40 (DR w) (.p1 _ Hx) {} [.int k] []) (.str (wdN k)))=true:=∅
theorem iG (w:J9) (k:Nat) (hk:k < 8) (os:List O):Cl (aa w) 1 (.top (.ref 914)) [.int k] [] os (.int (szN k)) os:=by
 obtain⟨μ,h,hv⟩:=gy (List.all_eq_true.mp (uj w) k (List.mem_range.mpr hk))
 exact h.pure hv rfl rfl rfl os
theorem gj (w:J9) (k:Nat) (hk:k < 8) (os:List O):Cl (aa w) 1 (.top (.ref 900)) [.int k] [] os (.str (wdN k)) os:=by
 obtain⟨μ,h,hv⟩:=gy (List.all_eq_true.mp (sQ w) k (List.mem_range.mpr hk))
 exact h.pure hv rfl rfl rfl os
noncomputable def d6 {α:Type} (K:Frag) (S:Setting) (base tok0:Nat) (ora:List (Option Obj)):Nat->Sem α->List Obj->Nat->List (Kj×Obj)->Nat->Option (α×List Obj×Nat×List (Kj×Obj))
 | 0,_,_,_,_,_=>none
 | n + 1,t,l,k,cs,i=>match t with
  | .pure a=>some (a,l,k,cs)
  | .rule _ c=>d6 K S base tok0 ora n (c ()) l k cs i
  | .at _ c=>d6 K S base tok0 ora n (c ()) l k cs i
  | .point _ c=>d6 K S base tok0 ora n (c ()) l k cs i
  | .ask c=>d6 K S base tok0 ora n (c S) l k cs i
  | .fresh c=>d6 K S base tok0 ora n (c (tok0 + k)) l (k + 1) cs i
  | .alloc o c=>match o.isFreed with
   | false=>d6 K S base tok0 ora n (c (base + l.length)) (l++[o]) k cs i
   | true=>none
  | .load a _ c=>match ora.getD i none with
   | some o=>d6 K S base tok0 ora n (c o) l k (cs++[(a,o)]) (i + 1)
   | none=>(K.lookup a).bind fun o=>d6 K S base tok0 ora n (c o) l k cs (i + 1)
  | _=>none
noncomputable def dK:Heap->List Obj->Heap
 | h,[]=>h
 | h,o::r=>dK (h.push o) r
theorem js:∀(l:List Obj) (h:Heap) (o:Obj),dK h (l++[o])=(dK h l).push o
 | [],h,o=>rfl
 | x::r,h,o=>js r _ o
theorem jI:∀(l:List Obj) (h:Heap),(dK h l).objs.size=h.objs.size + l.length
 | [],h=>rfl
 | x::r,h=>by
  show(dK (h.push x) r).objs.size=_
  rw[jI r,Li]
  show(h.objs.push x).size + _=_
  rw[NK];lia
theorem cR:∀(l:List Obj) (h:Heap),Gr h (dK h l)
 | [],h=>Gr.refl h
 | x::r,h=>fun b o e=>cR r _ b o (Ki _ e)
theorem mn {K:Frag} {Q:α->Kl->Prop} {g d:_} {os:OsState} {tok0:Nat} {ora:List (Option Obj)} (hk:K.In h) (n:Nat) (t:Sem α) (l:List Obj) (k:Nat) (cs:List (Kj×Obj)) (i:Nat) {a:α} {l':List Obj} {cs':List (Kj×Obj)}
  (e:d6 K ⟨PW,w.params⟩ h.objs.size tok0 ora n t l k cs i=some (a,l',k',cs')) (hc:∀p∈cs',h.get? p.1=some p.2) (q:Q a ⟨dK h l',g,d,tok0 + k',os⟩):J6 (Kx PW w) A t Q E ⟨dK h l,g,d,tok0 + k,os⟩/\∀p∈cs,h.get? p.1=some p.2:=by
 induction n generalizing t l k cs i with
 | zero=>exact nS e
 | succ n ih=>
  cases t with
  | pure a=>cases e;exact⟨nd_pure q,hc⟩
  | rule s c=>exact(ih _ _ _ _ _ e).imp_left nd_rule
  | «at» p c=>exact(ih _ _ _ _ _ e).imp_left fun z Γ p' hΓ=>z Γ p hΓ
  | point p c=>exact(ih _ _ _ _ _ e).imp_left nd_point
  | ask c=>exact(ih _ _ _ _ _ e).imp_left nd_ask
  | fresh c=>exact(ih _ _ _ _ _ e).imp_left nd_fresh
  | alloc o c=>
   replace e:(match o.isFreed with | false=>d6 K ⟨PW,w.params⟩ h.objs.size tok0 ora n (c (h.objs.size + l.length)) (l++[o]) k cs i | true=>none)=_:=e
   cases ho:o.isFreed with
   | true=>rw[ho] at e;exact nS e
   | false=>
    rw[ho] at e
    refine(ih _ _ _ _ _ e).imp_left fun z=>nd_alloc ?_
    dsimp only
    rw[jI,<- js]
    exact z
  | load a p c=>
   replace e:(match ora.getD i none with
    | some o=>d6 K ⟨PW,w.params⟩ h.objs.size tok0 ora n (c o) l k (cs++[(a,o)]) (i + 1)
    | none=>(K.lookup a).bind fun o=>d6 K ⟨PW,w.params⟩ h.objs.size tok0 ora n (c o) l k cs (i + 1))=_:=e
   cases ho:ora.getD i none with
   | none=>
    rw[ho] at e
    obtain⟨o,ho,e⟩:=Option.bind_eq_some_iff.mp e
    exact(ih _ _ _ _ _ e).imp_left (nd_load (cR l h _ _ (hk _ _ ho)))
   | some o=>
    rw[ho] at e
    have z:=ih _ _ _ _ _ e
    exact⟨nd_load (cR l h _ _ (z.2 (a,o) (Kt _ (.head _)))) z.1,fun p hp=>z.2 p (KD _ hp)⟩
  | _=>exact nS e
theorem HR.dead (x:HR P ρ os h) (ha:h.objs.size <=a) (h0:N0 <=h.objs.size) (k:Gr h h') (hb:h'.get? a=some ob):HR P (ρ++[a]) (os++[.dead]) h':=x.push ha h0 k hb trivial
theorem pX (l:List Obj):∀(h:Heap) (i:Nat) (o:Obj),l[i]?=some o->o.isFreed=false->(dK h l).get? (h.objs.size + i)=some o:=by
 induction l with
 | nil=>intro h i o e hf;rw[List.getElem?_nil] at e;exact nS e
 | cons x r ih=>
  intro h i o e hf
  cases i with
  | zero=>
   rw[List.getElem?_cons_zero] at e
   cases e
   exact cR r _ _ _ (Ku _ hf)
  | succ i=>
   rw[Nr] at e
   have:=ih (h.push x) i o e hf
   have e2:(h.push x).objs.size=h.objs.size + 1:=NK ..
   rw[e2] at this
   rw[show h.objs.size + (i + 1)=h.objs.size + 1 + i by lia]
   exact this
theorem n6:entryFor table "re.Pattern.search"=some Builtin.«re.Pattern.search»:=M7 ∅
theorem oP {as:Args}:(NM "re.Pattern.search" as).quiet=true:=Mx _ (by decide +kernel)
noncomputable def FY (w:J9) (k base t0 t:Nat):=d6 (KL w.params) ⟨PW,w.params⟩ base t0 [] 400 (Builtin.«re.Pattern.search» ⟨[.ref 183,.str (wdN k) t],[]⟩) [] 0 [] 0
noncomputable def FN (w:J9) (k base t0 t:Nat):List Obj:=((FY w k base t0 t).map (·.2.1)).getD []
theorem EA (w:J9) (base t0 t:Nat):∀k,k < 8->FY w k base t0 t=some (.done (.ret (.ref (base + 1))),FN w k base t0 t,0,[])/\((FN w k base t0 t)[1]?.map Obj.isFreed)=some false
 | 0,_=>⟨∅,∅⟩
 | 1,_=>⟨∅,∅⟩
 | 2,_=>⟨∅,∅⟩
 | 3,_=>⟨∅,∅⟩
 | 4,_=>⟨∅,∅⟩
 | 5,_=>⟨∅,∅⟩
 | 6,_=>⟨∅,∅⟩
 | 7,_=>⟨∅,∅⟩
 | _ + 8,h=>by lia
theorem yU (w:J9) (base t0 t:Nat) (x:Str):d6 (KL w.params) ⟨PW,w.params⟩ base t0 [] 400 (callAny (.ref 886) ⟨[.str x t],[]⟩) [] 0 [] 0=some (.again (.builtin "re.Pattern.search" ⟨[.ref 183,.str x t],[]⟩),[],0,[]):=∅
theorem Cl.search (hk:k < 8):Cl (aa w) D (.top (.ref 886)) [.str (wdN k)] [] os (.ref os.length) (os++[.dead]):=fk fun ρ f y hf hy=>by
 obtain rfl:f=.ref 886:=hf
 obtain⟨t,rfl⟩:=hy
 intro A s hr hh hK
 obtain⟨h,gs,d,tk,o⟩:=s
 refine Ll (KV ?_)
 refine(mn (K:=KL w.params) (tok0:=tk) hK 400 _ [] 0 [] 0 (yU w _ tk t _) (fun _ h=>nomatch h) ⟨oP,Mh n6 ?_⟩).1
 obtain⟨h1,h2⟩:=EA w h.objs.size tk t k hk
 refine(mn (K:=KL w.params) (tok0:=tk) hK 400 _ [] 0 [] 0 h1 (fun _ h=>nomatch h) ?_).1
 obtain⟨ob,e1,e2⟩:=Option.map_eq_some_iff.mp h2
 have hb:=aV (g:=aa w) hK
 have lo:h.objs.size <=h.objs.size + 1:=by lia
 have new:h.get? (h.objs.size + 1)=none:=by
  cases q:h.get? (h.objs.size + 1) with
  | none=>rfl
  | some o=>exact absurd (show h.objs.size + 1 < h.objs.size from KJ q) (by lia)
 refine⟨ρ++[h.objs.size + 1],⟨h.objs.size + 1,by rw[<- hh.len];simp,rfl⟩,hh.dead (h:=h) lo hb (cR _ _) (pX _ _ _ _ e1 e2),.of ⟨_,rfl,fun a ha=>?_⟩ (fun b o e _ _=>cR _ _ _ _ e) (fun b o e=>⟨o,cR _ _ _ _ e⟩) rfl rfl⟩
 simp at ha;subst ha;exact new
set_option backward.match.sparseCases true in
theorem dv (env:Env) (l₁ l₂:List Kz):Lq (l₁++l₂) env=(Lq l₁ env >>=fun f=>match f with | .next=>Lq l₂ env | f=>pure f):=by
 induction l₁ with
 | nil=>show _=(pure Flow.next >>=_);rw[pure_bind];rfl
 | cons st r ih=>
  show(exec st env >>=fun f=>match f with | .next=>Lq (r++l₂) env | f=>pure f)=((exec st env >>=fun f=>match f with | .next=>Lq r env | f=>pure f) >>=_)
  rw[bind_assoc]
  refine congrArg _ (funext fun f=>?_)
  cases f <;> first | exact ih | (show _=(pure _ >>=_);rw[pure_bind])
theorem Exs.app (h:Exs g D sc σ l₁ .next σ₁) (k:Exs g D sc σ₁ l₂ f σ₂):Exs g D sc σ (l₁++l₂) f σ₂:=fun A env ρ s he hr hs=>by
 show J6 _ _ (Lq (l₁++l₂) env) _ _ _
 rw[dv]
 refine J7 (h.use he hr hs fun x s1 ρ1 r1 st1 g1=>?_)
 obtain rfl:x=.next:=r1
 exact k.use he hr st1 fun y s2 ρ2 r2 st2 g2=>⟨ρ2,r2,st2,g1.trans g2⟩
theorem Exs.split {l:List Kz} (n:Nat) (h:Exs g D sc σ (l.take n) .next σ₁) (k:Exs g D sc σ₁ (l.drop n) f σ₂):Exs g D sc σ l f σ₂:=by
 have:=h.app k
 rwa [NH] at this
theorem Ev.addReplace {c y z:Str} {k0 k1 k2:Nat} {p0 ap:Pos} {v:Str} (hn:nm=J8 "replace") (hx:sc.names.lookup x=some .local) (hv:σ.loc.lookup x=some (.str v)) (hd:(x==("__debug__" : Str))=false)
  (hyz:(y==z)=false) (hl:v.length <=1048576) (hz:z.length <=14) (hs:c.length + (NX v y z).length <=Kg) (hc:bJ ap cp 2=true) :
  Ev g D sc σ (.BinOp (.Constant (.str c) k0 p0) .Add (.Call (.Attribute (.Name x px) nm ap) [.Constant (.str y) k1 p1,.Constant (.str z) k2 p2] [] cp) pos) (.str (c++NX v y z)) σ:=fun A env ρ s he hr hst=>by
 subst hn
 refine wpAny_BinOp (MU ?_)
 show J6 _ _ (KP (.Call (.Attribute (.Name x px) (J8 "replace") ap) [.Constant (.str y) k1 p1,.Constant (.str z) k2 p2] [] cp) env) _ _ _
 rw[eA rfl hc rfl rfl]
 refine J7 ?_
 have st1:=hst.toks (s.toks + 1)
 subst he
 obtain⟨m,hm,hlm⟩:=st1.er.loc
 have hy:=hlm x hx
 rw[hv] at hy
 cases hmx:m x with
 | none=>rw[hmx] at hy;exact hy.elim
 | some w=>
  rw[hmx] at hy
  obtain⟨t,rfl⟩:=hy
  refine Mk (Mq st1.er.kind hx hm hmx ?_) hd
  refine J7 (KT (J7 (KQ (PySem.GM.replace ?_))))
  rw[aF (by rfl),aO]
  refine bd (bc (bM _) (bD rfl) (NQ (MU (NQ (MU (spliced_nil (kwAll_nil ?_)))))))
  refine Kb ?_
  refine PySem.SC.replaceW (by show s.toks + 1≠0;lia) (by show s.toks + 1 + 1≠0;lia) (by show s.toks + 1≠s.toks + 1 + 1;lia) hyz hl hz fun t' k=>?_
  have st2:=hst.toks k
  exact PyProof.Rows.add_str (fun t'' tk=>⟨ρ,⟨_,rfl⟩,hst.toks _,Go.toks ..⟩) hs
noncomputable def FU:Obj:=⟨.type "builtin_function_or_method",none,.fields #[.builtin "re.Pattern.search",.ref 183],#[]⟩
theorem AZ (P:K5):(KL P).lookup 886=some FU:=∅
theorem Kp.fu:Kp (aa w) os (.top (.ref 886)):=fun A ρ s x Q E hx hh hk q=>by
 obtain rfl:x=.ref 886:=hx
 unfold keeperOf
 refine J7 (LA (hk _ _ (AZ w.params)) ?_)
 exact Kb (q _)
noncomputable def lL (x:Str):Nat->Option Nat
 | 0=>none
 | n + 1=>match sq x (wdN n) with
  | true=>some n
  | false=>lL x n
theorem oY (h:lL x n=some k):k < n/\x=wdN k:=by
 induction n with
 | zero=>exact nS h
 | succ n ih=>
  replace h:(match sq x (wdN n) with
   | true=>some n
   | false=>lL x n)=some k:=h
  cases q:sq x (wdN n) with
  | true=>rw[q] at h;cases h;exact⟨Nat.lt_succ_self _,sq_ok q⟩
  | false=>rw[q] at h;exact⟨Nat.lt_succ_of_lt (ih h).1,(ih h).2⟩
noncomputable def GQ (w:J9) (D:Nat):CT (aa w) D:=fun f args kw os=>match f,args,kw with
 | .top (.ref a),[.str x],[]=>if h:a=886 then(match hk:lL x 8 with
   | some k=>some ⟨.ref os.length,os++[.dead],[],fun _=>by
     obtain⟨h1,rfl⟩:=oY hk
     subst h
     exact Cl.search h1⟩
   | none=>none) else none
 | _,_,_=>none
noncomputable def XQ (w:J9) (D:Nat):CX (aa w) D:={ X0 w D (GQ w D) with
 xk:=fun os f=>match f with
  | .top (.ref a)=>if h:a=886 then some ⟨h▸Kp.fu⟩ else none
  | _=>none }
noncomputable def aI (k:Nat):Str:=⟨#[39,if k % 2==0 then 97 else 65,39,34,39,34,39,if k / 2 % 2==0 then 98 else 66,if k / 4==0 then 99 else 67,39]⟩
theorem Ik:∀x,K2 nH ⟨[x],[]⟩=pure [(J8 "s",x)]:=fun x=>∅
noncomputable def BB (n v:Str):List (Str×V)->Bool
 | []=>false
 | p::r=>r.isEmpty&&sq p.1 n&&(match p.2 with
  | .str u=>sq u v
  | _=>false)
theorem AI {n v:Str} {l:List (Str×V)} (h:BB n v l=true):l=[(n,.str v)]:=by
 cases l with
 | nil=>exact nB h
 | cons p r=>
  obtain⟨m,u⟩:=p
  obtain⟨h,h3⟩:=Bool.and_eq_true_iff.mp h
  obtain⟨h1,h2⟩:=Bool.and_eq_true_iff.mp h
  cases MO.mp h1
  cases sq_ok h2
  cases u with
  | str u=>cases sq_ok h3;rfl
  | _=>exact nB h3
noncomputable def xW {st:List Kz} (x:Option (uG g D sc σ st)) (n v:Str):Bool:=x.any fun r=>tD r.c&&l7 r.v&&BB n v r.s.loc
theorem vl {st:List Kz} {x:Option (uG g D sc σ st)} {n v:Str} (h:xW x n v=true):∃os',Exs g D sc σ st .next ⟨os',[(n,.str v)]⟩:=by
 obtain⟨r,_,h⟩:=bh h
 obtain⟨h,h3⟩:=Bool.and_eq_true_iff.mp h
 obtain⟨h1,h2⟩:=Bool.and_eq_true_iff.mp h
 have z:=r.ok (lx h1)
 rw[mM h2] at z
 exact⟨r.s.os,by rw[<- AI h3];exact z⟩
theorem ro (w:J9):(K0 8).all (fun k=>xW (Cs (XQ w 0) (bt 39).2.2 40 ((bt 39).2.1.take 2) ⟨[],[(J8 "s",.str (wdN k))]⟩ {}) "s" (wdN k))=true:=∅
noncomputable def FL (k:Nat):Bool:=((wdN k).length <=1048576)&&((J8 "'").length + (NX (wdN k) "'" "'\"'\"'").length <=Kg)&&sq (J8 "'"++NX (wdN k) "'" "'\"'\"'"++J8 "'") (aI k)&&((J8 "'"++NX (wdN k) "'" "'\"'\"'").length + (J8 "'").length <=Kg)
theorem CH:(K0 8).all FL=true:=∅
theorem tM (w:J9) (k:Nat) (hk:k < 8):∃os',Cl (aa w) 1 (.top (.ref 893)) [.str (wdN k)] [] [] (.str (aI k)) os':=by
 obtain⟨os',h⟩:=vl (List.all_eq_true.mp (ro w) k (List.mem_range.mpr hk))
 have q:=List.all_eq_true.mp CH k (List.mem_range.mpr hk)
 simp only[FL,Kk,decide_eq_true_eq] at q
 obtain⟨⟨⟨q1,q2⟩,q3⟩,q4⟩:=q
 have hb:o9 nH.scope [(J8 "s",.str (wdN k))]=true:=∅
 have hx:(bt 39).2.2.names.lookup (J8 "s")=some .local:=by rw[<- bo];kernel_rfl
 have z:Exs (aa w) 0 (bt 39).2.2 ⟨os',[(J8 "s",.str (wdN k))]⟩ ((bt 39).2.1.drop 2) (.ret (.str (aI k))) ⟨os',[(J8 "s",.str (wdN k))]⟩:=by
  rw[<- sq_ok q3]
  refine Exs.stop (Ex.ret (Ev.bin (Ev.addReplace rfl hx ?_ ?_ ?_ q1 ?_ q2 ?_) Ev.strC (bn.addS q4))) (by nofun)
  .rw[<- bo];kernel_rfl
  .rw[<- ca];kernel_rfl
  .rw[<- ca];kernel_rfl
  .decide
  .rfl
 exact⟨os',Cl.def_ (xn w) (bf.of1 Ik) (eu hb).1 (eu hb).2 (h.split 2 z) rfl ⟨nofun,nofun⟩⟩
theorem i5 (w:J9) (k:Nat) (hk:k < 8) (os:List O):Cl (aa w) 1 (.top (.ref 893)) [.str (wdN k)] [] os (.str (aI k)) os:=
 let⟨μ,h⟩:=tM w k hk
 h.pure rfl rfl rfl rfl os
noncomputable def QF:Str:="'%s'\"'\"'%s'"
noncomputable def aN (k:Nat):Str:=⟨#[if k % 2==0 then 97 else 65]⟩
noncomputable def uc (k:Nat):Str:=⟨#[if k / 2 % 2==0 then 98 else 66,if k / 4==0 then 99 else 67]⟩
noncomputable def B8 (a b:Str) (ta tb n:Nat):Obj:=⟨.type "tuple",none,.seq #[.str a ta,.str b tb] n,#[]⟩
theorem EZ (w:J9) (base t0 t b ta tb n:Nat):∀k,k < 8->d6 (KL w.params) ⟨PW,w.params⟩ base t0 (L5 4 (some (B8 (aN k) (uc k) ta tb n))) 1000 (Builtin.«str.__mod__» ⟨[.str QF t,.ref b],[]⟩) [] 0 [] 0=
  some (.done (.ret (.str (aI k) t0)),[],1,L5 4 (b,B8 (aN k) (uc k) ta tb n))
 | 0,_=>∅
 | 1,_=>∅
 | 2,_=>∅
 | 3,_=>∅
 | 4,_=>∅
 | 5,_=>∅
 | 6,_=>∅
 | 7,_=>∅
 | _ + 8,h=>by lia
theorem bn.modQ (hk:k < 8) (ho:os[i]?=some (.tuple [.str (aN k),.str (uc k)])):bn (aa w) D .Mod (.str QF) (.ref i) os (.str (aI k)) os:=fun ρ x y hx hy=>by
 obtain⟨t,rfl⟩:=hx
 intro A s hr hh hK
 obtain⟨b,vs,n,rfl,ha,e,r⟩:=hh.tuple ho hy
 have hT:s.TypeIs (.ref b) "tuple":=⟨_,e,rfl⟩
 have ob':∃ta tb,vs=#[.str (aN k) ta,.str (uc k) tb]:=by
  obtain⟨l⟩:=vs
  cases r with
  | cons r1 rs=>
   cases rs with
   | cons r2 rs=>
    cases rs
    obtain⟨ta,rfl⟩:=r1
    obtain⟨tb,rfl⟩:=r2
    exact⟨ta,tb,rfl⟩
 obtain⟨ta,tb,rfl⟩:=ob'
 refine KPt.bin_left (T:="str") (U:="tuple") (op:=.Mod) (by decide) (typeIs_str s _ t) hT F.fills_str_mod KPt.fills_tuple F.slot_str_mod ?_
 refine M6 F.slot_str_mod (typeIs_str s _ t) F.entry_str_mod ?_ (F.args_str_mod_2 _ _)
 obtain⟨h,gs,d,tk,o⟩:=s
 refine(mn (E:=fun _ _=>False) (A:=A.in1) (K:=KL w.params) (tok0:=tk) hK 1000 _ [] 0 [] 0 (EZ w h.objs.size tk t b ta tb n k hk) (fun p hp=>?_) ⟨_,rfl,nofun,?_⟩).1
 .rw[(List.mem_replicate.mp hp).2];exact e
 .exact⟨ρ,⟨_,rfl⟩,hh,Go.toks ..⟩
noncomputable def Iq (w:J9) (D:Nat) (op:MF) (a b:V) (os:List O):Option (LR fun v os'=>bn (aa w) D op a b os v os'):=match op,a,b with
 | .Mod,.str f,.ref i=>if hf:sq f QF=true then(match ho:os[i]? with
  | some (.tuple [.str x,.str y])=>(match hk:(K0 8).find? (fun k=>(sq x (aN k)).and (sq y (uc k))) with
   | some k=>some ⟨.str (aI k),os,[],fun _=>by
     have h1:=List.find?_some hk
     have h2:=List.mem_range.mp (List.mem_of_find?_eq_some hk)
     simp only[Kk] at h1
     obtain rfl:=sq_ok hf
     obtain rfl:=sq_ok h1.1
     obtain rfl:=sq_ok h1.2
     exact bn.modQ h2 ho⟩
   | none=>none)
  | _=>none) else none
 | _,_,_=>none
noncomputable def JR (w:J9) (D:Nat) (hD:1 <=D):CT (aa w) D:=fun f args kw os=>match f,args,kw with
 | .top (.ref a),[.int i],[]=>if ha:a=900 then(if hi:0 <=i/\i < 8 then some ⟨.str (wdN i.toNat),os,[],fun _=>by
     have:=gj w i.toNat (by lia) os
     rw[Nc hi.1] at this
     exact ha▸this.up hD⟩ else none)
   else if ha:a=914 then(if hi:0 <=i/\i < 8 then some ⟨.int (szN i.toNat),os,[],fun _=>by
     have:=iG w i.toNat (by lia) os
     rw[Nc hi.1] at this
     exact ha▸this.up hD⟩ else none)
   else none
 | .top (.ref a),[.str x],[]=>if ha:a=893 then(match hk:lL x 8 with
   | some k=>some ⟨.str (aI k),os,[],fun _=>by
     obtain⟨h1,rfl⟩:=oY hk
     exact ha▸(i5 w k h1 os).up hD⟩
   | none=>none) else none
 | _,_,_=>none
noncomputable def X1 (w:J9):CX (aa w) 1:={ X0 w 1 (JR w 1 (Km _)) with xb:=Iq w 1 }
theorem pU (w:J9):(K0 8).all (fun k=>mN (iF (X1 w) 40 (DT w) (.p1 _ GJ) {} [.int k] []) (.str (aI k)))=true:=∅
theorem uh (w:J9) (k:Nat) (hk:k < 8) (os:List O):Cl (aa w) 2 (.top (.ref 907)) [.int k] [] os (.str (aI k)) os:=by
 obtain⟨μ,h,hv⟩:=gy (List.all_eq_true.mp (pU w) k (List.mem_range.mpr hk))
 exact h.pure hv rfl rfl rfl os
open PySem.SeqAt PySem.MeetsSeq
theorem ae.drop {R:α->β->Prop} {l:List α} (n:Nat) (h:ae R l l'):ae R (l.drop n) (l'.drop n):=by
 induction h generalizing n with
 | nil=>cases n <;> exact .nil
 | cons a r ih=>cases n with
  | zero=>exact .cons a r
  | succ n=>exact ih n
theorem ae.take {R:α->β->Prop} {l:List α} (n:Nat) (h:ae R l l'):ae R (l.take n) (l'.take n):=by
 induction h generalizing n with
 | nil=>cases n <;> exact .nil
 | cons a r ih=>cases n with
  | zero=>exact .nil
  | succ n=>exact .cons a (ih n)
noncomputable def kI (xs:List V) (lo hi:Option Int):List V:=(xs.drop (lo.elim 0 (clipAt xs.length))).take (hi.elim xs.length (clipAt xs.length) - lo.elim 0 (clipAt xs.length))
theorem gR {l:V} (hb:du l=true) (h:RelV ρ l y):IsPart y (bound l):=by
 cases l with
 | int i=>obtain⟨t,rfl⟩:=h;exact .int i t
 | none=>cases h;exact .none
 | _=>exact nB hb
theorem db.list {xs:List V} {l:V} (ho:os[i]?=some (.list xs)) (hl:du l=true) (hu:du u=true) (hz:xs.length <=Kg):db g D (.ref i) l u os (.ref os.length) (os++[.list (kI xs (bound l) (bound u))]):=
  fun value lo hi p ρ x y z hx hy hz' A s hr hh hk=>by
 obtain⟨a,vs,n,rfl,ha,e,r⟩:=hh.list ho hx
 have len:vs.size=xs.length:=by rw[<- KH];exact r.length
 have hN:=aV hk
 refine L7 ?_
 have hL:({ s with heap:=s.heap.push { cls:=.type "slice",data:=.fields #[y,z,.none] } }:Kl).heap.IsList a vs:=(ax e).push _
 refine LB (ops:=[.ref s.heap.objs.size,.ref a]) hL.typeIs slot_list_getitem.lookup (Nk hL (NZ ..) (gR hl hy) (gR hu hz') .none (by simp) ?_ (by rw[len];exact hz)) rfl
 have sz:(s.heap.push { cls:=.type "slice",data:=.fields #[y,z,.none] }).objs.size=s.heap.objs.size + 1:=L6 ..
 have gr:Gr s.heap ((s.heap.push { cls:=.type "slice",data:=.fields #[y,z,.none] }).push { cls:=.type "list",data:=.seq (MX vs (bound l) (bound u) none) }):=((Gr.refl _).push _).push _
 have hob:((s.heap.push { cls:=.type "slice",data:=.fields #[y,z,.none] }).push { cls:=.type "list",data:=.seq (MX vs (bound l) (bound u) none) }).get? (s.heap.objs.size + 1)=some ⟨.type "list",none,.seq (MX vs (bound l) (bound u) none) 0,#[]⟩:=by
  have:=Ku (s.heap.push { cls:=.type "slice",data:=.fields #[y,z,.none] }) (o:={ cls:=.type "list",data:=.seq (MX vs (bound l) (bound u) none) }) rfl
  rw[sz] at this;exact this
 have new:s.heap.get? (s.heap.objs.size + 1)=none:=by
  cases q:s.heap.get? (s.heap.objs.size + 1) with
  | none=>rfl
  | some o=>exact absurd (show s.heap.objs.size + 1 < s.heap.objs.size from KJ q) (by lia)
 refine⟨ρ++[s.heap.objs.size + 1],⟨s.heap.objs.size + 1,by rw[<- hh.len];simp,by rw[sz]⟩,hh.push (MZ _) hN gr hob ⟨_,0,rfl,?_⟩,.of ⟨_,rfl,fun b hb=>?_⟩ (fun b o e _ _=>gr _ _ e) (fun b o e=>⟨o,gr _ _ e⟩) rfl rfl⟩
 .rw[slicePick_plain]
  unfold kI
  rw[len]
  exact((r.drop _).take _).mono fun _ _=>RelV.mono
 .simp at hb;subst hb;exact new
theorem bn.addL {xs:List V} (hi:os[i]?=some (.list xs)) (hj:os[j]?=some (.list ys)) (hz:xs.length + ys.length <=Kg):bn g D .Add (.ref i) (.ref j) os (.ref os.length) (os++[.list (xs++ys)]):=fun ρ x y hx hy A s hr hh hk=>by
 obtain⟨a,vs,n,rfl,ha,e,r⟩:=hh.list hi hx
 obtain⟨b,us,m,rfl,hb,e',r'⟩:=hh.list hj hy
 have l1:vs.size=xs.length:=by rw[<- KH];exact r.length
 have l2:us.size=ys.length:=by rw[<- KH];exact r'.length
 refine PySem.P.add_list e e' ?_ (by rw[l1,l2];exact hz)
 obtain⟨ρ',q1,q2,q3⟩:=nJ (g:=g) (o:=.list (xs++ys)) (tk:=s.toks) hh hk (ob:={ cls:=.type "list",data:=.seq (vs++us) }) rfl fun a=>⟨_,0,rfl,by rw[NU];exact(r'.append r).mono fun _ _=>RelV.mono⟩
 exact⟨ρ',q1,q2,q3⟩
noncomputable def qI (f:V->V->Option Bool):List V->List V->Option (List Bool)
 | [],ys=>(match ys with
  | []=>some []
  | _::_=>none)
 | x::xs,ys=>match ys with
  | []=>none
  | y::ys=>(f x y).bind fun b=>(qI f xs ys).map (b::·)
noncomputable def kO (os:List O) (i:Nat):Option (List V):=os[i]?.bind fun o=>match o with
 | .list xs=>some xs
 | _=>none
theorem qE {xs:List V} (h:kO os i=some xs):os[i]?=some (.list xs):=by
 obtain⟨o,e,q⟩:=Option.bind_eq_some_iff.mp h
 cases o with
 | list _=>cases q;exact e
 | _=>exact nS q
theorem jZ {xs:List V} (h:os[i]?=some (.list xs)):kO os i=some xs:=by rw[kO,h];rfl
noncomputable def mW (os:List O) (f:V->V->Option Bool) (i j:Nat):Option Bool:=match Lw i j with
 | true=>none
 | false=>(kO os i).bind fun xs=>(kO os j).bind fun ys=>match Lw xs.length ys.length with
  | true=>(qI f xs ys).map fun l=>l.all id
  | false=>some false
noncomputable def iI (os:List O):Nat->V->V->Option Bool
 | 0,a,b=>qF a b
 | n + 1,a,b=>match a with
  | .ref i=>(match b with
   | .ref j=>mW os (iI os n) i j
   | _=>none)
  | _=>qF a b
theorem AX {f:V->V->Option Bool} {xs:List V} (hi:os[i]?=some (.list xs)) (hj:os[j]?=some (.list ys)) (ne:i≠j) (h:Lw xs.length ys.length=true):mW os f i j=(qI f xs ys).map fun l=>l.all id:=by
 unfold mW
 cases q:Lw i j with
 | true=>exact absurd (MC q) ne
 | false=>
  show(kO os i).bind _=_
  rw[jZ hi,jZ hj]
  show(match Lw xs.length ys.length with | true=>_ | false=>_)=_
  rw[h]
theorem qk {f:V->V->Option Bool} {xs:List V} (hi:os[i]?=some (.list xs)) (hj:os[j]?=some (.list [])) (ne:i≠j):mW os f i j=some xs.isEmpty:=by
 unfold mW
 cases q:Lw i j with
 | true=>exact absurd (MC q) ne
 | false=>
  show(kO os i).bind _=_
  rw[jZ hi,jZ hj]
  cases xs <;> rfl
theorem zl {f:V->V->Option Bool} {xs:List V} {r:List Bool} (h:qI f xs ys=some r):r.length=xs.length/\ys.length=xs.length/\∀(k:Nat) x y,xs[k]?=some x->ys[k]?=some y->∃b,r[k]?=some b/\f x y=some b:=by
 induction xs generalizing ys r with
 | nil=>cases ys with
  | nil=>cases h;exact⟨rfl,rfl,fun k x y h=>(nomatch h)⟩
  | cons _ _=>exact nS h
 | cons x xs ih=>cases ys with
  | nil=>exact nS h
  | cons y ys=>
   obtain⟨b,h1,h⟩:=Option.bind_eq_some_iff.mp h
   obtain⟨r',h2,rfl⟩:=Option.map_eq_some_iff.mp h
   obtain⟨l1,l2,g⟩:=ih h2
   refine⟨congrArg Nat.succ l1,congrArg Nat.succ l2,fun k u v hu hv=>?_⟩
   cases k with
   | zero=>cases hu;cases hv;exact⟨b,rfl,h1⟩
   | succ k=>exact g k u v hu hv
theorem pe {P:K5} {a b:V} {r:Bool} {x:Kd} (h:qF a b=some r) (hx:RelV ρ a x) (hy:RelV ρ b y):EqAt A s x y r/\RcAt A s x y r:=by
 rcases eq0_inv h with⟨p,q,rfl,rfl,rfl⟩ | ⟨p,q,rfl,rfl,rfl⟩
 .obtain⟨t,rfl⟩:=hx;obtain⟨u,rfl⟩:=hy;exact⟨EqAt.int_int _ _ _ _,RcAt.int_int _ _ _ _⟩
 .obtain⟨t,rfl⟩:=hx;obtain⟨u,rfl⟩:=hy;rw[ca];exact⟨EqAt.str_str _ _ _ _,RcAt.str_str _ _ _ _⟩
theorem BI (hh:HR P ρ os s.heap) {f:V->V->Option Bool} (hu:A.units < cLine) (ih:∀{u v:V} {b:Bool} {x y:Kd},f u v=some b->RelV ρ u x->RelV ρ v y->EqAt A.in1 s x y b)
  {r:Bool} {x:Kd} (h:mW os f i j=some r) (hx:RelV ρ (.ref i) x) (hy:RelV ρ (.ref j) y):EqAt A s x y r/\RcAt A s x y r/\RcNeAt A s x y (!r):=by
 unfold mW at h
 cases hij:Lw i j with
 | true=>rw[hij] at h;exact nS h
 | false=>
 rw[hij] at h
 have hij':i≠j:=fun e=>by rw[e,Nat.beq_refl] at hij;cases hij
 obtain⟨xs,hi,h⟩:=Option.bind_eq_some_iff.mp h
 obtain⟨ys,hj,h⟩:=Option.bind_eq_some_iff.mp h
 obtain⟨p,vs,m,rfl,hp,e1,r1⟩:=hh.list (qE hi) hx
 obtain⟨q,us,m',rfl,hq,e2,r2⟩:=hh.list (qE hj) hy
 have hne:p≠q:=fun e=>by subst e;exact hij' (eg hh.nd hp hq)
 have l1:vs.size=xs.length:=by rw[<- KH];exact r1.length
 have l2:us.size=ys.length:=by rw[<- KH];exact r2.length
 cases hl:Lw xs.length ys.length with
 | true=>
  rw[hl] at h
  have hl':=MC hl
  obtain⟨bs,hb,rfl⟩:=Option.map_eq_some_iff.mp h
  obtain⟨k1,k2,k3⟩:=zl hb
  have he:∀j (h1:j < vs.size) (h2:j < us.size),EqAt A.in1 s vs[j] us[j] (bs.getD j true):=fun k h1 h2=>by
   have kx:k < xs.length:=l1▸h1
   have ky:k < ys.length:=l2▸h2
   obtain⟨u',hu2,hu3⟩:=r1.arr (Kc kx)
   obtain⟨v',hv2,hv3⟩:=r2.arr (Kc ky)
   rw[MG h1] at hu2
   rw[MG h2] at hv2
   cases hu2;cases hv2
   obtain⟨b,q1,q2⟩:=k3 k _ _ (Kc kx) (Kc ky)
   rw[Kh,q1]
   exact ih q2 hu3 hv3
  have hall:(K0 vs.size).all (fun j=>bs.getD j true)=bs.all id:=by
   rw[l1,<- k1,NN,List.all_eq_true,List.all_eq_true]
   constructor
   .intro q b hb
    obtain⟨k,hk⟩:=List.mem_iff_getElem?.mp hb
    have:=q k (List.mem_range.mpr (List.getElem?_eq_some_iff.mp hk).1)
    rw[Kh,hk] at this
    exact this
   .intro q k hk
    rw[Kh,Kc (List.mem_range.mp hk)]
    exact q _ (Lk _)
  have ez:vs.size=us.size:=l1.trans (hl'.trans l2.symm)
  have rc:=RcAt.lists (A:=A) (ax e1) (ax e2) ez hu he
  have rn:=RcNeAt.lists (A:=A) (ax e1) (ax e2) ez hu he
  rw[hall] at rc rn
  exact⟨.of_refs hne rc,rc,rn⟩
 | false=>
  rw[hl] at h
  cases h
  have hsz:(vs.size !=us.size)=true:=bne_iff_ne.mpr fun e=>by
   rw[<- l1,<- l2,e,Nat.beq_refl] at hl
   cases hl
  have rc:=RcAt.lists_lengths (A:=A) (ax e1) (ax e2) hsz hu
  exact⟨.of_refs hne rc,rc,RcNeAt.lists_lengths (A:=A) (ax e1) (ax e2) hsz hu⟩
theorem te (hh:HR P ρ os s.heap) (n:Nat) (A:Lj) {a b:V} {r:Bool} {x:Kd} (hu:A.units + n < cLine + 1) (h:iI os n a b=some r) (hx:RelV ρ a x) (hy:RelV ρ b y):EqAt A s x y r/\RcAt A s x y r/\(∀i j,a=.ref i->b=.ref j->RcNeAt A s x y (!r)):=by
 induction n generalizing A a b r x y with
 | zero=>
  have k:=pe (P:=P) (A:=A) (s:=s) h hx hy
  exact⟨k.1,k.2,fun i j ea eb=>by subst ea;exact nS h⟩
 | succ n ih=>
  cases a with
  | ref i=>cases b with
   | ref j=>
    have k:=BI hh (by lia) (fun h hx hy=>(ih A.in1 (by show A.units + 1 + n < _;lia) h hx hy).1) h hx hy
    exact⟨k.1,k.2.1,fun _ _ _ _=>k.2.2⟩
   | _=>exact nS h
  | int i=>
   have k:=pe (P:=P) (A:=A) (s:=s) (a:=.int i) h hx hy
   exact⟨k.1,k.2,fun i j ea=>nomatch ea⟩
  | str i=>
   have k:=pe (P:=P) (A:=A) (s:=s) (a:=.str i) h hx hy
   exact⟨k.1,k.2,fun i j ea=>nomatch ea⟩
  | _=>exact nS h
theorem ak.eqL {r:Bool} (h:iI os n (.ref i) (.ref j)=some r) (hn:n <=40 * D + 1):ak g D .Eq (.ref i) (.ref j) os (.bool r) os:=fun ρ x y hx hy=>Lf.pure fun A s hr hh hk=>by
 have hu:=hr.units
 exact(te hh n A (by lia) h hx hy).2.1 PW g.w _ _ ⟨rfl,rfl,rfl,rfl⟩
theorem ak.neL {r:Bool} (h:iI os n (.ref i) (.ref j)=some r) (hn:n <=40 * D + 1):ak g D .NotEq (.ref i) (.ref j) os (.bool (!r)) os:=fun ρ x y hx hy=>Lf.pure fun A s hr hh hk=>by
 have hu:=hr.units
 exact(te hh n A (by lia) h hx hy).2.2 i j rfl rfl PW g.w _ _ ⟨rfl,rfl,rfl,rfl⟩
noncomputable def ll (a:V):List V->Option Bool
 | []=>some false
 | y::r=>(qF y a).bind fun b=>(ll a r).map b.or
theorem nW {a:V} {x:Kd} (hx:RelV ρ a x) {xs:List V} {vs:List Kd} {r:Bool} (h:ll a xs=some r) (hr:ae (RelV ρ) xs vs):∃e:Kd->Bool,(∀y∈vs,EqGives y x (e y))/\vs.any e=r:=by
 let e:Kd->Bool:=fun y=>match y with
  | .int p _=>(match x with
   | .int q _=>p==q
   | _=>false)
  | .str p _=>(match x with
   | .str q _=>p==q
   | _=>false)
  | _=>false
 refine⟨e,?_⟩
 induction hr generalizing r with
 | nil=>cases h;exact⟨fun _ h=>(nomatch h),rfl⟩
 | @cons u v l l' hv _ ih=>
  obtain⟨b,h1,h⟩:=Option.bind_eq_some_iff.mp h
  obtain⟨c,h2,rfl⟩:=Option.map_eq_some_iff.mp h
  obtain⟨i1,i2⟩:=ih h2
  have key:EqGives v x (e v)/\e v=b:=by
   rcases eq0_inv h1 with⟨p,q,rfl,rfl,rfl⟩ | ⟨p,q,rfl,rfl,rfl⟩
   .obtain⟨t,rfl⟩:=hv;obtain⟨w,rfl⟩:=hx;exact⟨EqGives.int _ _ _ _,rfl⟩
   .obtain⟨t,rfl⟩:=hv;obtain⟨w,rfl⟩:=hx;exact⟨eqGives_str _ _ _ _,(ca _ _).symm⟩
  refine⟨fun y hy=>?_,?_⟩
  .rcases Ka.mp hy with rfl | hy
   .exact key.1
   .exact i1 y hy
  .rw[List.any_cons,i2,key.2]
theorem ak.inL {a:V} {xs:List V} {r:Bool} (hi:os[i]?=some (.list xs)) (h:ll a xs=some r):ak g D .In a (.ref i) os (.bool r) os:=fun ρ x y hx hy=>Lf.pure fun A s hr hh hk=>by
 obtain⟨p,vs,m,rfl,hp,e1,r1⟩:=hh.list hi hy
 obtain⟨e,q1,q2⟩:=nW hx h r1
 refine SeqRoads2.in_list e (fun y hy=>q1 y (Array.mem_toList_iff.mpr hy)) e1 ⟨?_,rfl,rfl,rfl⟩
 show NL _=NL r
 rw[<- NG,q2]
theorem ak.notInL {a:V} {xs:List V} {r:Bool} (hi:os[i]?=some (.list xs)) (h:ll a xs=some r):ak g D .NotIn a (.ref i) os (.bool (!r)) os:=fun ρ x y hx hy=>Lf.pure fun A s hr hh hk=>by
 obtain⟨p,vs,m,rfl,hp,e1,r1⟩:=hh.list hi hy
 obtain⟨e,q1,q2⟩:=nW hx h r1
 refine SeqRoads2.notIn_list e (fun y hy=>q1 y (Array.mem_toList_iff.mpr hy)) e1 ⟨?_,rfl,rfl,rfl⟩
 show NL _=NL (!r)
 rw[<- NG,q2]
theorem bV.list {xs:List V} (hi:os[i]?=some (.list xs)) (hz:(xs.length:Int) < 2 ^ 63):bV g D (.ref i) os ((xs.length:Int) !=0) os:=fun ρ x hx=>Lf.pure fun A s hr hh hk=>by
 obtain⟨p,vs,m,rfl,hp,e1,r1⟩:=hh.list hi hx
 have l1:vs.size=xs.length:=by rw[<- KH];exact r1.length
 refine wpAny_truthy_list (ax e1) (by rw[l1];exact hz) ⟨?_,rfl,rfl,rfl⟩
 rw[<- l1]
 unfold Array.isEmpty
 by_cases h:vs.size=0
 .rw[h];rfl
 .rw[decide_eq_false h,show((vs.size:Int) !=0)=true from bne_iff_ne.mpr (by lia)];rfl
theorem RelV.cut {x:Kd} (h:RelV ρ v x) (h':RelV (ρ++ν) v y):RelV ρ v y:=by
 cases v with
 | ref j=>
  obtain⟨a,h,_⟩:=h
  exact h'.imp fun _ q=>⟨by have:=q.1;rwa [Kn (List.getElem?_eq_some_iff.mp h).1] at this,q.2⟩
 | _=>exact h'
theorem aL.cut {v:Option V} {x y:Option Kd} (h:aL ρ v x) (h':aL (ρ++ν) v y):aL ρ v y:=by
 cases v <;> cases x <;> cases y <;> first | exact h'.elim | exact h.elim | exact h' | exact RelV.cut h h'
theorem ae.cut {R:α->β->Prop} {R' R'':α->γ->Prop} (h:∀a b c,R a b->R' a c->R'' a c) {l:List α} {m:List β} (x:ae R l m):∀{n:List γ},ae R' l n->ae R'' l n:=by
 induction x with
 | nil=>
  intro n y
  cases y
  exact .nil
 | cons a _ ih=>
  intro n y
  cases y with
  | cons b q=>exact .cons (h _ _ _ a b) (ih q)
theorem bj.cut (x:bj P ρ ob o) (y:bj P (ρ++ν) ob' o):bj P ρ ob' o:=by
 have up:∀{d:Nat} {a b:Kj},ρ[d]?=some a->(ρ++ν)[d]?=some b->ρ[d]?=some b:=fun h h'=>by rwa [Kn (List.getElem?_eq_some_iff.mp h).1] at h'
 cases o with
 | list | tuple=>
  obtain⟨_,_,_,h⟩:=x
  exact y.imp fun _ y=>y.imp fun _ y=>⟨y.1,h.cut (R'':=RelV ρ) (fun _ _ _ a b=>RelV.cut a b) y.2⟩
 | dict=>
  obtain⟨_,_,h,_⟩:=x
  exact y.imp fun _ y=>⟨y.1,h.cut (R'':=bZ P ρ) (fun _ _ _ a b=>⟨b.1,b.2.1,RelV.cut a.2.2 b.2.2⟩) y.2.1,y.2.2⟩
 | inst=>
  obtain⟨_,h,_⟩:=x
  exact y.imp fun _ y=>⟨up h y.1,y.2⟩
 | slots=>
  obtain⟨_,_,q,_,h⟩:=x
  exact y.imp fun _ y=>y.imp fun _ y=>⟨up q y.1,y.2.1,h.cut (R'':=aL ρ) (fun _ _ _ a b=>aL.cut a b) y.2.2⟩
 | flds=>
  obtain⟨_,_,h⟩:=x
  exact y.imp fun _ y=>⟨y.1,h.cut (R'':=RelV ρ) (fun _ _ _ a b=>RelV.cut a b) y.2⟩
 | map=>
  obtain⟨_,_,_,h,_⟩:=x
  exact y.imp fun _ y=>y.imp fun _ y=>⟨y.1,h.cut (R'':=bZ P ρ) (fun _ _ _ a b=>⟨b.1,b.2.1,RelV.cut a.2.2 b.2.2⟩) y.2.1,y.2.2⟩
 | _=>exact y
theorem HR.cut (x:HR P ρ os h) (y:HR P (ρ++ν) (os++μ) h'):HR P ρ os h':=by
 refine⟨x.len,x.nd,fun a ha=>y.hi a (KD _ ha),fun i o a h1 h2=>?_⟩
 have hi:i < os.length:=(List.getElem?_eq_some_iff.mp h1).1
 rcases x.ob i o a h1 h2 with q | ⟨ob,_,r⟩
 .exact .inl q
 .rcases y.ob i o a (by rw[Kn hi];exact h1) (get_app h2) with q | ⟨ob',e,r'⟩
  .exact .inl q
  .exact .inr ⟨ob',e,r.cut r'⟩
noncomputable def bi (n:Nat):V->Bool
 | .ref i=>Nat.blt i n
 | _=>true
theorem RelV.clip {x:Kd} (h:bi ρ.length v=true) (r:RelV (ρ++ν) v x):RelV ρ v x:=by
 cases v with
 | ref j=>
  obtain⟨a,h1,e⟩:=r
  have:j < ρ.length:=by simpa [bi,Lx] using h
  exact⟨a,by rwa [Kn this] at h1,e⟩
 | _=>exact r
theorem aL.clip {v:Option V} {x:Option Kd} (h:∀u,v=some u->bi ρ.length u=true) (r:aL (ρ++ν) v x):aL ρ v x:=by
 cases v <;> cases x <;> first | exact r | exact RelV.clip (h _ rfl) r
theorem aP.drop {loc:List (Str×V)} {t:Env->Sem α} (h:aP g D sc ⟨os,loc⟩ t R ⟨os++μ,loc'⟩) (hc:∀p∈loc',bi os.length p.2=true) (hR:∀ρ ν x,ρ.length=os.length->R (ρ++ν) x->R' ρ x):aP g D sc ⟨os,loc⟩ t R' ⟨os,loc'⟩:=fun A env ρ s he hr hs=>
 h.use he hr hs fun x s1 ρ1 r st1 g1=>by
  obtain⟨ν,rfl,hν⟩:=g1.pre
  have hl:=hs.hr.len
  have cl:∀z u,loc'.lookup z=some u->bi ρ.length u=true:=fun z u e=>by rw[hl];exact hc _ (mem_of_lookup e)
  refine⟨ρ,hR ρ ν x hl r,⟨hs.hr.cut st1.hr,⟨st1.er.glob,st1.er.blt,st1.er.kind,?_,fun z hz=>?_,⟨st1.er.low.1,fun hm=>st1.er.low.2 (KD _ hm)⟩,fun p hp=>?_,st1.er.capart⟩,st1.k⟩,⟨⟨[],(KZ _).symm,fun _ h=>(nomatch h)⟩,g1.kept,g1.alive,g1.gens,g1.os⟩⟩
  .obtain⟨m,hm,hl'⟩:=st1.er.loc
   exact⟨m,hm,fun z hz=>(hl' z hz).clip (cl z)⟩
  .obtain⟨c,o,h1,h2,h3⟩:=st1.er.cell z hz
   exact⟨c,o,h1,h2,h3.clip (cl z)⟩
  .obtain⟨a1,a2,a3,a4⟩:=st1.er.clow p hp
   exact⟨a1,a2,fun hm=>a3 (KD _ hm),a4⟩
theorem Tr.drop {loc:List (Str×V)} {b:Bool} (h:Tr g D sc ⟨os,loc⟩ e b ⟨os++μ,loc'⟩) (hc:∀p∈loc',bi os.length p.2=true):Tr g D sc ⟨os,loc⟩ e b ⟨os,loc'⟩:=aP.drop h hc fun _ _ _ _ r=>r
theorem Ev.drop {loc:List (Str×V)} (h:Ev g D sc ⟨os,loc⟩ e v ⟨os++μ,loc'⟩) (hc:∀p∈loc',bi os.length p.2=true) (hv:bi os.length v=true):Ev g D sc ⟨os,loc⟩ e v ⟨os,loc'⟩:=aP.drop h hc fun ρ _ _ hl r=>r.clip (by rw[hl];exact hv)
theorem dU.clip {x:Flow} (h:∀v,f=.ret v->bi ρ.length v=true) (r:dU (ρ++ν) f x):dU ρ f x:=by
 cases f with
 | ret v=>obtain⟨y,e,r⟩:=r;exact⟨y,e,r.clip (h v rfl)⟩
 | _=>exact r
theorem Exs.drop {loc:List (Str×V)} {e:List Kz} (h:Exs g D sc ⟨os,loc⟩ e f ⟨os++μ,loc'⟩) (hc:∀p∈loc',bi os.length p.2=true) (hv:∀v,f=.ret v->bi os.length v=true):Exs g D sc ⟨os,loc⟩ e f ⟨os,loc'⟩:=aP.drop h hc fun ρ _ _ hl r=>r.clip (by rw[hl];exact hv)
theorem Ex.drop {loc:List (Str×V)} {e:Kz} (h:Ex g D sc ⟨os,loc⟩ e f ⟨os++μ,loc'⟩) (hc:∀p∈loc',bi os.length p.2=true) (hv:∀v,f=.ret v->bi os.length v=true):Ex g D sc ⟨os,loc⟩ e f ⟨os,loc'⟩:=aP.drop h hc fun ρ _ _ hl r=>r.clip (by rw[hl];exact hv)
theorem Cl.drop {f:V} (h:Cl g D f args kw os v (os++μ)) (hv:bi os.length v=true):Cl g D f args kw os v os:=fun ρ x xs ks a b c A s hr hh hk=>
 Kr (h ρ x xs ks a b c A s hr hh hk) (fun y s' ⟨ρ',r,h',go⟩=>by
  obtain⟨ν,rfl,hν⟩:=go.pre
  exact⟨ρ,r.clip (by rw[hh.len];exact hv),hh.cut h',⟨⟨[],(KZ _).symm,fun _ h=>(nomatch h)⟩,go.kept,go.alive,go.gens,go.os⟩⟩) fun _ _ z=>z
noncomputable def my (f:Nat->Nat) (l:List (Str×V)):List (Str×V):=l.map fun p=>(p.1,bx f p.2)
theorem dV (f:Nat->Nat) (x:Str):∀l:List (Str×V),(my f l).lookup x=(l.lookup x).map (bx f)
 | []=>rfl
 | (y,v)::r=>by
  show((y,bx f v)::my f r).lookup x=_
  rw[K1,K1,dV f x r]
  cases x==y <;> rfl
theorem HR.up {W:List O} {e:List Nat} (hh:HR P ρ os s.heap) (w:eY e os W) (u:gU e os W' os') (hh':HR P (Internal.sub ρ e++ν) W' s'.heap) {ow:List Kj}
  (how:∀a∈ow,a∉ρ) (go:Go ow (Internal.sub ρ e) s (Internal.sub ρ e++ν) s'):HR P (ρ++ν) os' s'.heap/\Go ow ρ s (ρ++ν) s':=by
 have he:∀i∈e,i < ρ.length:=fun i hi=>by rw[hh.len];exact w.lt i hi
 obtain⟨ν',hν',hν⟩:=go.pre
 cases List.append_cancel_left hν'
 have lsub:(Internal.sub ρ e).length=e.length:=by simp[Internal.sub]
 have lW:e.length + ν.length=W'.length:=by rw[<- hh'.len,KC,lsub]
 refine⟨⟨?_,?_,fun a ha=>?_,fun i o a h1 h2=>?_⟩,⟨ν,rfl,hν⟩,fun b o e1 h1 h2=>?_,go.alive,go.gens,go.os⟩
 .rw[KC,hh.len]
  have:=u.len
  lia
 .rw[LQ]
  have nd':=(LQ.mp hh'.nd).2.1
  refine⟨hh.nd,nd',fun a ha b hb=>?_⟩
  rintro rfl
  obtain⟨_,ob,q⟩:=hh.hi a ha
  rw[hν a hb] at q;exact nS q
 .rcases List.mem_append.mp ha with q | q
  .obtain⟨h1,ob,h2⟩:=hh.hi a q
   exact⟨h1,go.alive _ _ h2⟩
  .exact hh'.hi a (Kt _ q)
 .by_cases hi:i < os.length
  .rw[Kn (by rw[hh.len];exact hi)] at h2
   by_cases hm:i∈e
   .obtain⟨k,hk⟩:=List.mem_iff_getElem?.mp hm
    have hk':k < e.length:=(List.getElem?_eq_some_iff.mp hk).1
    have hW:∃o',W'[k]?=some o':=⟨_,Kc (by lia)⟩
    obtain⟨o',hW⟩:=hW
    have ho:=u.inn k o' hW
    rw[show rn e os.length k=i by unfold rn;rw[hk];rfl,h1] at ho
    cases ho
    have h2':(Internal.sub ρ e++ν)[k]?=some a:=by
     rw[Kn (by lia)]
     unfold Internal.sub
     rw[KX,hk]
     simp[Kh,h2]
    rcases hh'.ob k o' a hW h2' with q | ⟨ob,q1,q2⟩
    .subst q;exact .inl rfl
    .refine .inr ⟨ob,q1,?_⟩
     rw[<- hh.len]
     exact q2.up he
   .rw[u.out i hi hm] at h1
    rcases hh.ob i o a h1 h2 with q | ⟨ob,q1,q2⟩
    .exact .inl q
    .refine .inr ⟨ob,go.keep a ob q1 (fun hm'=>?_) (fun h=>how a h (Kq h2)) (dg (hh.hi a (Kq h2)).1),q2.mono⟩
     obtain⟨j,j1,j2⟩:=gf he hm'
     exact hm (eg hh.nd h2 j2▸j1)
  .have hi':=Lv hi
   rw[Ke (by rw[hh.len];exact hi')] at h2
   have hlt:=(List.getElem?_eq_some_iff.mp h2).1
   have hW:∃o',W'[e.length + (i - os.length)]?=some o':=⟨_,Kc (by rw[hh.len] at hlt;lia)⟩
   obtain⟨o',hW⟩:=hW
   have ho:=u.inn _ o' hW
   rw[show rn e os.length (e.length + (i - os.length))=i by unfold rn;rw[Kv (by lia)];dsimp only [NF];lia,h1] at ho
   cases ho
   have h2':(Internal.sub ρ e++ν)[e.length + (i - os.length)]?=some a:=by
    rw[Ke (by lia),lsub,<- h2,hh.len]
    congr 1
    lia
   rcases hh'.ob _ o' a hW h2' with q | ⟨ob,q1,q2⟩
   .subst q;exact .inl rfl
   .refine .inr ⟨ob,q1,?_⟩
    rw[<- hh.len]
    exact q2.up he
 .exact go.kept b o e1 (fun hm=>by
   obtain⟨j,_,j2⟩:=gf he hm
   exact h1 (Kq j2)) h2
theorem aP.frame {W:List O} {loc:List (Str×V)} {e:List Nat} {t:Env->Sem α} (h:aP g D sc ⟨W,locW⟩ t R ⟨W',locW'⟩) (w:eY e os W) (u:gU e os W' os')
  (hl:loc=my (rn e os.length) locW) (hl':loc'=my (rn e os.length) locW') (hR:∀ρ ν x,ρ.length=os.length->R (sub ρ e++ν) x->R' (ρ++ν) x):aP g D sc ⟨os,loc⟩ t R' ⟨os',loc'⟩:=fun A env ρ s he hr hs=>by
 have hx:=hs.hr
 have hs1:∀i∈e,i < ρ.length:=fun i hi=>by rw[hx.len];exact w.lt i hi
 have sm:∀a,a∉ρ->a∉sub ρ e:=fun a ha hm=>by
  obtain⟨j,_,j2⟩:=gf hs1 hm
  exact ha (Kq j2)
 have st:St g env ⟨W,locW⟩ (sub ρ e) s:=by
  refine⟨hx.sub w,⟨hs.er.glob,hs.er.blt,hs.er.kind,?_,fun z hz=>?_,⟨hs.er.low.1,sm _ hs.er.low.2⟩,fun p hp=>?_,hs.er.capart⟩,hs.k⟩
  .obtain⟨m,hm,q⟩:=hs.er.loc
   refine⟨m,hm,fun z hz=>?_⟩
   have:=q z hz
   rw[show(S.mk os loc).loc=loc from rfl,hl,dV] at this
   exact aL.down (MM hx.len) this
  .obtain⟨c,o,h1,h2,h3⟩:=hs.er.cell z hz
   rw[show(S.mk os loc).loc=loc from rfl,hl,dV] at h3
   exact⟨c,o,h1,h2,aL.down (MM hx.len) h3⟩
  .obtain⟨a1,a2,a3,a4⟩:=hs.er.clow p hp
   exact⟨a1,a2,sm _ a3,a4⟩
 refine Kr (h A env (sub ρ e) s he hr st) ?_ (fun _ _ z=>z.elim)
 rintro x s' ⟨ρ'',r,st',go⟩
 obtain⟨ν,rfl,hν⟩:=go.pre
 have how:∀a∈own env,a∉ρ:=fun a ha=>by
  rcases Ka.mp ha with rfl | ha
  .exact hs.er.low.2
  .obtain⟨p,hp,rfl⟩:=List.mem_map.mp ha
   exact(hs.er.clow p hp).2.2.1
 obtain⟨H,G'⟩:=hx.up w u st'.hr how go
 refine⟨ρ++ν,hR ρ ν x hx.len r,⟨H,⟨st'.er.glob,st'.er.blt,st'.er.kind,?_,fun z hz=>?_,⟨st'.er.low.1,fun hm=>?_⟩,fun p hp=>?_,st'.er.capart⟩,st'.k⟩,G'⟩
 .obtain⟨m,hm,q⟩:=st'.er.loc
  refine⟨m,hm,fun z hz=>?_⟩
  show aL _ (loc'.lookup z) _
  rw[hl',dV,<- hx.len]
  exact aL.up hs1 (q z hz)
 .obtain⟨c,o,h1,h2,h3⟩:=st'.er.cell z hz
  refine⟨c,o,h1,h2,?_⟩
  show aL _ (loc'.lookup z) _
  rw[hl',dV,<- hx.len]
  exact aL.up hs1 h3
 .rcases List.mem_append.mp hm with q | q
  .exact hs.er.low.2 q
  .exact st'.er.low.2 (Kt _ q)
 .obtain⟨a1,a2,a3,a4⟩:=st'.er.clow p hp
  refine⟨a1,a2,fun hm=>?_,a4⟩
  rcases List.mem_append.mp hm with q | q
  .exact(hs.er.clow p hp).2.2.1 q
  .exact a3 (Kt _ q)
theorem dU.up {e:List Nat} (he:∀i∈e,i < ρ.length) {x:Flow} (r:dU (sub ρ e++ν) f x):dU (ρ++ν) (match f with | .ret v=>.ret (bx (rn e ρ.length) v) | f=>f) x:=by
 cases f with
 | ret v=>obtain⟨y,e',r⟩:=r;exact⟨y,e',r.up he⟩
 | _=>exact r
noncomputable def GX (f:Nat->Nat):F->F
 | .ret v=>.ret (bx f v)
 | x=>x
theorem Exs.frame {W:List O} {loc:List (Str×V)} {e:List Nat} {t:List Kz} {f':F} (h:Exs g D sc ⟨W,locW⟩ t f ⟨W',locW'⟩) (w:eY e os W) (u:gU e os W' os')
  (hl:loc=my (rn e os.length) locW) (hl':loc'=my (rn e os.length) locW') (hf:f'=GX (rn e os.length) f):Exs g D sc ⟨os,loc⟩ t f' ⟨os',loc'⟩:=
 aP.frame h w u hl hl' fun ρ ν x hn r=>by
  have he:∀i∈e,i < ρ.length:=fun i hi=>by rw[hn];exact w.lt i hi
  subst hf
  rw[<- hn]
  cases f with
  | ret v=>obtain⟨y,e',r⟩:=r;exact⟨y,e',r.up he⟩
  | _=>exact r
noncomputable def AL:List Nat:=[39,34,97,65,98,66,99,67,120,122]
noncomputable def B9 (c:Nat):Nat:=if(KS 65 c).and (KS c 90) then c + 32 else c
noncomputable def BE (c d:Nat):Int:=match Lw c d with
 | true=>0
 | false=>match Lw (B9 c) (B9 d) with
  | true=>1
  | false=>2
theorem Az (w:J9):AL.all (fun c=>AL.all fun d=>mN (iF (X0 w 0 aq) 40 (H7 w) HS {} [.str ⟨#[c]⟩,.str ⟨#[d]⟩] []) (.int (BE c d)))=true:=∅
theorem Er (w:J9) (c d:Nat) (hc:c∈AL) (hd:d∈AL) (os:List O):Cl (aa w) 1 (.top (.ref 51)) [.str ⟨#[c]⟩,.str ⟨#[d]⟩] [] os (.int (BE c d)) os:=by
 obtain⟨μ,h,hv⟩:=gy (List.all_eq_true.mp (List.all_eq_true.mp (Az w) c hc) d hd)
 exact h.pure hv rfl rfl rfl os
noncomputable def vT (c:Nat):Bool:=AL.any (Lw c)
theorem ql {c:Nat} (h:vT c=true):c∈AL:=by
 obtain⟨x,hx,e⟩:=List.any_eq_true.mp h
 rw[Nat.beq_eq] at e
 exact e▸hx
theorem Str.one {c:Nat} (h:x.cps.toList=[c]):x=⟨#[c]⟩:=by
 cases x with
 | mk a=>exact congrArg Str.mk (Array.toList_inj.mp h)
noncomputable def CS (w:J9):CT (aa w) 1:=fun f args kw os=>match f,args,kw with
 | .top (.ref a),[.str x,.str y],[]=>if h:a=51 then(match hx:x.cps.toList,hy:y.cps.toList with
  | [c],[d]=>if hc:(vT c).and (vT d)=true then some ⟨.int (BE c d),os,[],fun _=>by
    simp only[Kk] at hc
    exact h▸Str.one hx▸Str.one hy▸Er w c d (ql hc.1) (ql hc.2) os⟩ else none
  | _,_=>none) else none
 | _,_,_=>none
noncomputable def wA (w:J9) (a b:Str) (m:Int):Option (LR fun v os'=>Cl (aa w) 2 (.top (.ref 58)) [.str a,.str b,.int m] [] [] v os'):=iF (X0 w 1 (CS w)) 100 (HK w) Hb {} [.str a,.str b,.int m] []
noncomputable def pc (j k:Nat):Nat:=(if j % 2==k % 2 then 0 else 1) + (if j / 2 % 2==k / 2 % 2 then 0 else 1) + (if j / 4==k / 4 then 0 else 1)
noncomputable def levV (j k b:Nat):Int:=((min (pc j k) (b + 1):Nat):Int)
noncomputable def qB (j i:Nat):Str:=match i with
 | 0=>aI j
 | 1=>⟨#[if j % 2==0 then 97 else 65,39,if j / 2 % 2==0 then 98 else 66,if j / 4==0 then 99 else 67,122]⟩
 | 2=>⟨#[122,if j % 2==0 then 97 else 65,39,if j / 2 % 2==0 then 98 else 66,if j / 4==0 then 99 else 67]⟩
 | 3=>⟨#[39,if j / 2 % 2==0 then 98 else 66,if j / 4==0 then 99 else 67]⟩
 | 4=>⟨#[120,39,if j / 2 % 2==0 then 98 else 66,if j / 4==0 then 99 else 67]⟩
 | 5=>⟨#[]⟩
 | 6=>⟨#[122,122]⟩
 | _=>⟨#[39,if j % 2==0 then 97 else 65,if j / 2 % 2==0 then 98 else 66,if j / 4==0 then 99 else 67]⟩
noncomputable def Dc (i:Nat):Int:=match i with
 | 0=>12 | 1=>2 | 2=>2 | 3=>2 | 4=>2 | 5=>8 | 6=>8 | _=>4
noncomputable def i6 (w:J9) (j b:Nat):Bool:=(K0 8).all fun k=>mN (wA w (wdN j) (wdN k) b) (.int (levV j k b))
noncomputable def ik (w:J9) (j:Nat):Bool:=(K0 8).all fun i=>mN (wA w (wdN j) (qB j i) 99) (.int (Dc i))
noncomputable def ii (w:J9) (j:Nat):Bool:=[0,6,7].all fun i=>mN (wA w (wdN j) (qB j i) 3) (.int 4)
theorem Gx (w:J9):[9,0,1,2].all (i6 w 0)=true:=∅
theorem Hm (w:J9):ik w 0=true:=∅
theorem Gm (w:J9):ii w 0=true:=∅
theorem Ge (w:J9):[9,0,1,2].all (i6 w 1)=true:=∅
theorem Ho (w:J9):ik w 1=true:=∅
theorem H1 (w:J9):ii w 1=true:=∅
theorem HY (w:J9):[9,0,1,2].all (i6 w 2)=true:=∅
theorem Hf (w:J9):ik w 2=true:=∅
theorem Gl (w:J9):ii w 2=true:=∅
theorem GZ (w:J9):[9,0,1,2].all (i6 w 3)=true:=∅
theorem Gh (w:J9):ik w 3=true:=∅
theorem GF (w:J9):ii w 3=true:=∅
theorem HA (w:J9):[9,0,1,2].all (i6 w 4)=true:=∅
theorem HU (w:J9):ik w 4=true:=∅
theorem HF (w:J9):ii w 4=true:=∅
theorem HE (w:J9):[9,0,1,2].all (i6 w 5)=true:=∅
theorem HX (w:J9):ik w 5=true:=∅
theorem Ha (w:J9):ii w 5=true:=∅
theorem GN (w:J9):[9,0,1,2].all (i6 w 6)=true:=∅
theorem HD (w:J9):ik w 6=true:=∅
theorem GE (w:J9):ii w 6=true:=∅
theorem GW (w:J9):[9,0,1,2].all (i6 w 7)=true:=∅
theorem H9 (w:J9):ik w 7=true:=∅
theorem Gz (w:J9):ii w 7=true:=∅
theorem wB (w:J9) (j b:Nat) (hj:j < 8) (hb:b∈[9,0,1,2]):i6 w j b=true:=by
 refine List.all_eq_true.mp ?_ b hb
 rcases j with _ | _ | _ | _ | _ | _ | _ | _ | j
 .exact Gx w
 .exact Ge w
 .exact HY w
 .exact GZ w
 .exact HA w
 .exact HE w
 .exact GN w
 .exact GW w
 .exact absurd hj (Nat.not_lt.mpr (Nat.le_add_left 8 j))
theorem gC (w:J9) (j k b:Nat) (hj:j < 8) (hk:k < 8) (hb:b∈[9,0,1,2]) (os:List O):Cl (aa w) 2 (.top (.ref 58)) [.str (wdN j),.str (wdN k),.int b] [] os (.int (levV j k b)) os:=by
 obtain⟨μ,h,hv⟩:=gy (List.all_eq_true.mp (wB w j b hj hb) k (List.mem_range.mpr hk))
 exact h.pure hv rfl rfl rfl os
theorem v3 (w:J9) (j:Nat) (hj:j < 8):ik w j=true:=BZ (P:=fun j=>ik w j=true) j hj (Hm w) (Ho w) (Hf w) (Gh w) (HU w) (HX w) (HD w) (H9 w)
theorem wW (w:J9) (j:Nat) (hj:j < 8):ii w j=true:=BZ (P:=fun j=>ii w j=true) j hj (Gm w) (H1 w) (Gl w) (GF w) (HF w) (Ha w) (GE w) (Gz w)
theorem Af (w:J9) (j i:Nat) (hj:j < 8) (hi:i < 8) (os:List O):Cl (aa w) 2 (.top (.ref 58)) [.str (wdN j),.str (qB j i),.int 99] [] os (.int (Dc i)) os:=by
 obtain⟨μ,h,hv⟩:=gy (List.all_eq_true.mp (v3 w j hj) i (List.mem_range.mpr hi))
 exact h.pure hv rfl rfl rfl os
theorem zC (w:J9) (j i:Nat) (hj:j < 8) (hi:i∈[0,6,7]) (os:List O):Cl (aa w) 2 (.top (.ref 58)) [.str (wdN j),.str (qB j i),.int 3] [] os (.int 4) os:=by
 obtain⟨μ,h,hv⟩:=gy (List.all_eq_true.mp (wW w j hj) i hi)
 exact h.pure hv rfl rfl rfl os
structure Hk where
 e:List (Nat×Nat×Nat×Nat×(S->V×S)):=[]
 t:List (Nat×Nat×Nat×Nat×(S->Bool×S)):=[]
 s:List (Nat×Nat×Nat×Nat×(S->F×S)):=[]
 /-- a value cut -/
 u:List (Nat×Nat×Nat×Nat×(V->V->List O->V)):=[]
 /-- a slice -/
 l:List (Nat×Nat×Nat×Nat×(V->V->V->List O->V×List O)):=[]
 /-- a call -/
 c:List (Nat×Nat×Nat×Nat×(V->List V->List O->V×List O)):=[]
 /-- a comparison -/
 k:List (Nat×Nat×Nat×Nat×(V->V->List O->V)):=[]
 /-- the method of a method call that c tells of -/
 m:List (Nat×Nat×Nat×Nat×V):=[]
variable {hk:Hk}
noncomputable def ig {β:Type} (p:Pos):List (Nat×Nat×Nat×Nat×β)->Option β
 | []=>none
 | (a,b,c,d,x)::r=>match (((Lw a p.line).and (Lw b p.col)).and (Lw c p.endLine)).and (Lw d p.endCol) with
  | true=>some x
  | false=>ig p r
noncomputable def Et:Kz->Option Pos
 | .If _ _ _ p=>some p
 | .For _ _ _ _ p=>some p
 | .While _ _ _ p=>some p
 | .Assign _ _ p=>some p
 | .AugAssign _ _ _ p=>some p
 | .Expr _ p=>some p
 | .Return _ p=>some p
 | .Try _ _ _ _ p=>some p
 | .Delete _ p=>some p
 | _=>none
noncomputable def yi:Expr->Option Pos
 | .Call _ _ _ p=>some p
 | .Subscript _ _ p=>some p
 | .ListComp _ _ _ p=>some p
 | .GeneratorExp _ _ _ p=>some p
 | .Compare _ _ _ p=>some p
 | .NamedExpr _ _ p=>some p
 | .BinOp _ _ _ p=>some p
 | .Attribute _ _ p=>some p
 | .BoolOp _ _ p=>some p
 | _=>none
section
variable (hk:Hk) (X:CX g D) (sc:Scope) (R:Rc X sc) (RA:(sc:Scope)->Rc X sc)
noncomputable def au (g:G) (D:Nat) (a i:V) (os:List O) (v:V) (os':List O):Prop:=∀value slice,cS slice=true->dm g D value slice a i os v os'
theorem mz {P:Prop} (h:aR [.p P]):P:=h.1
noncomputable def JJ (f:V->V->List O->V) (value slice:Expr) (pos:Pos) (σ:S) (o:aE):Option (XE g D sc σ (.Subscript value slice pos)):=if hs:cS slice=true then do
 let a <- R.e value σ o
 let i <- R.e slice a.s a.o
 some ⟨f a.v i.v i.s.os,i.s,i.o,a.c++(i.c++[.p (au g D a.v i.v i.s.os (f a.v i.v i.s.os) i.s.os)]),fun h=>Ev.sub (a.ok h.l) (i.ok h.r.l) (mz h.r.r _ _ hs)⟩
 else none
noncomputable def ID (f:V->V->V->List O->V×List O) (value:Expr) (lo hi:Option Expr) (p pos:Pos) (σ:S) (o:aE):Option (XE g D sc σ (.Subscript value (.Slice lo hi none p) pos)):=do
 let a <- R.e value σ o
 let l <- R.b lo a.s a.o
 let u <- R.b hi l.s l.o
 some ⟨(f a.v l.v u.v u.s.os).1,⟨(f a.v l.v u.v u.s.os).2,u.s.loc⟩,u.o,a.c++(l.c++(u.c++[.p (db g D a.v l.v u.v u.s.os (f a.v l.v u.v u.s.os).1 (f a.v l.v u.v u.s.os).2)])),fun h=>Ev.sliceL (a.ok h.l) (l.ok h.r.l) (u.ok h.r.r.l) (mz h.r.r.r)⟩
noncomputable def IX (f:V->V->List O->V) (l:Expr) (op:CmpOp) (r:Expr) (pos:Pos) (σ:S) (o:aE):Option (XE g D sc σ (.Compare l [op] [r] pos)):=if hm:MT op r=false then do
 let a <- R.e l σ o
 let b <- R.e r a.s a.o
 some ⟨f a.v b.v b.s.os,b.s,b.o,a.c++(b.c++[.p (ak g D op a.v b.v b.s.os (f a.v b.v b.s.os) b.s.os)]),fun h=>Ev.cmp (a.ok h.l) (b.ok h.r.l) (mz h.r.r) hm⟩
 else none
noncomputable def I4 (f:V->List V->List O->V×List O) (func:Expr) (args:List Expr) (kws:List Mv) (pos:Pos) (σ:S) (o:aE):Option (XE g D sc σ (.Call func args kws pos)):=if hh:((gm func).and (aW args)).and (bO kws)=true then do
 let a <- R.e func σ o
 let vs <- R.l args a.s a.o
 let ks <- R.k pos kws vs.s vs.o
 let k <- kpF X ks.s.os a.v
 (if h4:(kwNames kws).length=ks.v.length then
  (some ⟨(f a.v vs.v ks.s.os).1,⟨(f a.v vs.v ks.s.os).2,ks.s.loc⟩,ks.o,a.c++(vs.c++(ks.c++[.p (Cl g D a.v vs.v ((kwNames kws).zip ks.v) ks.s.os (f a.v vs.v ks.s.os).1 (f a.v vs.v ks.s.os).2)])),fun h=>by
   simp only[Kk] at hh
   exact Ev.call (a.ok h.l) (vs.ok h.r.l) (ks.ok h.r.r.l) k.ok (mz h.r.r.r) hh.1.1 hh.1.2 hh.2 h4⟩)
 else none)
 else none
noncomputable def Js (f:V->List V->List O->V×List O) (q:Expr) (name:Str) (apos:Pos) (args:List Expr) (kws:List Mv) (pos:Pos) (σ:S) (o:aE):Option (XE g D sc σ (.Call (.Attribute q name apos) args kws pos)):=if hh:((cI q).and (aW args)).and ((bO kws).and (bJ apos pos (args.length + kws.length)))=true then do
 let a <- R.e q σ o
 let m <- mthF X a.v name a.s.os
 let vs <- R.l args a.s a.o
 let ks <- R.k pos kws vs.s vs.o
 let k <- kpF X ks.s.os m.f
 (if h4:(kwNames kws).length=ks.v.length then
  (some ⟨(f m.f (a.v::vs.v) ks.s.os).1,⟨(f m.f (a.v::vs.v) ks.s.os).2,ks.s.loc⟩,ks.o,a.c++(vs.c++(ks.c++[.p (Cl g D m.f (a.v::vs.v) ((kwNames kws).zip ks.v) ks.s.os (f m.f (a.v::vs.v) ks.s.os).1 (f m.f (a.v::vs.v) ks.s.os).2)])),fun h=>by
   simp only[Kk] at hh
   exact Ev.meth (a.ok h.l) m.ok (vs.ok h.r.l) (ks.ok h.r.r.l) k.ok (mz h.r.r.r) hh.1.1 hh.1.2 hh.2.1 h4 hh.2.2⟩)
 else none)
 else none
noncomputable def II (fv:V) (f:V->List V->List O->V×List O) (q:Expr) (name:Str) (apos:Pos) (args:List Expr) (kws:List Mv) (pos:Pos) (σ:S) (o:aE):Option (XE g D sc σ (.Call (.Attribute q name apos) args kws pos)):=if hh:((cI q).and (aW args)).and ((bO kws).and (bJ apos pos (args.length + kws.length)))=true then do
 let a <- R.e q σ o
 let vs <- R.l args a.s a.o
 let ks <- R.k pos kws vs.s vs.o
 let k <- kpF X ks.s.os fv
 (if h4:(kwNames kws).length=ks.v.length then
  (some ⟨(f fv (a.v::vs.v) ks.s.os).1,⟨(f fv (a.v::vs.v) ks.s.os).2,ks.s.loc⟩,ks.o,a.c++(vs.c++(ks.c++[.p (an g a.v name a.s.os fv),.p (Cl g D fv (a.v::vs.v) ((kwNames kws).zip ks.v) ks.s.os (f fv (a.v::vs.v) ks.s.os).1 (f fv (a.v::vs.v) ks.s.os).2)])),fun h=>by
   simp only[Kk] at hh
   have h2:aR [de.p (an g a.v name a.s.os fv),.p (Cl g D fv (a.v::vs.v) ((kwNames kws).zip ks.v) ks.s.os (f fv (a.v::vs.v) ks.s.os).1 (f fv (a.v::vs.v) ks.s.os).2)]:=h.r.r.r
   exact Ev.meth (a.ok h.l) h2.1 (vs.ok h.r.l) (ks.ok h.r.r.l) k.ok h2.2.1 hh.1.1 hh.1.2 hh.2.1 h4 hh.2.2⟩)
 else none)
 else none
noncomputable def Em (e:Expr) (σ:S) (o:aE):Option (XE g D sc σ e):=match e with
 | .Subscript value (.Slice lo hi none p) pos=>(match ig pos hk.l with
  | some f=>ID X sc R f value lo hi p pos σ o
  | none=>m6 X sc R RA (.Subscript value (.Slice lo hi none p) pos) σ o)
 | .Subscript value slice pos=>(match ig pos hk.u with
  | some f=>JJ X sc R f value slice pos σ o
  | none=>m6 X sc R RA (.Subscript value slice pos) σ o)
 | .Compare l [op] [r] pos=>(match ig pos hk.k with
  | some f=>IX X sc R f l op r pos σ o
  | none=>m6 X sc R RA (.Compare l [op] [r] pos) σ o)
 | .Call (.Attribute q name apos) args kws pos=>(match ig pos hk.c with
  | some f=>(match ig pos hk.m with
   | some fv=>II X sc R fv f q name apos args kws pos σ o
   | none=>Js X sc R f q name apos args kws pos σ o)
  | none=>m6 X sc R RA (.Call (.Attribute q name apos) args kws pos) σ o)
 | .Call func args kws pos=>(match ig pos hk.c with
  | some f=>I4 X sc R f func args kws pos σ o
  | none=>m6 X sc R RA (.Call func args kws pos) σ o)
 | e=>m6 X sc R RA e σ o
noncomputable def hE (e:Expr) (σ:S) (o:aE):Option (XE g D sc σ e):=match yi e with
 | none=>m6 X sc R RA e σ o
 | some p=>(match ig p hk.e with
  | some f=>some ⟨(f σ).1,(f σ).2,o,[.p (Ev g D sc σ e (f σ).1 (f σ).2)],fun h=>h.1⟩
  | none=>Em hk X sc R RA e σ o)
noncomputable def hT (e:Expr) (σ:S) (o:aE):Option (XT g D sc σ e):=match yi e with
 | none=>BD X sc R e σ o
 | some p=>(match ig p hk.t with
  | some f=>some ⟨(f σ).1,(f σ).2,o,[.p (Tr g D sc σ e (f σ).1 (f σ).2)],fun h=>h.1⟩
  | none=>BD X sc R e σ o)
noncomputable def Rc.upH:Rc X sc:=⟨hE hk X sc (RA sc) RA,FK X sc (RA sc),F0 X sc (RA sc),FM X sc (RA sc),hT hk X sc (RA sc),F5 X sc (RA sc),F8 X sc (RA sc)⟩
noncomputable def Rc.atH (X:CX g D):Nat->(sc:Scope)->Rc X sc
 | 0,sc=>Rc.zero X sc
 | n + 1,sc=>Rc.upH hk X sc (Rc.atH X n)
noncomputable def hS (R:Rc X sc) (T:Rs X sc) (st:Kz) (σ:S) (o:aE):Option (XS g D sc σ st):=match Et st with
 | none=>Bl X sc R T st σ o
 | some p=>(match ig p hk.s with
  | some f=>some ⟨(f σ).1,(f σ).2,o,[.p (Ex g D sc σ st (f σ).1 (f σ).2)],fun h=>h.1⟩
  | none=>Bl X sc R T st σ o)
noncomputable def Rs.upH (R:Rc X sc) (T:Rs X sc):Rs X sc:=⟨hS hk X sc R T,C8 X sc T,FZ X sc R T,F6 X sc R T⟩
noncomputable def Rs.atH (X:CX g D) (sc:Scope):Nat->Rs X sc
 | 0=>Rs.zero X sc
 | n + 1=>Rs.upH hk X sc (Rc.atH hk X n sc) (Rs.atH X sc n)
noncomputable def k7 (X:CX g D) (sc:Scope) (n:Nat):=(Rs.atH hk X sc n).ss
noncomputable def ye (X:CX g D) (sc:Scope) (n:Nat):=(Rc.atH hk X n sc).e
noncomputable def oM (X:CX g D) (sc:Scope) (n:Nat):=(Rc.atH hk X n sc).t
end
noncomputable def vw (x:Option (XR J)):Option (β×S×List de):=match x with
 | some r=>some (r.v,r.s,r.c)
 | none=>none
theorem d5 {x:Option (XR J)} {v:β} {s:S} (e:vw x=some (v,s,c)) (h:aR c):J v s:=by
 cases x with
 | none=>exact nS e
 | some r=>cases e;exact r.ok h
noncomputable def ah (b:List Kz) (k:Nat):Kz:=b.getD k (.Pass default)
noncomputable def FI (op:MF) (a b:V) (os:List O):Option (LR fun v os'=>bn g D op a b os v os'):=match op,a,b with
 | .Add,.ref i,.ref j=>(match hi:os[i]?,hj:os[j]? with
  | some (.list xs),some (.list ys)=>some ⟨.ref os.length,os++[.list (xs++ys)],[.p (xs.length + ys.length <=Kg)],fun h=>bn.addL hi hj h.1⟩
  | _,_=>none)
 | _,_,_=>none
theorem J5 {X:CX g D} {s:S} {o:aE} (h:vw (ye hk X sc n e σ o)=some (v,s,c)) (hc:aR c):Ev g D sc σ e v s:=d5 h hc
theorem tT {X:CX g D} {s:S} {o:aE} {v:Bool} (h:vw (oM hk X sc n e σ o)=some (v,s,c)) (hc:aR c):Tr g D sc σ e v s:=d5 h hc
theorem iO {X:CX g D} {e:List Kz} {s:S} {o:aE} {v:F} (h:vw (k7 hk X sc n e σ o)=some (v,s,c)) (hc:aR c):Exs g D sc σ e v s:=d5 h hc
theorem dp {X:CX g D} {s:S} (h:vw (ye hk X sc 48 e σ {})=some (v,s,c)) (hc:aR c):Ev g D sc σ e v s:=d5 h hc
theorem pm {X:CX g D} {s:S} (h:vw (ye {} X sc 48 e σ {})=some (v,s,c)) (hc:aR c):Ev g D sc σ e v s:=d5 h hc
theorem aC {X:CX g D} {s:S} (h:vw (ye {} X sc 48 e σ {})=some (v,s,[])):Ev g D sc σ e v s:=d5 h trivial
theorem qh {X:CX g D} {s:S} {v:Bool} (h:vw (oM hk X sc 48 e σ {})=some (v,s,c)) (hc:aR c):Tr g D sc σ e v s:=d5 h hc
theorem FG {X:CX g D} {s:S} {v:Bool} (h:vw (oM {} X sc 48 e σ {})=some (v,s,c)) (hc:aR c):Tr g D sc σ e v s:=d5 h hc
theorem pA {X:CX g D} {s:S} {v:Bool} (h:vw (oM {} X sc 48 e σ {})=some (v,s,[])):Tr g D sc σ e v s:=d5 h trivial
theorem bq {X:CX g D} {e:List Kz} {s:S} {v:F} (h:vw (k7 hk X sc 48 e σ {})=some (v,s,c)) (hc:aR c):Exs g D sc σ e v s:=d5 h hc
theorem mV {X:CX g D} {e:List Kz} {s:S} {v:F} (h:vw (k7 {} X sc 48 e σ {})=some (v,s,c)) (hc:aR c):Exs g D sc σ e v s:=d5 h hc
theorem jp {X:CX g D} {e:List Kz} {s:S} {v:F} (h:vw (k7 {} X sc 48 e σ {})=some (v,s,[])):Exs g D sc σ e v s:=d5 h trivial
theorem bH.inv {t:Expr} (I:Nat->S->Prop)
  (turn:∀k σ,k < n->I k σ->∃v σ₁ σ₂,nx k σ.os=some (some v)/\aX g D sc σ t v σ₁/\Exs g D sc σ₁ body .next σ₂/\I (k + 1) σ₂)
  (stop:∀σ,I n σ->nx n σ.os=some none):∀m k σ,k + m=n->I k σ->∃σe,I n σe/\bH g D sc t body [] nx .next σe k σ:=fun m=>by
 induction m with
 | zero=>
  intro k σ e h
  have e:k=n:=e
  subst e
  exact⟨σ,h,.stop (stop σ h) Exs.nil⟩
 | succ m ih=>
  intro k σ e h
  obtain⟨v,σ₁,σ₂,h1,h2,h3,h4⟩:=turn k σ (by lia) h
  obtain⟨σe,he,hr⟩:=ih (k + 1) σ₂ (by lia) h4
  exact⟨σe,he,.turn h1 h2 h3 (.inl rfl) hr⟩
theorem bv {vs:List V} (h:os[i]?=some (.list vs)):cg i k os=some vs[k]?:=by
 unfold cg;rw[h];rfl
noncomputable def rW:List de->Option (List Prop)
 | []=>some []
 | c::r=>match c with
  | .b x y=>(match x.xor y with
   | true=>none
   | false=>rW r)
  | .v _ _=>none
  | .p P=>(rW r).map (P::·)
noncomputable def u9:List Prop->Prop
 | []=>True
 | P::r=>P/\u9 r
theorem zn {l:List de} (h:rW l=some ps) (q:u9 ps):aR l:=by
 induction l generalizing ps with
 | nil=>trivial
 | cons c r ih=>cases c with
  | b x y=>
   cases x with
   | true=>cases y with
    | true=>exact⟨rfl,ih h q⟩
    | false=>exact nS h
   | false=>cases y with
    | true=>exact nS h
    | false=>exact⟨rfl,ih h q⟩
  | v _ _=>exact nS h
  | p P=>
   obtain⟨l,e,rfl⟩:=Option.map_eq_some_iff.mp h
   exact⟨q.1,ih e q.2⟩
noncomputable def km (x:Option (XR J)):Option (β×S×List Prop):=x.bind fun r=>(rW r.c).map fun ps=>(r.v,r.s,ps)
theorem uz {x:Option (XR J)} {v:β} {s:S} (e:km x=some (v,s,ps)) (h:u9 ps):J v s:=by
 obtain⟨r,_,e⟩:=Option.bind_eq_some_iff.mp e
 obtain⟨l,hl,e⟩:=Option.map_eq_some_iff.mp e
 cases e
 exact r.ok (zn hl h)
theorem an.listM {xs:List V} {name:Str} {id:String} (ho:os[i]?=some (.list xs)) (slot:Slot "list" name id) (ty:typeOf (.builtin id)=pure (.type "method_descriptor")):an g (.ref i) name os (.top (.builtin id)):=fun A ρ s y pl Q E hy hh hk q=>by
 obtain⟨a,vs,n,rfl,ha,e,r⟩:=hh.list ho hy
 exact NA ⟨_,e,rfl⟩ F.plainAttrs_list slot ty (fun b hb=>by cases hb;exact⟨_,e,rfl⟩) (q _ s.toks rfl)
theorem an.dictM {name:Str} {id:String} (ho:os[i]?=some (.dict es n)) (slot:Slot "dict" name id) (ty:typeOf (.builtin id)=pure (.type "method_descriptor")):an g (.ref i) name os (.top (.builtin id)):=fun A ρ s y pl Q E hy hh hk q=>by
 obtain⟨a,ha,rfl⟩:=hy
 rcases hh.ob i _ a ho ha with h | ⟨ob,e,en,e1,e2,e3⟩
 .cases h
 .subst e1
  exact NA ⟨_,e,rfl⟩ F.plainAttrs_dict slot ty (fun b hb=>by cases hb;exact⟨_,e,rfl⟩) (q _ s.toks rfl)
noncomputable def Jr (a:V) (name:Str) (os:List O):Option (MR g a name os):=match a with
 | .ref i=>(match ho:os[i]? with
  | some (.list xs)=>if h:sq name ("append" : Str)=true then some ⟨_,sq_ok h▸an.listM ho Md Mc⟩
   else if h:sq name ("pop" : Str)=true then some ⟨_,sq_ok h▸an.listM ho F.slot_list_pop F.type_list_pop⟩
   else if h:sq name ("clear" : Str)=true then some ⟨_,sq_ok h▸an.listM ho F.slot_list_clear F.type_list_clear⟩
   else none
  | some (.dict es n)=>if h:sq name ("get" : Str)=true then some ⟨_,sq_ok h▸an.dictM ho NP F.type_dict_get⟩
   else if h:sq name ("values" : Str)=true then some ⟨_,sq_ok h▸an.dictM ho F.slot_dict_values F.type_dict_values⟩
   else none
  | _=>none)
 | a=>F1 a name os
structure Fd (p:Nat->Bool) (l:List Nat) where
 k:Nat
 m:k∈l
 h:p k=true
noncomputable def fd (p:Nat->Bool):(l:List Nat)->Option (Fd p l)
 | []=>none
 | k::r=>match h:p k with
  | true=>some ⟨k,.head _,h⟩
  | false=>match fd p r with
   | some x=>some ⟨x.k,.tail _ x.m,x.h⟩
   | none=>none
noncomputable def L8:List Nat:=[0,1,2,3,4,5,6,7]
theorem ds (h:k∈L8):k < 8:=by
 simp only[L8,Ka,Kf,or_false] at h
 lia
noncomputable def IZ (w:J9) (D:Nat) (hD:2 <=D):CT (aa w) D:=fun f args kw os=>match f,args,kw with
 | .top (.ref a),[.str x,.str y,.int b],[]=>if ha:a=58 then(match fd (fun j=>sq x (wdN j)) L8 with
  | some j=>if hb:b=99 then(match fd (fun i=>sq y (qB j.k i)) L8 with
    | some i=>some ⟨.int (Dc i.k),os,[],fun _=>by
      have:=(Af w j.k i.k (ds j.m) (ds i.m) os).up hD
      rwa [<- sq_ok j.h,<- sq_ok i.h,<- ha,<- hb] at this⟩
    | none=>none)
   else if hb:b=3 then(match fd (fun i=>sq y (qB j.k i)) [0,6,7] with
    | some i=>some ⟨.int 4,os,[],fun _=>by
      have:=(zC w j.k i.k (ds j.m) i.m os).up hD
      rwa [<- sq_ok j.h,<- sq_ok i.h,<- ha,<- hb] at this⟩
    | none=>none)
   else(match fd (fun i=>sq y (wdN i)) L8 with
    | some i=>if hb:b=9 then some ⟨.int (levV j.k i.k 9),os,[],fun _=>by
      have:=(gC w j.k i.k 9 (ds j.m) (ds i.m) (by simp) os).up hD
      rw[<- sq_ok j.h,<- sq_ok i.h,<- ha] at this
      rw[hb];exact this⟩
     else if hb:b=0 then some ⟨.int (levV j.k i.k 0),os,[],fun _=>by
      have:=(gC w j.k i.k 0 (ds j.m) (ds i.m) (by simp) os).up hD
      rw[<- sq_ok j.h,<- sq_ok i.h,<- ha] at this
      rw[hb];exact this⟩
     else if hb:b=1 then some ⟨.int (levV j.k i.k 1),os,[],fun _=>by
      have:=(gC w j.k i.k 1 (ds j.m) (ds i.m) (by simp) os).up hD
      rw[<- sq_ok j.h,<- sq_ok i.h,<- ha] at this
      rw[hb];exact this⟩
     else if hb:b=2 then some ⟨.int (levV j.k i.k 2),os,[],fun _=>by
      have:=(gC w j.k i.k 2 (ds j.m) (ds i.m) (by simp) os).up hD
      rw[<- sq_ok j.h,<- sq_ok i.h,<- ha] at this
      rw[hb];exact this⟩
     else none
    | none=>none)
  | none=>none) else none
 | .top (.ref a),[.str x],[]=>if ha:a=893 then(match fd (fun j=>sq x (wdN j)) L8 with
  | some j=>some ⟨.str (aI j.k),os,[],fun _=>by
    have:=(i5 w j.k (ds j.m) os).up (Lh (by decide) hD)
    rwa [<- sq_ok j.h,<- ha] at this⟩
  | none=>none) else none
 | .top (.ref a),[.int i],[]=>(match fd (fun j=>i==(j:Int)) L8 with
  | some j=>if ha:a=914 then some ⟨.int (szN j.k),os,[],fun _=>by
     have:=(iG w j.k (ds j.m) os).up (Lh (by decide) hD)
     rwa [<- MB j.h,<- ha] at this⟩
    else if ha:a=900 then some ⟨.str (wdN j.k),os,[],fun _=>by
     have:=(gj w j.k (ds j.m) os).up (Lh (by decide) hD)
     rwa [<- MB j.h,<- ha] at this⟩
    else none
  | none=>none)
 | _,_,_=>none
noncomputable def Jz (op:CmpOp) (a b:V) (os:List O):Option (LR fun v os'=>ak g D op a b os v os'):=match op,a,b with
 | .NotEq,.ref i,.ref j=>(match h:iI os 5 (.ref i) (.ref j) with
  | some r=>some ⟨.bool (!r),os,cb (KS 5 (40 * D + 1)),fun q=>ak.neL h (La (b7 q))⟩
  | none=>none)
 | .Eq,.ref i,.ref j=>(match h:iI os 5 (.ref i) (.ref j) with
  | some r=>some ⟨.bool r,os,cb (KS 5 (40 * D + 1)),fun q=>ak.eqL h (La (b7 q))⟩
  | none=>none)
 | .In,a,.ref j=>(match hj:os[j]? with
  | some (.list xs)=>(match h:ll a xs with
   | some r=>some ⟨.bool r,os,[],fun _=>ak.inL hj h⟩
   | none=>none)
  | _=>none)
 | .NotIn,a,.ref j=>(match hj:os[j]? with
  | some (.list xs)=>(match h:ll a xs with
   | some r=>some ⟨.bool (!r),os,[],fun _=>ak.notInL hj h⟩
   | none=>none)
  | _=>none)
 | _,_,_=>none
noncomputable def X3 (w:J9):CX (aa w) 2:={ X0 w 2 (IZ w 2 (Km _)) with xb:=FI,xm:=Jr,xc:=Jz }
theorem HR.weak (x:HR P ρ os h) (hl:os'.length=os.length) (ho:∀(i:Nat) (o:O),os'[i]?=some o->o=.dead\/os[i]?=some o):HR P ρ os' h:=
 ⟨x.len.trans hl.symm,x.nd,x.hi,fun i o a h1 h2=>(ho i o h1).elim .inl fun e=>x.ob i o a e h2⟩
theorem aP.weak {loc:List (Str×V)} {t:Env->Sem α} (h:aP g D sc σ t R ⟨os,loc⟩) (hl:os'.length=os.length) (ho:∀(i:Nat) (o:O),os'[i]?=some o->o=.dead\/os[i]?=some o) :
  aP g D sc σ t R ⟨os',loc⟩:=fun A env ρ s he hr hs=>Kr (h A env ρ s he hr hs) (fun x s' ⟨ρ',r,st,go⟩=>⟨ρ',r,⟨st.hr.weak hl ho,st.er,st.k⟩,go⟩) fun _ _ z=>z
theorem Exs.forget {keep rest:List O} {loc:List (Str×V)} {b:List Kz} (h:Exs g D sc σ b f ⟨keep++rest,loc⟩):Exs g D sc σ b f ⟨keep++L5 rest.length .dead,loc⟩:=
 aP.weak h (by simp) fun i o e=>by
  by_cases hi:i < keep.length
  .rw[Kn hi] at e ⊢
   exact .inr e
  .rw[Ke (Lv hi),List.getElem?_replicate] at e
   split at e
   .exact .inl (Lu e).symm
   .exact nS e
theorem pS (elt t iter t2 iter2:Expr) (ifs2:List Expr) (scope:Scope) (pos:Pos) (it acc:Kd) (env:Env) :
  L9 (.ListComp elt [⟨t,iter,[],0⟩,⟨t2,iter2,ifs2,0⟩] scope pos) 1 it acc env=jQ t2 iter2 elt ifs2 [⟨t,iter,[],0⟩,⟨t2,iter2,ifs2,0⟩] scope pos 1 it acc env:=by rfl
theorem jz (elt t iter t2 iter2:Expr) (ifs2:List Expr) (scope:Scope) (pos:Pos) (it acc:Kd) (env:Env) :
  L9 (.ListComp elt [⟨t,iter,[],0⟩,⟨t2,iter2,ifs2,0⟩] scope pos) 0 it acc env=(do
   K8 iter.pos
   match <- pyNext it with
   | none=>pure (.done .next)
   | some v=>
    letOwnedTupleGo t it v
    assign t env v
    let x <- KP iter2 env
    K8 iter2.pos
    let x <- LP iter2 env x
    let _ <- runOwn (.compStart (.ListComp elt [⟨t,iter,[],0⟩,⟨t2,iter2,ifs2,0⟩] scope pos) 1 (<- K3 [x] (pyIter x)) acc env) env
    again (.compLoop (.ListComp elt [⟨t,iter,[],0⟩,⟨t2,iter2,ifs2,0⟩] scope pos) 0 it acc env)):=by rfl
theorem iQ {R:Mo->Kl->Prop} {c1:NE} {it acc:Kd}
  (h0:Ky (Kx prog w) A (.compLoop (.ListComp elt [c1,⟨t2,iter2,ifs2,0⟩] scope pos) 1 it acc env) R s)
  (h:J6 (Kx prog w) A (pyIter it) (fun it' s'=>Ky (Kx prog w) A (.compLoop (.ListComp elt [c1,⟨t2,iter2,ifs2,0⟩] scope pos) 1 it' acc env) R s')
   (notedBy (Kx prog w) A env fun x s'=>R (.error x) s') s) :
  Ky (Kx prog w) A (.compStart (.ListComp elt [c1,⟨t2,iter2,ifs2,0⟩] scope pos) 1 it acc env) R s:=by
 refine KV ?_
 show J6 _ _ ((compStart (.ListComp elt [c1,⟨t2,iter2,ifs2,0⟩] scope pos) 1 it acc env).onRaise (fun x=>do Ly x env;K8 theWindowsPlace)) _ _ s
 refine wpAny_notedAt ?_
 unfold compStart
 show J6 _ _ (ask >>=_) _ _ s
 refine J7 (wpAny_askSetting (wpAny_ite ?_))
 split
 .first
   | exact J7 (Kb (Kb (And.intro rfl h0)))
   | exact Kb (And.intro rfl h0)
 .first
   | exact J7 (wpAny_rule (J7 (KT (J7 (Kr h (fun it' s' h'=>Kb (And.intro rfl h')) fun _ _ x=>x)))))
   | (refine J7 (wpAny_rule ?_);show J6 _ _ (K8 iter2.pos >>=_) _ _ s;exact J7 (KT (J7 (Kr h (fun it' s' h'=>Kb (And.intro rfl h')) fun _ _ x=>x))))
inductive qs (g:G) (D:Nat) (sc:Scope) (t t2 iter2:Expr) (ifs2:List Expr) (elt:Expr) (nx:Nat->List O->Option (Option V)) (di:Nat) (σe:S):Nat->S->Prop where
 | stop {k:Nat}:nx k σe.os=some none->qs g D sc t t2 iter2 ifs2 elt nx di σe k σe
 | turn {k:Nat} {σ σ₁ σ₂ σ₃:S} {v a:V} {nx2:Nat->List O->Option (Option V)}:nx k σ.os=some (some v)->aX g D sc σ t v σ₁->Ev g D sc σ₁ iter2 a σ₂->aZ g D a σ₂.os nx2->
   ba g D sc t2 ifs2 elt nx2 di σ₃ 0 σ₂->qs g D sc t t2 iter2 ifs2 elt nx di σe (k + 1) σ₃->qs g D sc t t2 iter2 ifs2 elt nx di σe k σ
theorem v9 {t:Expr} (he:env.scope=sc) (hr:aB D A) (hs:∀env x,LP iter2 env x=pure x) (run:qs g D sc t t2 iter2 ifs2 elt nx di σe k σ) :
  ∀{itA acc:Kj} {P:Nat->Obj->Prop} {ρ₀ ρ:List Kj} {s₀ s:Kl} {R:Mo->Kl->Prop},bE g D (own env) itA P nx k ρ s->ρ[di]?=some acc->St g env σ ρ s->Go ([itA]++own env) ρ₀ s₀ ρ s->s₀.heap.get? itA=none->
   (∀ρ' s',ρ'[di]?=some acc->St g env σe ρ' s'->Go (own env) ρ₀ s₀ ρ' s'->R (.ok .next) s')->Ky (Kx PW g.w) A (.compLoop (.ListComp elt [⟨t,iter,[],0⟩,⟨t2,iter2,ifs2,0⟩] scope pos) 0 (.ref itA) (.ref acc) env) R s:=by
 induction run with
 | stop hx=>
  intro itA acc P ρ₀ ρ s₀ s R at_ ha st g0 hnew q
  refine KV ?_
  show J6 _ _ ((L9 (.ListComp elt [⟨t,iter,[],0⟩,⟨t2,iter2,ifs2,0⟩] scope pos) 0 (.ref itA) (.ref acc) env).onRaise (fun x=>do Ly x env;Le x)) _ _ s
  refine Lp ?_
  rw[jz]
  exact J7 (KT (J7 (at_.stop hr st hx g0 hnew fun s' st' g'=>Kb (q ρ s' ha st' g'))))
 | turn hx hat hel hit hrun _ ih=>
  intro itA acc P ρ₀ ρ s₀ s R at_ ha st g0 hnew q
  refine KV ?_
  show J6 _ _ ((L9 (.ListComp elt [⟨t,iter,[],0⟩,⟨t2,iter2,ifs2,0⟩] scope pos) 0 (.ref itA) (.ref acc) env).onRaise (fun x=>do Ly x env;Le x)) _ _ s
  refine Lp ?_
  rw[jz]
  refine J7 (KT (J7 (at_.item hr st hx fun y s1 ry at1 st1 g1=>?_)))
  obtain⟨ob,o1,o2⟩:=at1.ob
  refine J7 (dF o1 ((at1.nx []).tup _ _ o2) ?_)
  refine J7 (Kr (hat A env _ _ y he hr st1 ry) ?_ (fun _ _ z=>z.elim))
  rintro _ s2 ⟨ρ2,st2,g2⟩
  refine J7 (hel.use he hr st2 fun x s3 ρ3 rx st₃ g3=>J7 (KT (J7 (Nb (hs env x) (J7 (KQ ?_))))))
  refine bE.new hit rx hr st₃ fun itB P2 s4 at4 hnew4 st4 g4=>?_
  have ha3:ρ3[di]?=some acc:=by
   obtain⟨ν,e,_⟩:=(g2.trans g3).pre
   rw[e];exact get_app ha
  refine J7 (wpAny_runOwn (h:=none) ?_)
  have start:∀{Rr:Mo->Kl->Prop},(∀ρ' s',ρ'[di]?=some acc->St g env _ ρ' s'->Go (own env) ρ3 s3 ρ' s'->Rr (.ok .next) s')->
    Ky (Kx PW g.w) A (.compLoop (.ListComp elt [⟨t,iter,[],0⟩,⟨t2,iter2,ifs2,0⟩] scope pos) 1 (.ref itB) (.ref acc) env) Rr s4:=fun q'=>
   yN (fun it acc env=>pS elt t iter t2 iter2 ifs2 scope pos it acc env) he hr hrun (ρ₀:=ρ3) (s₀:=s3) at4 ha3 st4 g4.nil hnew4 q'
  refine iQ (start fun ρ' s' ha' st' g'=>?_) ?_
  .exact Kb (And.intro rfl (ih (((at1.go g2).go g3).go g') ha' st' ((g0.trans g1).trans (((g2.trans g3).trans g').weak fun a h=>Kt _ h)) hnew q))
  .obtain⟨ob',p1,p2⟩:=at4.ob
   refine(at4.nx []).again 0 A _ ob' _ _ p1 p2 (start fun ρ' s' ha' st' g'=>?_)
   exact Kb (And.intro rfl (ih (((at1.go g2).go g3).go g') ha' st' ((g0.trans g1).trans (((g2.trans g3).trans g').weak fun a h=>Kt _ h)) hnew q))
theorem yS {t:Expr} (hs:∀env x,LP iter2 env x=pure x) (run:qs g D sc t t2 iter2 ifs2 elt nx di σe 0 σ) :
  lS g D sc (.ListComp elt [⟨t,iter,[],0⟩,⟨t2,iter2,ifs2,0⟩] scope pos) nx di σe σ:=fun he hr _ _ _ _ _ _ _ _ at_ ha st go hn q=>v9 he hr hs run at_ ha st go hn q
noncomputable def out2 (X:CX g D) (sc:Scope) (R:Rc X sc) (t t2 iter2:Expr) (ifs2:List Expr) (elt:Expr) (nx:Nat->List O->Option (Option V)) (di:Nat):(fuel k:Nat)->(σ:S)->(o:aE)->Option (XR fun(_:Unit) σe=>qs g D sc t t2 iter2 ifs2 elt nx di σe k σ)
 | 0,_,_,_=>none
 | fuel + 1,k,σ,o=>match hx:nx k σ.os with
  | none=>none
  | some none=>some ⟨(),σ,o,[],fun _=>.stop hx⟩
  | some (some v)=>do
   let a <- evA X sc R t v σ o
   let b <- R.e iter2 a.s a.o
   let i <- iterF' X b.v b.s.os
   let z <- R.c t2 ifs2 elt i.nx di 0 b.s b.o
   let y <- out2 X sc R t t2 iter2 ifs2 elt nx di fuel (k + 1) z.s z.o
   some ⟨(),y.s,y.o,a.c++(b.c++(i.c++(z.c++y.c))),fun h=>.turn hx (a.ok h.l) (b.ok h.r.l) (i.ok h.r.r.l) (z.ok h.r.r.r.l) (y.ok h.r.r.r.r)⟩
noncomputable def AM (X:CX g D) (sc:Scope) (RA:(sc:Scope)->Rc X sc) (elt t iter t2 iter2:Expr) (ifs2:List Expr) (scope:Scope) (pos:Pos) (σ:S) (o:aE):Option (XE g D sc σ (.ListComp elt [⟨t,iter,[],0⟩,⟨t2,iter2,ifs2,0⟩] scope pos)):=
 if hh:(((isFn scope.kind).and (gI (scope.names.map (·.1)))).and ((lP sc scope.names).and (cv iter))).and (cv iter2)=true then do
  let a <- (RA sc).e iter σ o
  let i <- iterF' X a.v a.s.os
  let z <- out2 X (compSc scope sc) (RA (compSc scope sc)) t t2 iter2 ifs2 elt i.nx a.s.os.length 100 0 ⟨a.s.os++[.list []],cl0 a.s.loc scope.names⟩ a.o
  (match hl:iU z.s.loc scope.names a.s.loc with
  | some l=>some ⟨.ref a.s.os.length,⟨z.s.os,l⟩,z.o,a.c++(i.c++z.c),fun h=>by
    simp only[Kk] at hh
    have nd:=ej hh.1.1.2
    exact Ev.compG (a.ok h.l) (i.ok h.r.l) (iu hh.1.1.1) nd (gN hh.1.2.1) (kV nd) (yS (aD hh.2) (z.ok h.r.r)) (iV nd hl).1 (iV nd hl).2 (aD hh.1.2.2)⟩
  | none=>none)
 else none
noncomputable def IA (hk:Hk) (X:CX g D) (sc:Scope) (n:Nat) (e:Expr) (σ:S) (o:aE):Option (XE g D sc σ e):=match e with
 | .ListComp elt [⟨t,iter,[],0⟩,⟨t2,iter2,ifs2,0⟩] scope pos=>AM X sc (Rc.atH hk X n) elt t iter t2 iter2 ifs2 scope pos σ o
 | _=>none
theorem ba.inv {t:Expr} (I:Nat->S->Prop)
  (turn:∀k σ,k < n->I k σ->∃v σ₁ σ₂,nx k σ.os=some (some v)/\aX g D sc σ t v σ₁/\((gV g D sc σ₁ ifs false σ₂/\I (k + 1) σ₂)\/
   ∃y σ₃ vs,gV g D sc σ₁ ifs true σ₂/\Ev g D sc σ₂ elt y σ₃/\σ₃.os[di]?=some (.list vs)/\vs.length <=Kg/\I (k + 1) ⟨σ₃.os.set di (.list (vs++[y])),σ₃.loc⟩))
  (stop:∀σ,I n σ->nx n σ.os=some none):∀m k σ,k + m=n->I k σ->∃σe,I n σe/\ba g D sc t ifs elt nx di σe k σ:=fun m=>by
 induction m with
 | zero=>
  intro k σ e h
  have e:k=n:=e
  subst e
  exact⟨σ,h,.stop (stop σ h)⟩
 | succ m ih=>
  intro k σ e h
  obtain⟨v,σ₁,σ₂,h1,h2,⟨h3,h4⟩ | ⟨y,σ₃,vs,h3,h4,h5,h6,h7⟩⟩:=turn k σ (by lia) h
  .obtain⟨σe,he,hr⟩:=ih (k + 1) σ₂ (by lia) h4
   exact⟨σe,he,.skip h1 h2 h3 hr⟩
  .obtain⟨σe,he,hr⟩:=ih (k + 1) _ (by lia) h7
   exact⟨σe,he,.keep h1 h2 h3 h4 h5 h6 hr⟩
noncomputable def fP (sc scope:Scope) (iter:Expr):Bool:=((isFn scope.kind).and (gI (scope.names.map (·.1)))).and ((lP sc scope.names).and (cv iter))
theorem Ev.compI {t:Expr} {a:V} (hi:Ev g D sc σ iter a σ₁) (hit:aZ g D a σ₁.os nx) (hh:fP sc scope iter=true)
  (run:ba g D (compSc scope sc) t ifs elt nx σ₁.os.length σe 0 ⟨σ₁.os++[.list []],cl0 σ₁.loc scope.names⟩) (hf:∀x,(x,Ks)∈scope.names->σ₁.loc.lookup x=σe.loc.lookup x) :
  Ev g D sc σ (.ListComp elt [⟨t,iter,ifs,0⟩] scope pos) (.ref σ₁.os.length) ⟨σe.os,σ₁.loc⟩:=by
 simp only[fP,Kk] at hh
 have nd:=ej hh.1.2
 exact Ev.comp hi hit (iu hh.1.1) nd (gN hh.2.1) (kV nd) run hf (fun _ _=>rfl) (aD hh.2.2)
noncomputable def fb (s:Scope) (e:Expr):Expr:=.ListComp (eN 0 e) [⟨(ag e).target,(ag e).iter,(ag e).ifs,0⟩] (cSc s e) (eP e)
theorem ba.fm {t:Expr} {w:Nat->V} (p:Nat->Bool) (f:Nat->V)
  (ht:∃q,t=.Name x q) (hx:aK sc x) (hn:n <=Kg)
  (hnx:∀k acc,nx k (os++[.list acc])=some (if k < n then some (w k) else none))
  (hput:∀v u,put (put l0 x v) x u=put l0 x u)
  (hif:∀k acc,k < n->gV g D sc ⟨os++[.list acc],put l0 x (w k)⟩ ifs (p k) ⟨os++[.list acc],put l0 x (w k)⟩)
  (hel:∀k acc,k < n->p k=true->Ev g D sc ⟨os++[.list acc],put l0 x (w k)⟩ elt (f k) ⟨os++[.list acc],put l0 x (w k)⟩) :
  ∃l,(l=l0\/∃v,l=put l0 x v)/\ba g D sc t ifs elt nx os.length ⟨os++[.list (((K0 n).filter p).map f)],l⟩ 0 ⟨os++[.list []],l0⟩:=by
 obtain⟨σe,he,hr⟩:=ba.inv (g:=g) (D:=D) (sc:=sc) (t:=t) (elt:=elt) (ifs:=ifs) (nx:=nx) (di:=os.length) (n:=n)
  (fun k σ=>σ.os=os++[.list (((K0 k).filter p).map f)]/\(σ.loc=l0\/∃v,σ.loc=put l0 x v))
  (fun k σ hk h=>by
   have hp:put σ.loc x (w k)=put l0 x (w k):=by
    rcases h.2 with e | ⟨v,e⟩ <;> rw[e]
    exact hput _ _
   have ha:aX g D sc σ t (w k) ⟨os++[.list (((K0 k).filter p).map f)],put l0 x (w k)⟩:=by
    obtain⟨q,rfl⟩:=ht
    rw[<- h.1,<- hp]
    exact aX.name hx
   refine⟨w k,_,⟨os++[.list (((K0 k).filter p).map f)],put l0 x (w k)⟩,by rw[h.1,hnx,if_pos hk],ha,?_⟩
   have hi:=hif k (((K0 k).filter p).map f) hk
   cases hpk:p k with
   | false=>exact .inl ⟨hpk▸hi,by rw[List.range_succ,Mw];simp[hpk],.inr ⟨_,rfl⟩⟩
   | true=>
    refine .inr ⟨f k,_,((K0 k).filter p).map f,hpk▸hi,hel k _ hk hpk,by simp,?_,?_,.inr ⟨_,rfl⟩⟩
    .rw[KU]
     exact Lh (LC _ _) (by rw[M0];lia)
    .rw[List.range_succ,Mw]
     simp[hpk])
  (fun σ h=>by rw[h.1,hnx,if_neg (KM _)]) n 0 ⟨os++[.list []],l0⟩ (by lia) ⟨rfl,.inl rfl⟩
 refine⟨σe.loc,he.2,?_⟩
 have e:σe=⟨os++[.list (((K0 n).filter p).map f)],σe.loc⟩:=by cases σe;cases he.1;rfl
 rw[<- e]
 exact hr
theorem dy (P:α->Bool) (F:α->β) (d:α) (ms:List α):((K0 ms.length).filter fun k=>P (ms.getD k d)).map (fun k=>F (ms.getD k d))=(ms.filter P).map F:=by
 induction ms with
 | nil=>rfl
 | cons a r ih=>
  rw[Li,List.range_succ_eq_map,Ml]
  simp only[List.getD_cons_zero]
  have e:((KB Nat.succ (K0 r.length)).filter fun k=>P ((a::r).getD k d)).map (fun k=>F ((a::r).getD k d))=(r.filter P).map F:=by
   rw[List.filter_map,LU,<- ih]
   rfl
  split
  .rw[K6,e,Ml,if_pos (by assumption)];rfl
  .rw[e,Ml,if_neg (by assumption)]
set_option tactic.hygienic true in
theorem Ev.compL {loc:List (Str×V)} {t:Expr} {W F:Nat->V} (P:Nat->Bool)
  (hi:Ev g D sc ⟨os,loc⟩ iter (.ref i) ⟨os,loc⟩) (ho:os[i]?=some (.list (ms.map W))) (hh:fP sc scope iter=true) (ht:∃q,t=.Name x q) (hx:aK (compSc scope sc) x) (hn:ms.length <=Kg)
  (hl0:cl0 loc scope.names=l0) (hput:∀v u,put (put l0 x v) x u=put l0 x u) (hfree:∀y,(y,Ks)∈scope.names->loc.lookup y=l0.lookup y/\∀v,(put l0 x v).lookup y=l0.lookup y)
  (hif:∀m∈ms,∀acc,gV g D (compSc scope sc) ⟨os++[.list acc],put l0 x (W m)⟩ ifs (P m) ⟨os++[.list acc],put l0 x (W m)⟩)
  (hel:∀m∈ms,P m=true->∀acc,Ev g D (compSc scope sc) ⟨os++[.list acc],put l0 x (W m)⟩ elt (F m) ⟨os++[.list acc],put l0 x (W m)⟩) :
  Ev g D sc ⟨os,loc⟩ (.ListComp elt [⟨t,iter,ifs,0⟩] scope pos) (.ref os.length) ⟨os++[.list ((ms.filter P).map F)],loc⟩:=by
 have hlt:i < os.length:=(List.getElem?_eq_some_iff.mp ho).1
 have mem:∀k,k < ms.length->ms.getD k 0∈ms:=fun k hk=>by rw[Kh,Kc hk];exact Lk hk
 obtain⟨l,hl,run⟩:=ba.fm (g:=g) (D:=D) (sc:=compSc scope sc) (t:=t) (elt:=elt) (ifs:=ifs) (x:=x) (nx:=cg i) (os:=os) (l0:=l0) (n:=ms.length) (w:=fun k=>W (ms.getD k 0)) (fun k=>P (ms.getD k 0)) (fun k=>F (ms.getD k 0)) ht hx hn
  (fun k acc=>by
   rw[bv (vs:=ms.map W) (by rw[Kn hlt];exact ho),KX]
   split
   .rename_i hk
    rw[Kc hk,Kh,Kc hk];rfl
   .rename_i hk
    rw[Kv (Lv hk)];rfl)
  hput (fun k acc hk=>hif _ (mem k hk) acc) (fun k acc hk hp=>hel _ (mem k hk) hp acc)
 rw[dy] at run
 refine Ev.compI hi (aZ.list ho) hh (hl0▸run) fun y hy=>?_
 obtain⟨h1,h2⟩:=hfree y hy
 rcases hl with rfl | ⟨v,rfl⟩
 .exact h1
 .show _=(put l0 x v).lookup y
  rw[h2 v,h1]
noncomputable def fC:List Kz:=(bt 44).2.1
noncomputable def fQ:Kz:=ah fC 0
noncomputable def d7:Kz:=ah (af fQ) 0
noncomputable def mkI (ms:List Nat):List V:=ms.map fun(m:Nat)=>V.int (m:Int)
noncomputable def mkW (ms:List Nat):List V:=ms.map fun m=>V.str (wdN m)
theorem dL {a:Nat} (h:ms[k]?=some a):(mkI ms)[k]?=some (.int a):=by simp[mkI,h]
theorem cL {a:Nat} (h:ms[k]?=some a):(mkW ms)[k]?=some (.str (wdN a)):=by simp[mkW,h]
theorem cK (ms:List Nat):(mkI ms).length=ms.length:=by simp[mkI]
theorem aG (ms:List Nat):(mkW ms).length=ms.length:=by simp[mkW]
theorem n9:∀a:Nat,a < 8->∀b:Nat,b < 8->MI (a:Int) (b:Int)=((a ^^^ b:Nat):Int)/\(a ^^^ b) < 8/\levV a b 9=szN (a ^^^ b):=by decide +kernel
theorem kG (w:J9) (a b:Nat) (ha:a < 8) (hb:b < 8) (os:List O):Cl (aa w) 1 (.top (.ref 914)) [.int (MI (a:Int) (b:Int))] [] os (.int (szN (a ^^^ b))) os:=by
 rw[(n9 a ha b hb).1]
 exact iG w _ (n9 a ha b hb).2.1 os
theorem aJ {xs:List V} (ho:os[i]?=some (.list xs)) (hk:(k:Int) < 2 ^ 63) (hv:xs[k]?=some v):au g D (.ref i) (.int k) os v os:=fun value slice hs=>
 dm.listItem ho (Int.natCast_nonneg k) hk (by simpa using hv) hs
noncomputable def IK (a b:Nat):Hk:={ u:=[(920,37,920,45,fun _ _ _=>.str (wdN a)),(920,47,920,55,fun _ _ _=>.str (wdN b)),(920,73,920,81,fun _ _ _=>.int a),(920,84,920,92,fun _ _ _=>.int b)],c:=[(920,15,920,59,fun _ _ os=>(.int (levV a b 9),os)),(920,63,920,93,fun _ _ os=>(.int (szN (a ^^^ b)),os))] }
theorem yM (w:J9) (ms:List Nat) (h8:∀m∈ms,m < 8) (hn:ms.length <=100) (j k a b:Nat) (ha:ms[j]?=some a) (hb:ms[k]?=some b) (rest:List O) :
  Exs (aa w) 2 aY.scope ⟨.list (mkI ms)::.list (mkW ms)::rest,[("masks",.ref 0),("words",.ref 1),("j",.int j),("k",.int k)]⟩ (af d7) .next ⟨.list (mkI ms)::.list (mkW ms)::rest,[("masks",.ref 0),("words",.ref 1),("j",.int j),("k",.int k)]⟩:=by
 have hj:j < ms.length:=(List.getElem?_eq_some_iff.mp ha).1
 have hk:k < ms.length:=(List.getElem?_eq_some_iff.mp hb).1
 have a8:=h8 a (Kq ha)
 have b8:=h8 b (Kq hb)
 refine iO (hk:=IK a b) (X:=X0 w 2 aq) (n:=12) (o:={ ts:=[(920,15,false)] })
  (c:=[.b (levV a b 9 !=szN (a ^^^ b)) false,.p (au (aa w) 2 (.ref 1) (.int j) (.list (mkI ms)::.list (mkW ms)::rest) (.str (wdN a)) (.list (mkI ms)::.list (mkW ms)::rest)),
   .p (au (aa w) 2 (.ref 1) (.int k) (.list (mkI ms)::.list (mkW ms)::rest) (.str (wdN b)) (.list (mkI ms)::.list (mkW ms)::rest)),
   .p (Cl (aa w) 2 (.top (.ref 58)) [.str (wdN a),.str (wdN b),.int 9] [] (.list (mkI ms)::.list (mkW ms)::rest) (.int (levV a b 9)) (.list (mkI ms)::.list (mkW ms)::rest)),
   .p (au (aa w) 2 (.ref 0) (.int j) (.list (mkI ms)::.list (mkW ms)::rest) (.int a) (.list (mkI ms)::.list (mkW ms)::rest)),
   .p (au (aa w) 2 (.ref 0) (.int k) (.list (mkI ms)::.list (mkW ms)::rest) (.int b) (.list (mkI ms)::.list (mkW ms)::rest)),
   .p (Cl (aa w) 2 (.top (.ref 914)) [.int (MI (a:Int) (b:Int))] [] (.list (mkI ms)::.list (mkW ms)::rest) (.int (szN (a ^^^ b))) (.list (mkI ms)::.list (mkW ms)::rest))]) ∅ ?_
 refine⟨?_,?_,?_,?_,?_,?_,?_,trivial⟩
 .show(levV a b 9 !=szN (a ^^^ b))=false
  rw[(n9 a a8 b b8).2.2];simp
 .exact aJ rfl (by lia) (cL ha)
 .exact aJ rfl (by lia) (cL hb)
 .exact gC w a b 9 a8 b8 (by simp) _
 .exact aJ rfl (by lia) (dL ha)
 .exact aJ rfl (by lia) (dL hb)
 .exact(kG w a b a8 b8 _).up (by lia)
theorem Gn:KS 1 Kg=true:=∅
noncomputable def X2 (w:J9):CX (aa w) 2:={ X0 w 2 aq with xb:=FI }
theorem fp (j n:Nat) (hj:j < n) (hn:n <=1000):Ln (j:Int) n 1=((n - j:Nat):Int)/\Mt (j:Int) n 1=true:=by
 have hs:Ln (j:Int) n 1=((n - j:Nat):Int):=by
  unfold Ln
  rw[if_pos (by decide),if_pos (by lia),Int.ediv_one]
  lia
 refine⟨hs,?_⟩
 unfold Mt
 rw[hs]
 unfold Builtin.Range.rangeFitsLong
 simp only[Kk,decide_eq_true_eq,Bool.or_eq_true,beq_iff_eq]
 refine⟨⟨⟨⟨?_,?_⟩,?_⟩,?_⟩,.inr ?_⟩ <;> simp <;> lia
noncomputable def osA (ms:List Nat):List O:=[.list (mkI ms),.list (mkW ms),.range 0 ms.length 1]
noncomputable def osB (ms:List Nat) (j:Nat):List O:=[.list (mkI ms),.list (mkW ms),.range 0 ms.length 1,.list [.int 0],.range j ms.length 1,.list (b9 j 1 (ms.length - j)),.list ([.int 0]++b9 j 1 (ms.length - j))]
noncomputable def og (ms:List Nat):List O:=[.list (mkI ms),.list (mkW ms),.range 0 ms.length 1,.list [.int 0]]
noncomputable def ve (ms:List Nat) (j:Nat):List O:=[.list (mkI ms),.list (mkW ms),.range 0 ms.length 1,.list [.int 0],.range j ms.length 1]
noncomputable def Hu (ms:List Nat) (j:Nat):List O:=[.list (mkI ms),.list (mkW ms),.range 0 ms.length 1,.list [.int 0],.range j ms.length 1,.list (b9 j 1 (ms.length - j))]
noncomputable def lcA (j:Nat) (tl:List (Str×V)):List (Str×V):=("masks",.ref 0)::("words",.ref 1)::("j",.int j)::tl
noncomputable def J0 (ms:List Nat) (j:Nat):Hk:={ c:=[(919,37,919,47,fun _ _ os=>(.int ms.length,os)),(919,28,919,48,fun _ _ os=>(.ref os.length,os++[.range j ms.length 1])),(919,23,919,49,fun _ _ os=>(.ref os.length,os++[.list (b9 j 1 (ms.length - j))]))] }
theorem nZ (a c:Int) (n:Nat):(b9 a c n).length=n:=by simp[b9]
theorem Av (w:J9) (ms:List Nat) (hn:ms.length <=100) (j:Nat) (hj:j < ms.length) (tl:List (Str×V)) :
  Ev (aa w) 2 aY.scope ⟨osA ms,lcA j tl⟩ (sN 0 d7) (.ref 6) ⟨osB ms j,lcA j tl⟩:=by
 refine dp (hk:=J0 ms j) (X:=X2 w)
  (c:=[.b (KS 1 Kg) true,.p (Cl (aa w) 2 (.top (.builtin "len")) [.ref 1] [] (og ms) (.int ms.length) (og ms)),
   .p (Cl (aa w) 2 (.top (.type "range")) [.int j,.int ms.length] [] (og ms) (.ref 4) (ve ms j)),
   .p (Cl (aa w) 2 (.top (.type "list")) [.ref 4] [] (ve ms j) (.ref 5) (Hu ms j)),
   .p ([V.int 0].length + (b9 j 1 (ms.length - j)).length <=Kg)]) ∅ ?_
 refine⟨Gn,?_,?_,?_,?_,trivial⟩
 .have:=Cl.lenL (g:=aa w) (D:=2) (i:=1) (vs:=mkW ms) (os:=og ms) rfl (by rw[aG];lia)
  rwa [aG] at this
 .exact Cl.range2 (os:=og ms)
 .exact Cl.listRange (os:=ve ms j) (i:=4) rfl (fp j _ hj (by lia)).2 (fp j _ hj (by lia)).1 (by lia)
 .show 1 + (b9 j 1 (ms.length - j)).length <=Kg
  rw[nZ];unfold Kg;lia
theorem zz:d7=.For (sN 1 d7) (sN 0 d7) (af d7) [] (sP d7):=∅
theorem zG:fQ=.For (sN 1 fQ) (sN 0 fQ) [d7] [] (sP fQ):=∅
theorem HC:∃p,sN 1 d7=.Name "k" p:=⟨eP (sN 1 d7),∅⟩
theorem Hc:∃p,sN 1 fQ=.Name "j" p:=⟨eP (sN 1 fQ),∅⟩
noncomputable def Il (ms:List Nat) (j:Nat):List O:=[.list [.int 0],.range j ms.length 1,.list (b9 j 1 (ms.length - j)),.list ([.int 0]++b9 j 1 (ms.length - j))]
noncomputable def kx (x:V):List (Str×V):=[("k",x)]
noncomputable def lcZ (jj kk:Int):List (Str×V):=[("masks",.ref 0),("words",.ref 1),("j",.int jj),("k",.int kk)]
noncomputable def lc0:List (Str×V):=[("masks",.ref 0),("words",.ref 1)]
theorem Fo:aK aY.scope "k":=.inl ∅
theorem D9:aK aY.scope "j":=.inl ∅
theorem Cj:cv (sN 0 fQ)=true:=∅
theorem A8:cv (sN 0 d7)=true:=∅
theorem aX.nameE {t:Expr} (h:∃p,t=.Name x p) (hx:aK sc x):aX g D sc σ t v ⟨σ.os,put σ.loc x v⟩:=by
 obtain⟨p,rfl⟩:=h
 exact aX.name hx
theorem DC (hj:j < n) (hk:k < n - j + 1):∃kk,kk < n/\([V.int 0]++b9 j 1 (n - j))[k]?=some (.int ((kk:Nat):Int)):=by
 cases k with
 | zero=>exact⟨0,by lia,rfl⟩
 | succ k=>
  refine⟨j + k,by lia,?_⟩
  show(b9 j 1 (n - j))[k]?=_
  unfold b9
  rw[KX,MP (by lia)]
  simp
theorem CF (w:J9) (ms:List Nat) (h8:∀m∈ms,m < 8) (hn:ms.length <=100) (j:Nat) (hj:j < ms.length) (tl:List (Str×V)) (htl:tl=[]\/∃x,tl=kx x) :
  ∃kk,Ex (aa w) 2 aY.scope ⟨osA ms,lcA j tl⟩ d7 .next ⟨osB ms j,lcA j (kx (.int kk))⟩:=by
 have hput:∀v,put (lcA j tl) "k" v=lcA j (kx v):=fun v=>by
  rcases htl with rfl | ⟨x,rfl⟩ <;> rfl
 obtain⟨σe,he,hr⟩:=bH.inv (g:=aa w) (D:=2) (sc:=aY.scope) (t:=sN 1 d7) (body:=af d7) (nx:=cg 6) (n:=ms.length - j + 1)
  (fun k σ=>σ.os=osB ms j/\(∀v,put σ.loc "k" v=lcA j (kx v))/\(0 < k->∃kk,σ.loc=lcA j (kx (.int kk))))
  (fun k σ hk h=>by
   obtain⟨kk,hkk,hg⟩:=DC hj hk
   refine⟨.int kk,⟨osB ms j,lcA j (kx (.int kk))⟩,⟨osB ms j,lcA j (kx (.int kk))⟩,?_,?_,?_,rfl,fun v=>rfl,fun _=>⟨_,rfl⟩⟩
   .rw[h.1,bv (vs:=[.int 0]++b9 j 1 (ms.length - j)) rfl,hg]
   .rw[<- h.1,<- h.2.1];exact aX.nameE HC Fo
   .exact yM w ms h8 hn j kk _ _ (Kc hj) (Kc hkk) _)
  (fun σ h=>by
   rw[h.1,bv (vs:=[.int 0]++b9 j 1 (ms.length - j)) rfl]
   refine congrArg some (Kv ?_)
   show(b9 j 1 (ms.length - j)).length + 1 <=_
   rw[nZ];exact Km _)
  (ms.length - j + 1) 0 ⟨osB ms j,lcA j tl⟩ (by lia) ⟨rfl,hput,fun h=>absurd h (by lia)⟩
 obtain⟨kk,hloc⟩:=he.2.2 (by lia)
 refine⟨kk,?_⟩
 rw[zz]
 have e:σe=⟨osB ms j,lcA j (kx (.int kk))⟩:=by cases σe;cases he.1;cases hloc;rfl
 exact Ex.forRun (Av w ms hn j hj tl) (aZ.list (vs:=[.int 0]++b9 j 1 (ms.length - j)) rfl) (e▸hr) (aD A8)
theorem s6 (w:J9) (ms:List Nat) (hn:ms.length <=100):Ev (aa w) 2 aY.scope ⟨[.list (mkI ms),.list (mkW ms)],lc0⟩ (sN 0 fQ) (.ref 2) ⟨osA ms,lc0⟩:=by
 refine dp (hk:={ c:=[(918,19,918,29,fun _ _ os=>(.int ms.length,os))] }) (X:=X2 w)
  (c:=[.p (Cl (aa w) 2 (.top (.builtin "len")) [.ref 1] [] [.list (mkI ms),.list (mkW ms)] (.int ms.length) [.list (mkI ms),.list (mkW ms)])]) ∅ ?_
 refine⟨?_,trivial⟩
 have:=Cl.lenL (g:=aa w) (D:=2) (i:=1) (vs:=mkW ms) (os:=[.list (mkI ms),.list (mkW ms)]) rfl (by rw[aG];lia)
 rwa [aG] at this
theorem yL (w:J9) (ms:List Nat) (h8:∀m∈ms,m < 8) (hn:ms.length <=100) (h0:0 < ms.length) :
  ∃jj kk,Ex (aa w) 2 aY.scope ⟨[.list (mkI ms),.list (mkW ms)],lc0⟩ fQ .next ⟨osA ms,lcZ jj kk⟩:=by
 obtain⟨σe,he,hr⟩:=bH.inv (g:=aa w) (D:=2) (sc:=aY.scope) (t:=sN 1 fQ) (body:=[d7]) (nx:=bF 0 1 ms.length) (n:=ms.length)
  (fun k σ=>σ.os=osA ms/\(∀j:Nat,∃tl,put σ.loc "j" (.int j)=lcA j tl/\(tl=[]\/∃x,tl=kx x))/\(0 < k->∃jj kk,σ.loc=lcZ jj kk))
  (fun k σ hk h=>by
   obtain⟨tl,e1,e2⟩:=h.2.1 k
   obtain⟨kk,hx⟩:=CF w ms h8 hn k hk tl e2
   refine⟨.int k,⟨osA ms,lcA k tl⟩,⟨osA ms,lcA k (kx (.int kk))⟩,?_,?_,?_,rfl,fun j=>⟨kx (.int kk),rfl,.inr ⟨_,rfl⟩⟩,fun _=>⟨_,_,rfl⟩⟩
   .unfold bF;rw[if_pos hk];simp
   .rw[<- h.1,<- e1];exact aX.nameE Hc D9
   .exact Exs.cons (Ex.drop (os:=osA ms) (μ:=Il ms k) (loc':=lcA k (kx (.int kk))) hx (fun p hp=>by
     simp only[lcA,kx,Ka,Kf,or_false] at hp
     rcases hp with rfl | rfl | rfl | rfl <;> rfl) (fun v h=>by cases h)) Exs.nil)
  (fun σ h=>by unfold bF;rw[if_neg (by lia)])
  ms.length 0 ⟨osA ms,lc0⟩ (by lia) ⟨rfl,fun j=>⟨[],rfl,.inl rfl⟩,fun h=>absurd h (by lia)⟩
 obtain⟨jj,kk,hloc⟩:=he.2.2 h0
 refine⟨jj,kk,?_⟩
 rw[zG]
 have e:σe=⟨osA ms,lcZ jj kk⟩:=by cases σe;cases he.1;cases hloc;rfl
 have sm:=fp 0 ms.length h0 (by lia)
 exact Ex.forRun (s6 w ms hn) (aZ.range (a:=0) (b:=ms.length) (c:=1) rfl sm.2 (by simpa using sm.1)) (e▸hr) (aD Cj)
noncomputable def lc6 (jj kk:Int) (a:Nat):List (Str×V):=[("masks",.ref 0),("words",.ref 1),("j",.int jj),("k",.int kk),("word",.str (wdN a)),("others",.ref 10)]
noncomputable def eU (w:J9) (ms:List Nat) (jj kk:Int) (a:Nat):Option (uG (aa w) 2 aY.scope ⟨osA ms,lcZ jj kk⟩ ((fC.drop 1).take 5)):=
 k7 { u:=[(922,11,922,19,fun _ _ _=>.str (wdN a))] } (X3 w) aY.scope 30 ((fC.drop 1).take 5) ⟨osA ms,lcZ jj kk⟩ {}
noncomputable def Dv (x:Option (XR J)):List O:=match x with
 | some r=>r.s.os
 | none=>[]
noncomputable def gP (ms:List Nat):List O:=[.list (mkI ms),.list (mkW ms)]
noncomputable def lg (w:J9) (ms:List Nat) (a:Nat):Prop:=au (aa w) 2 (.ref 1) (.int 0) (osA ms) (.str (wdN a)) (osA ms)
noncomputable def lM (w:J9) (ms:List Nat) (jj kk:Int) (a:Nat):List O:=gP ms++(Dv (eU w ms jj kk a)).drop 2
theorem ED (w:J9) (ms:List Nat) (jj kk:Int):km (eU w ms jj kk 0)=some (.next,⟨lM w ms jj kk 0,lc6 jj kk 0⟩,[lg w ms 0]):=∅
theorem EC (w:J9) (ms:List Nat) (jj kk:Int):km (eU w ms jj kk 1)=some (.next,⟨lM w ms jj kk 1,lc6 jj kk 1⟩,[lg w ms 1]):=∅
theorem E8 (w:J9) (ms:List Nat) (jj kk:Int):km (eU w ms jj kk 2)=some (.next,⟨lM w ms jj kk 2,lc6 jj kk 2⟩,[lg w ms 2]):=∅
theorem En (w:J9) (ms:List Nat) (jj kk:Int):km (eU w ms jj kk 3)=some (.next,⟨lM w ms jj kk 3,lc6 jj kk 3⟩,[lg w ms 3]):=∅
theorem DX (w:J9) (ms:List Nat) (jj kk:Int):km (eU w ms jj kk 4)=some (.next,⟨lM w ms jj kk 4,lc6 jj kk 4⟩,[lg w ms 4]):=∅
theorem Fb (w:J9) (ms:List Nat) (jj kk:Int):km (eU w ms jj kk 5)=some (.next,⟨lM w ms jj kk 5,lc6 jj kk 5⟩,[lg w ms 5]):=∅
theorem Ef (w:J9) (ms:List Nat) (jj kk:Int):km (eU w ms jj kk 6)=some (.next,⟨lM w ms jj kk 6,lc6 jj kk 6⟩,[lg w ms 6]):=∅
theorem Fw (w:J9) (ms:List Nat) (jj kk:Int):km (eU w ms jj kk 7)=some (.next,⟨lM w ms jj kk 7,lc6 jj kk 7⟩,[lg w ms 7]):=∅
theorem EL (w:J9) (ms:List Nat) (jj kk:Int):∀a,a < 8->((Dv (eU w ms jj kk a)).drop 2).length=14
 | 0,_=>∅
 | 1,_=>∅
 | 2,_=>∅
 | 3,_=>∅
 | 4,_=>∅
 | 5,_=>∅
 | 6,_=>∅
 | 7,_=>∅
theorem zp (w:J9) (ms:List Nat) (jj kk:Int):∀a,a < 8->km (eU w ms jj kk a)=some (.next,⟨lM w ms jj kk a,lc6 jj kk a⟩,[lg w ms a])
 | 0,_=>ED w ms jj kk
 | 1,_=>EC w ms jj kk
 | 2,_=>E8 w ms jj kk
 | 3,_=>En w ms jj kk
 | 4,_=>DX w ms jj kk
 | 5,_=>Fb w ms jj kk
 | 6,_=>Ef w ms jj kk
 | 7,_=>Fw w ms jj kk
noncomputable def osD (ms:List Nat):List O:=gP ms++L5 14 .dead
theorem A7 (w:J9) (ms:List Nat) (h8:∀m∈ms,m < 8) (jj kk:Int) (a:Nat) (ha:ms[0]?=some a):Exs (aa w) 2 aY.scope ⟨osA ms,lcZ jj kk⟩ ((fC.drop 1).take 5) .next ⟨osD ms,lc6 jj kk a⟩:=by
 have a8:=h8 a (Kq ha)
 have h:=uz (zp w ms jj kk a a8) ⟨aJ (k:=0) rfl (by decide) (cL ha),trivial⟩
 have:=Exs.forget (keep:=gP ms) h
 rw[EL w ms jj kk a a8] at this
 exact this
noncomputable def bR:Kz:=ah fC 6
noncomputable def FX:List O:=[.list [.int 1,.int (-3)],.list [.ref 19,.ref 20,.ref 21,.ref 23,.ref 24,.ref 25],.list [.int 0,.int 1,.int 2],.tuple [.int 1,.int 0],.tuple [.int 1,.int 1],.tuple [.int 1,.int 2],.list [.int 0,.int 1,.int 2],.tuple [.int (-3),.int 0],.tuple [.int (-3),.int 1],.tuple [.int (-3),.int 2]]
noncomputable def EM:List O:=[.dead,.dead,.dead,.dead,.dead,.dead,.dead,.dead,.dead,.dead,.dead,.dead,.dead,.dead]
noncomputable def osE (ms:List Nat):List O:=.list (mkI ms)::.list (mkW ms)::.dead::.dead::.dead::.dead::.dead::.dead::.dead::.dead::.dead::.dead::.dead::.dead::.dead::.dead::FX
theorem BS (w:J9) (ms:List Nat) (jj kk:Int) (a:Nat):Ev (aa w) 2 aY.scope ⟨osD ms,lc6 jj kk a⟩ (sN 0 bR) (.ref 17) ⟨osE ms,lc6 jj kk a⟩:=
 uz (x:=IA {} (X3 w) aY.scope 20 (sN 0 bR) ⟨osD ms,lc6 jj kk a⟩ {}) (ps:=[]) ∅ trivial
noncomputable def qV (a b m:Nat):Hk:={ u:=[(930,31,930,39,fun _ _ _=>.int a),(930,42,930,50,fun _ _ _=>.int b),(930,75,930,83,fun _ _ _=>.str (wdN a)),(930,85,930,93,fun _ _ _=>.str (wdN b))],c:=[(930,21,930,51,fun _ _ os=>(.int (szN (a ^^^ b)),os)),(930,53,930,101,fun _ _ os=>(.int (levV a b m),os))] }
noncomputable def lcF (jj kv:Int) (x m:Nat) (tl:List (Str×V)):List (Str×V):=("masks",.ref 0)::("words",.ref 1)::("j",.int jj)::("k",.int kv)::("word",.str (wdN x))::("others",.ref 10)::("bound",.int m)::tl
noncomputable def tl2 (t d:V):List (Str×V):=[("told",t),("due",d)]
noncomputable def osTu (ms:List Nat) (d t:Int):List O:=osE ms++[.tuple [.int d,.int t]]
noncomputable def wX (w:J9) (ms:List Nat) (kv:Int) (a b m:Nat):List de:=[.p (au (aa w) 2 (.ref 0) (.int 0) (osE ms) (.int a) (osE ms)),.p (au (aa w) 2 (.ref 0) (.int kv) (osE ms) (.int b) (osE ms)),
 .p (Cl (aa w) 2 (.top (.ref 914)) [.int (MI (a:Int) (b:Int))] [] (osE ms) (.int (szN (a ^^^ b))) (osE ms)),
 .p (au (aa w) 2 (.ref 1) (.int 0) (osE ms) (.str (wdN a)) (osE ms)),.p (au (aa w) 2 (.ref 1) (.int kv) (osE ms) (.str (wdN b)) (osE ms)),
 .p (Cl (aa w) 2 (.top (.ref 58)) [.str (wdN a),.str (wdN b),.int m] [] (osE ms) (.int (levV a b m)) (osE ms)),.b true true]
noncomputable def cA (w:J9) (ms:List Nat) (kv:Int) (a b m:Nat):List de:=wX w ms kv a b m++[.b (decide (szN (a ^^^ b) <=(m:Int))) true,.b (levV a b m !=szN (a ^^^ b)) false,.b (decide ((m:Int) < szN (a ^^^ b))) false]
noncomputable def cB (w:J9) (ms:List Nat) (kv:Int) (a b m:Nat):List de:=wX w ms kv a b m++[.b (decide (szN (a ^^^ b) <=(m:Int))) false,.b (decide ((m:Int) < szN (a ^^^ b))) true,.b (decide (levV a b m <=(m:Int))) false]
theorem lev_due:∀a:Nat,a < 8->∀b:Nat,b < 8->∀m:Nat,m < 3->(szN (a ^^^ b) <=(m:Int)/\levV a b m=szN (a ^^^ b))\/((m:Int) < szN (a ^^^ b)/\(m:Int) < levV a b m):=by decide +kernel
theorem H5 (w:J9) (ms:List Nat) (jj kv:Int) (x a b m:Nat):vw (k7 (qV a b m) (X3 w) aY.scope 12 (af bR) ⟨osE ms,lcF jj kv x m []⟩ { ts:=[(931,11,true),(931,28,false),(931,44,false)] })=some (.next,⟨osTu ms (szN (a ^^^ b)) (levV a b m),lcF jj kv x m (tl2 (.int (levV a b m)) (.int (szN (a ^^^ b))))⟩,cA w ms kv a b m):=∅
theorem H3 (w:J9) (ms:List Nat) (jj kv:Int) (x a b m:Nat) (t d:V):vw (k7 (qV a b m) (X3 w) aY.scope 12 (af bR) ⟨osE ms,lcF jj kv x m (tl2 t d)⟩ { ts:=[(931,11,true),(931,28,false),(931,44,false)] })=some (.next,⟨osTu ms (szN (a ^^^ b)) (levV a b m),lcF jj kv x m (tl2 (.int (levV a b m)) (.int (szN (a ^^^ b))))⟩,cA w ms kv a b m):=∅
theorem Gf (w:J9) (ms:List Nat) (jj kv:Int) (x a b m:Nat):vw (k7 (qV a b m) (X3 w) aY.scope 12 (af bR) ⟨osE ms,lcF jj kv x m []⟩ { ts:=[(931,11,false),(931,44,true),(931,60,false)] })=some (.next,⟨osTu ms (szN (a ^^^ b)) (levV a b m),lcF jj kv x m (tl2 (.int (levV a b m)) (.int (szN (a ^^^ b))))⟩,cB w ms kv a b m):=∅
theorem Hr (w:J9) (ms:List Nat) (jj kv:Int) (x a b m:Nat) (t d:V):vw (k7 (qV a b m) (X3 w) aY.scope 12 (af bR) ⟨osE ms,lcF jj kv x m (tl2 t d)⟩ { ts:=[(931,11,false),(931,44,true),(931,60,false)] })=some (.next,⟨osTu ms (szN (a ^^^ b)) (levV a b m),lcF jj kv x m (tl2 (.int (levV a b m)) (.int (szN (a ^^^ b))))⟩,cB w ms kv a b m):=∅
theorem BA (w:J9) (ms:List Nat) (jj kv:Int) (x a b m:Nat) (a8:a < 8) (b8:b < 8) (m3:m < 3) (ha:ms[0]?=some a) (hI:au (aa w) 2 (.ref 0) (.int kv) (osE ms) (.int b) (osE ms)) (hW:au (aa w) 2 (.ref 1) (.int kv) (osE ms) (.str (wdN b)) (osE ms))
  (tl:List (Str×V)) (htl:tl=[]\/∃t d,tl=tl2 t d) :
  ∃t d:Int,Exs (aa w) 2 aY.scope ⟨osE ms,lcF jj kv x m tl⟩ (af bR) .next ⟨osE ms,lcF jj kv x m (tl2 (.int t) (.int d))⟩:=by
 refine⟨levV a b m,szN (a ^^^ b),?_⟩
 have c0:aR (wX w ms kv a b m):=⟨aJ (k:=0) rfl (by decide) (dL ha),hI,(kG w a b a8 b8 _).up (by lia),aJ (k:=0) rfl (by decide) (cL ha),hW,
  gC w a b m a8 b8 (by simp only[Ka,Kf,or_false];lia) _,rfl,trivial⟩
 have main:Exs (aa w) 2 aY.scope ⟨osE ms,lcF jj kv x m tl⟩ (af bR) .next ⟨osTu ms (szN (a ^^^ b)) (levV a b m),lcF jj kv x m (tl2 (.int (levV a b m)) (.int (szN (a ^^^ b))))⟩:=by
  rcases lev_due a a8 b b8 m m3 with⟨h1,h2⟩ | ⟨h1,h2⟩
  .have c:aR (cA w ms kv a b m):=gQ.mpr ⟨c0,by show decide _=true;simpa using h1,by show(levV a b m !=szN (a ^^^ b))=false;rw[h2];simp,by show decide _=false;simpa using h1,trivial⟩
   rcases htl with rfl | ⟨t,d,rfl⟩
   .exact iO (H5 w ms jj kv x a b m) c
   .exact iO (H3 w ms jj kv x a b m t d) c
  .have c:aR (cB w ms kv a b m):=gQ.mpr ⟨c0,by show decide _=false;simpa using h1,by show decide _=true;simpa using h1,by show decide _=false;simpa using h2,trivial⟩
   rcases htl with rfl | ⟨t,d,rfl⟩
   .exact iO (Gf w ms jj kv x a b m) c
   .exact iO (Hr w ms jj kv x a b m t d) c
 exact Exs.drop (os:=osE ms) (μ:=[.tuple [.int (szN (a ^^^ b)),.int (levV a b m)]]) main (fun p hp=>by
  simp only[lcF,tl2,Ka,Kf,or_false] at hp
  rcases hp with rfl | rfl | rfl | rfl | rfl | rfl | rfl | rfl | rfl <;> rfl) (fun v h=>by cases h)
theorem yO:bR=.For (sN 1 bR) (sN 0 bR) (af bR) [] (sP bR):=∅
theorem G1:sN 1 bR=.Tuple (kH (sN 1 bR)) (jw (sN 1 bR)) (eP (sN 1 bR)):=∅
theorem Hv:iq (kH (sN 1 bR))=some [("k" : Str),"bound"]:=∅
theorem Ed:∀x∈[("k" : Str),"bound"],aK aY.scope x:=fun x hx=>by
 simp only[Ka,Kf,or_false] at hx
 rcases hx with rfl | rfl <;> exact .inl ∅
theorem CE:cv (sN 0 bR)=true:=∅
noncomputable def xd:Nat->Nat
 | 0=>19 | 1=>20 | 2=>21 | 3=>23 | 4=>24 | _=>25
noncomputable def jA (k:Nat):Int:=if k < 3 then 1 else -3
theorem FS (ms:List Nat) (k:Nat) (h:k < 6):cg 17 k (osE ms)=some (some (.ref (xd k)))/\(osE ms)[xd k]?=some (.tuple [.int (jA k),.int ((k % 3:Nat):Int)]):=by
 rcases k with _ | _ | _ | _ | _ | _ | k
 iterate 6 exact⟨rfl,rfl⟩
 exact absurd h (Nat.not_lt.mpr (Nat.le_add_left 6 k))
theorem pD {xs:List V} (ho:os[i]?=some (.list xs)) (h3:3 <=xs.length) (hv:xs[xs.length - 3]?=some v):au g D (.ref i) (.int (-3)) os v os:=fun value slice hs=>
 dm.listNeg ho (by decide) (by lia) (by decide) (by rw[show((-3:Int) + xs.length).toNat=xs.length - 3 by lia];exact hv) hs
theorem sD (w:J9) (ms:List Nat) (h8:∀m∈ms,m < 8) (h3:3 <=ms.length) (jj kk:Int) (a:Nat) (ha:ms[0]?=some a):∃loc,(∀p∈loc,bi 2 p.2=true\/p.2=.ref 10)/\
  Ex (aa w) 2 aY.scope ⟨osD ms,lc6 jj kk a⟩ bR .next ⟨osE ms,loc⟩/\∃kv x m t d,loc=lcF jj kv x m (tl2 (.int t) (.int d)):=by
 have a8:=h8 a (Kq ha)
 have ob':∃b,ms[1]?=some b:=⟨_,Kc (by lia)⟩
 obtain⟨b1,hb1⟩:=ob'
 have ob':∃b,ms[ms.length - 3]?=some b:=⟨_,Kc (by lia)⟩
 obtain⟨b3,hb3⟩:=ob'
 have subs:∀k,k < 6->∃b:Nat,b < 8/\au (aa w) 2 (.ref 0) (.int (jA k)) (osE ms) (.int b) (osE ms)/\au (aa w) 2 (.ref 1) (.int (jA k)) (osE ms) (.str (wdN b)) (osE ms):=fun k hk=>by
  unfold jA
  split
  .exact⟨b1,h8 b1 (Kq hb1),aJ (k:=1) rfl (by decide) (dL hb1),aJ (k:=1) rfl (by decide) (cL hb1)⟩
  .exact⟨b3,h8 b3 (Kq hb3),pD rfl (by rw[cK];exact h3) (by rw[cK];exact dL hb3),pD rfl (by rw[aG];exact h3) (by rw[aG];exact cL hb3)⟩
 obtain⟨σe,he,hr⟩:=bH.inv (g:=aa w) (D:=2) (sc:=aY.scope) (t:=sN 1 bR) (body:=af bR) (nx:=cg 17) (n:=6)
  (fun k σ=>σ.os=osE ms/\(∀kv m,∃tl,puts σ.loc ["k","bound"] [.int kv,.int ((m:Nat):Int)]=lcF jj kv a m tl/\(tl=[]\/∃t d,tl=tl2 t d))/\(0 < k->∃kv m t d,σ.loc=lcF jj kv a m (tl2 (.int t) (.int d))))
  (fun k σ hk h=>by
   obtain⟨tl,e1,e2⟩:=h.2.1 (jA k) (k % 3)
   obtain⟨b,b8,hI,hW⟩:=subs k hk
   obtain⟨t,d,hx⟩:=BA w ms jj (jA k) a a b (k % 3) a8 b8 (Nat.mod_lt _ (by decide)) ha hI hW tl e2
   refine⟨.ref (xd k),⟨osE ms,lcF jj (jA k) a (k % 3) tl⟩,⟨osE ms,lcF jj (jA k) a (k % 3) (tl2 (.int t) (.int d))⟩,?_,?_,hx,rfl,fun kv m=>⟨tl2 (.int t) (.int d),rfl,.inr ⟨_,_,rfl⟩⟩,fun _=>⟨_,_,_,_,rfl⟩⟩
   .rw[h.1];exact(FS ms k hk).1
   .rw[<- e1,G1]
    have:=aX.tuple (g:=aa w) (D:=2) (sc:=aY.scope) (σ:=σ) (k:=jw (sN 1 bR)) (tp:=eP (sN 1 bR)) (i:=xd k) (by rw[h.1];exact(FS ms k hk).2) (iY Hv) rfl Ed
    rw[h.1] at this
    exact this)
  (fun σ h=>by rw[h.1];rfl)
  6 0 ⟨osE ms,lc6 jj kk a⟩ (by lia) ⟨rfl,fun kv m=>⟨[],rfl,.inl rfl⟩,fun h=>absurd h (by lia)⟩
 obtain⟨kv,m,t,d,hloc⟩:=he.2.2 (by lia)
 refine⟨lcF jj kv a m (tl2 (.int t) (.int d)),fun p hp=>?_,?_,kv,a,m,t,d,rfl⟩
 .simp only[lcF,tl2,Ka,Kf,or_false] at hp
  rcases hp with rfl | rfl | rfl | rfl | rfl | rfl | rfl | rfl | rfl <;> first | exact .inl rfl | exact .inr rfl
 .rw[yO]
  have e:σe=⟨osE ms,lcF jj kv a m (tl2 (.int t) (.int d))⟩:=by cases σe;cases he.1;cases hloc;rfl
  exact Ex.forRun (BS w ms jj kk a) (aZ.list rfl) (e▸hr) (aD CE)
theorem wQ:fC=fQ::((fC.drop 1).take 5++[bR,ah fC 7]):=∅
theorem Gp (w:J9) (ms:List Nat) (jj kv:Int) (x m:Nat) (t d:V):Exs (aa w) 2 aY.scope ⟨osE ms,lcF jj kv x m (tl2 t d)⟩ [ah fC 7] (.ret (.bool true)) ⟨osE ms,lcF jj kv x m (tl2 t d)⟩:=
 jp (X:=X3 w) ∅
theorem GD:∀x y,K2 aY ⟨[x,y],[]⟩=pure [(J8 "masks",x),(J8 "words",y)]:=fun x y=>∅
theorem v5 (w:J9) (ms:List Nat) (h8:∀m∈ms,m < 8) (h3:3 <=ms.length) (hn:ms.length <=100):Cl (aa w) 3 (.top (.ref 919)) [.ref 0,.ref 1] [] (gP ms) (.bool true) (gP ms):=by
 have ob':∃a,ms[0]?=some a:=⟨_,Kc (by lia)⟩
 obtain⟨a,ha⟩:=ob'
 obtain⟨jj,kk,h1⟩:=yL w ms h8 hn (by lia)
 have h2:=A7 w ms h8 jj kk a ha
 obtain⟨loc,hl,h4,kv,x,m,t,d,e⟩:=sD w ms h8 h3 jj kk a ha
 have all:Exs (aa w) 2 aY.scope ⟨gP ms,lc0⟩ fC (.ret (.bool true)) ⟨osE ms,loc⟩:=by
  rw[wQ]
  refine Exs.cons h1 (Exs.app h2 (Exs.cons h4 ?_))
  rw[e]
  exact Gp w ms jj kv x m _ _
 have c:=Cl.def_ (D5 w) (bf.of2 GD (a:=.ref 0) (b:=.ref 1) (os:=gP ms)) (fun x hx=>by
  simp only[Ka,Kf,or_false] at hx
  rcases hx with rfl | rfl <;> exact .inl ∅) (by decide +kernel) all rfl ⟨nofun,nofun⟩
 exact Cl.drop (os:=gP ms) (μ:=EM++FX) c rfl
noncomputable def aA:List Kz:=(bt 47).2.1
noncomputable def eW:Expr:=sN 0 (ah aA 2)
noncomputable def eQ:Expr:=sN 0 (ah aA 3)
noncomputable def cN (e:Expr):Scope:=cSc aw.scope e
noncomputable def uN (ms:List Nat):List V:=ms.map fun(m:Nat)=>V.str (aI m)
theorem fE (ms:List Nat):ms.filter (fun _=>true)=ms:=List.filter_eq_self.mpr fun _ _=>rfl
noncomputable def lm (m:Nat):List (Str×V):=[("mask",.int m)]
theorem sU (w:J9) (D:Nat) (hD:1 <=D) (os:List O) (m:Nat) (hm:m < 8):Ev (aa w) D (compSc (cN eW) aw.scope) ⟨os,lm m⟩ (eN 0 eW) (.str (wdN m)) ⟨os,lm m⟩:=by
 refine dp (hk:={ c:=[(964,13,964,28,fun _ _ os=>(.str (wdN m),os))] }) (X:=X0 w D aq)
  (c:=[.p (Cl (aa w) D (.top (.ref 900)) [.int m] [] os (.str (wdN m)) os)]) ∅ ?_
 exact⟨(gj w m hm os).up hD,trivial⟩
theorem r8 (w:J9) (D:Nat) (hD:2 <=D) (os:List O) (m:Nat) (hm:m < 8):Ev (aa w) D (compSc (cN eQ) aw.scope) ⟨os,lm m⟩ (eN 0 eQ) (.str (aI m)) ⟨os,lm m⟩:=by
 refine dp (hk:={ c:=[(965,14,965,31,fun _ _ os=>(.str (aI m),os))] }) (X:=X0 w D aq)
  (c:=[.p (Cl (aa w) D (.top (.ref 907)) [.int m] [] os (.str (aI m)) os)]) ∅ ?_
 exact⟨(uh w m hm os).up hD,trivial⟩
theorem dz (h:kY names=true) {y:Str}:(y,Ks)∈names->False:=fun hy=>by
 have:=List.all_eq_true.mp h _ hy
 exact nB this
theorem Ex.assignC (h:Ev g D sc σ (.ListComp elt gens scope cp) v σ₁) (hc:sc.names.lookup x=some .cell) :
  Ex g D sc σ (.Assign [.Name x px] (.ListComp elt gens scope cp) pos) .next ⟨σ₁.os,put σ₁.loc x v⟩:=fun A env ρ s he hr hs=>by
 subst he
 have hk:env.kindOf x=some .cell:=hc
 have hsw:swapsWith (.ListComp elt gens scope cp) (some (.Name x px)) pos.line env=pure false:=by
  unfold swapsWith
  dsimp only
  rw[hk]
  have e:((some LH:Option Ko)==some .local)=false:=by decide
  rw[e,Bool.and_false,Bool.false_and,Bool.false_and]
 exact Nz (h.use rfl hr hs fun y s1 ρ1 r st1 g1=>dI st1 (.inr hc) r fun s' st' g'=>⟨ρ1,rfl,st',g1.trans g'⟩) hsw
noncomputable def remN (x:Int):Nat:=(x.fmod 8).toNat
noncomputable def kQ:List Int:=[0,1,3,7,4,6]
noncomputable def kj (xs:List Int):List Int:=xs.take 5++kQ
noncomputable def drN (xs:List Int):List Nat:=(kj xs).map remN
noncomputable def j4 (d:List Nat) (k:Nat):Bool:=!(d.take k).contains (d.getD k 0)
noncomputable def eV (d:List Nat):List Nat:=((K0 d.length).filter (j4 d)).map fun k=>d.getD k 0
theorem zr (x:Int):remN x < 8:=by
 unfold remN
 have h1:=Int.fmod_nonneg_of_pos x (b:=8) (by decide)
 have h2:=Int.fmod_lt_of_pos x (b:=8) (by decide)
 lia
theorem tN (x:Int):((remN x:Nat):Int)=x.fmod 8:=by
 unfold remN
 have h1:=Int.fmod_nonneg_of_pos x (b:=8) (by decide)
 lia
theorem C3 (xs:List Int):∀m∈drN xs,m < 8:=fun m hm=>by
 obtain⟨x,_,rfl⟩:=List.mem_map.mp hm
 exact zr x
theorem qv (xs:List Int):(kj xs).length <=11:=by
 unfold kj kQ
 simp only[KC,M9,Li,Mp]
 lia
theorem mE (xs:List Int):(drN xs).length <=11:=by
 unfold drN
 rw[KU]
 exact qv xs
theorem vV {d:List Nat} (h:k < d.length):d.getD k 0∈d:=by
 rw[Kh,Kc h]
 exact Lk h
theorem wS (d:List Nat):∀m∈eV d,m∈d:=fun m hm=>by
 obtain⟨k,hk,rfl⟩:=List.mem_map.mp hm
 exact vV (List.mem_range.mp (KI.mp hk).1)
theorem vf (m:Nat) (d:List Nat) (hm:m∈d):∃k,d[k]?=some m/\m∉d.take k:=by
 induction d with
 | nil=>cases hm
 | cons a r ih=>
  by_cases q:m=a
  .exact⟨0,by rw[q];rfl,Kf⟩
  .obtain⟨k,h1,h2⟩:=ih ((Ka.mp hm).resolve_left q)
   exact⟨k + 1,h1,fun e=>(Ka.mp e).elim q h2⟩
theorem v7 (d:List Nat):∀m∈d,m∈eV d:=fun m hm=>by
 obtain⟨k,h1,h2⟩:=vf m d hm
 have lt:=(List.getElem?_eq_some_iff.mp h1).1
 have e:d.getD k 0=m:=by rw[Kh,h1];rfl
 refine List.mem_map.mpr ⟨k,KI.mpr ⟨List.mem_range.mpr lt,?_⟩,e⟩
 unfold j4
 rw[e]
 simpa using h2
theorem rS (d:List Nat):(eV d).Nodup:=by
 unfold eV List.Nodup
 rw[List.pairwise_map,List.pairwise_filter]
 refine List.Pairwise.imp_of_mem (fun {a b} ha hb lt ja jb=>?_) (List.pairwise_lt_range (n:=d.length))
 have lb:=List.mem_range.mp hb
 intro e
 unfold j4 at jb
 rw[Bool.not_eq_true',<- Bool.not_eq_true,LD] at jb
 refine jb ?_
 rw[<- e,Kh,Kc (Nat.lt_trans lt lb)]
 show d[a]∈d.take b
 exact List.mem_take_iff_getElem.mpr ⟨a,by lia,rfl⟩
theorem sK (xs:List Int):∀k∈[0,1,3,7,4,6],k∈eV (drN xs):=fun k hk=>by
 refine v7 _ _ ?_
 have e:drN xs=(xs.take 5).map remN++[0,1,3,7,4,6]:=by
  unfold drN kj
  rw[LK]
  rfl
 rw[e]
 exact Kt _ hk
theorem iM (xs:List Int):∀m∈eV (drN xs),m < 8:=fun m hm=>C3 xs m (wS _ _ hm)
theorem uP (xs:List Int):6 <=(eV (drN xs)).length:=by
 have h:([0,1,3,7,4,6]:List Nat).length <=(eV (drN xs)).length:=List.Nodup.length_le_of_subset (by decide) (sK xs)
 exact h
theorem jd (xs:List Int):(eV (drN xs)).length <=11:=by
 unfold eV
 rw[KU]
 exact Lh (LC _ _) (by rw[M0];exact mE xs)
noncomputable def dw (vs:Array Kd) (n:Nat):O:=.fix ⟨.type "list",none,.seq vs n,#[]⟩
theorem HR.fixL {x:Kd} (hh:HR P ρ os h) (ho:os[i]?=some (Internal.dw vs n)) (hx:RelV ρ (.ref i) x) :
  ∃a,x=.ref a/\ρ[i]?=some a/\h.get? a=some ⟨.type "list",none,.seq vs n,#[]⟩:=by
 obtain⟨a,ha,rfl⟩:=hx
 rcases hh.ob i _ a ho ha with q | ⟨ob,e,rfl⟩
 .cases q
 .exact⟨a,rfl,ha,e⟩
theorem Aj:∀{vs:List Kd},ae (RelV []) (xs.map V.int) vs->ae (RelV ρ) (xs.map V.int) vs:=by
 induction xs with
 | nil=>
  intro vs h
  cases h
  exact .nil
 | cons x r ih=>
  intro vs h
  cases h with
  | cons q rs=>exact .cons q (ih rs)
theorem db.fix {l:V} (ho:os[i]?=some (dw vs n)) (hv:ae (RelV []) (xs.map V.int) vs.toList) (hl:du l=true) (hu:du u=true) (hz:xs.length <=Kg) :
  db g D (.ref i) l u os (.ref os.length) (os++[.list (kI (xs.map V.int) (bound l) (bound u))]):=fun value lo hi p ρ x y z hx hy hz' A s hr hh hk=>by
 obtain⟨a,rfl,ha,e⟩:=hh.fixL ho hx
 have r:ae (RelV ρ) (xs.map V.int) vs.toList:=Aj hv
 have len:vs.size=(xs.map V.int).length:=by rw[<- KH];exact r.length
 have len':vs.size=xs.length:=by rw[len,KU]
 have hN:=aV hk
 refine L7 ?_
 have hL:({ s with heap:=s.heap.push { cls:=.type "slice",data:=.fields #[y,z,.none] } }:Kl).heap.IsList a vs:=(ax e).push _
 refine LB (ops:=[.ref s.heap.objs.size,.ref a]) hL.typeIs slot_list_getitem.lookup (Nk hL (NZ ..) (gR hl hy) (gR hu hz') .none (by simp) ?_ (by rw[len'];exact hz)) rfl
 have sz:(s.heap.push { cls:=.type "slice",data:=.fields #[y,z,.none] }).objs.size=s.heap.objs.size + 1:=L6 ..
 have gr:Gr s.heap ((s.heap.push { cls:=.type "slice",data:=.fields #[y,z,.none] }).push { cls:=.type "list",data:=.seq (MX vs (bound l) (bound u) none) }):=((Gr.refl _).push _).push _
 have hob:((s.heap.push { cls:=.type "slice",data:=.fields #[y,z,.none] }).push { cls:=.type "list",data:=.seq (MX vs (bound l) (bound u) none) }).get? (s.heap.objs.size + 1)=some ⟨.type "list",none,.seq (MX vs (bound l) (bound u) none) 0,#[]⟩:=by
  have:=Ku (s.heap.push { cls:=.type "slice",data:=.fields #[y,z,.none] }) (o:={ cls:=.type "list",data:=.seq (MX vs (bound l) (bound u) none) }) rfl
  rw[sz] at this;exact this
 have new:s.heap.get? (s.heap.objs.size + 1)=none:=by
  cases q:s.heap.get? (s.heap.objs.size + 1) with
  | none=>rfl
  | some o=>exact absurd (show s.heap.objs.size + 1 < s.heap.objs.size from KJ q) (by lia)
 refine⟨ρ++[s.heap.objs.size + 1],⟨s.heap.objs.size + 1,by rw[<- hh.len];simp,by rw[sz]⟩,hh.push (MZ _) hN gr hob ⟨_,0,rfl,?_⟩,.of ⟨_,rfl,fun b hb=>?_⟩ (fun b o e _ _=>gr _ _ e) (fun b o e=>⟨o,gr _ _ e⟩) rfl rfl⟩
 .rw[slicePick_plain]
  unfold kI
  rw[len]
  exact((r.drop _).take _).mono fun _ _=>RelV.mono
 .simp at hb;subst hb;exact new
theorem DH (xs:List Int):kI (xs.map V.int) (bound .none) (bound (.int 5))=(xs.take 5).map V.int:=by
 show((xs.map V.int).drop 0).take (clipAt (xs.map V.int).length ((5:Nat):Int) - 0)=_
 rw[clipAt_nat,List.map_take]
 exact List.take_eq_take_min.symm
set_option tactic.hygienic true in
theorem Ev.compX {loc:List (Str×V)} {t:Expr} {W F:Nat->V} (P:Nat->Bool)
  (hi:Ev g D sc σ iter (.ref i) ⟨os,loc⟩) (ho:os[i]?=some (.list (ms.map W))) (hh:fP sc scope iter=true) (ht:∃q,t=.Name x q) (hx:aK (compSc scope sc) x) (hn:ms.length <=Kg)
  (hl0:cl0 loc scope.names=l0) (hput:∀v u,put (put l0 x v) x u=put l0 x u) (hfree:∀y,(y,Ks)∈scope.names->loc.lookup y=l0.lookup y/\∀v,(put l0 x v).lookup y=l0.lookup y)
  (hif:∀m∈ms,∀acc,gV g D (compSc scope sc) ⟨os++[.list acc],put l0 x (W m)⟩ ifs (P m) ⟨os++[.list acc],put l0 x (W m)⟩)
  (hel:∀m∈ms,P m=true->∀acc,Ev g D (compSc scope sc) ⟨os++[.list acc],put l0 x (W m)⟩ elt (F m) ⟨os++[.list acc],put l0 x (W m)⟩) :
  Ev g D sc σ (.ListComp elt [⟨t,iter,ifs,0⟩] scope pos) (.ref os.length) ⟨os++[.list ((ms.filter P).map F)],loc⟩:=by
 have hlt:i < os.length:=(List.getElem?_eq_some_iff.mp ho).1
 have mem:∀k,k < ms.length->ms.getD k 0∈ms:=fun k hk=>by rw[Kh,Kc hk];exact Lk hk
 obtain⟨l,hl,run⟩:=ba.fm (g:=g) (D:=D) (sc:=compSc scope sc) (t:=t) (elt:=elt) (ifs:=ifs) (x:=x) (nx:=cg i) (os:=os) (l0:=l0) (n:=ms.length) (w:=fun k=>W (ms.getD k 0)) (fun k=>P (ms.getD k 0)) (fun k=>F (ms.getD k 0)) ht hx hn
  (fun k acc=>by
   rw[bv (vs:=ms.map W) (by rw[Kn hlt];exact ho),KX]
   split
   .rename_i hk
    rw[Kc hk,Kh,Kc hk];rfl
   .rename_i hk
    rw[Kv (Lv hk)];rfl)
  hput (fun k acc hk=>hif _ (mem k hk) acc) (fun k acc hk hp=>hel _ (mem k hk) hp acc)
 rw[dy] at run
 refine Ev.compI hi (aZ.list ho) hh (hl0▸run) fun y hy=>?_
 obtain⟨h1,h2⟩:=hfree y hy
 rcases hl with rfl | ⟨v,rfl⟩
 .exact h1
 .show _=(put l0 x v).lookup y
  rw[h2 v,h1]
noncomputable def fL:Expr:=sN 0 (ah aA 0)
theorem sO:(ag fL).iter=.BinOp (eN 0 (ag fL).iter) .Add (eN 1 (ag fL).iter) (eP (ag fL).iter):=∅
theorem zL:ah aA 0=.Assign [.Name "drawn" (nN (ah aA 0))] (fb aw.scope fL) (sP (ah aA 0)):=∅
noncomputable def lwA:List (Str×V):=[("script",.ref 0)]
noncomputable def os3 (vs:Array Kd) (n:Nat) (xs:List Int):List O:=[dw vs n,.list ((xs.take 5).map .int),.list (kQ.map .int),.list ((kj xs).map .int)]
theorem Cx (w:J9) (hv:ae (RelV []) (xs.map V.int) vs.toList) (hx:xs.length <=63):Ev (aa w) 10 aw.scope ⟨[dw vs n],lwA⟩ (ag fL).iter (.ref 3) ⟨os3 vs n xs,lwA⟩:=by
 rw[sO]
 have s:=db.fix (g:=aa w) (D:=10) (os:=[dw vs n]) (i:=0) (l:=.none) (u:=.int 5) rfl hv rfl rfl (by rw[K4];lia)
 rw[DH] at s
 have a:=bn.addL (g:=aa w) (D:=10) (os:=[dw vs n,.list ((xs.take 5).map .int),.list (kQ.map .int)]) (i:=1) (j:=2) rfl rfl (by rw[K4];simp[kQ];lia)
 rw[<- LK] at a
 exact Ev.bin (dp (hk:={ l:=[(962,28,962,38,fun _ _ _ os=>(.ref os.length,os++[O.list ((xs.take 5).map V.int)]))] }) (X:=X0 w 10 aq) (c:=[.p (db (aa w) 10 (.ref 0) .none (.int 5) [dw vs n] (.ref 1) ([dw vs n]++[O.list ((xs.take 5).map V.int)]))]) (v:=.ref 1) (s:=⟨[dw vs n,.list ((xs.take 5).map .int)],lwA⟩) ∅ ⟨s,trivial⟩)
  (pm (X:=X0 w 10 aq) (c:=[.b (KS 6 Kg) true]) (v:=.ref 2) (s:=⟨[dw vs n,.list ((xs.take 5).map .int),.list (kQ.map .int)],lwA⟩) ∅ ⟨by show KS 6 Kg=true;kernel_rfl,trivial⟩) a
theorem wD (d:List Int):((K0 d.length).filter fun _=>true).map (fun k=>V.int (d.getD k 0))=d.map V.int:=by
 have:=dy (fun _:Int=>true) V.int 0 d
 rw[this,List.filter_eq_self.mpr fun _ _=>rfl]
theorem yp (d:List Int):((K0 d.length).filter fun _=>true).map (fun k=>V.int ((d.getD k 0).fmod 8))=mkI (d.map remN):=by
 have:=dy (fun _:Int=>true) (fun x=>V.int (x.fmod 8)) 0 d
 rw[this,List.filter_eq_self.mpr fun _ _=>rfl]
 unfold mkI
 rw[LU]
 refine NV fun x _=>?_
 show V.int (x.fmod 8)=V.int ((remN x:Nat):Int)
 rw[tN]
noncomputable def H2:Scope:=compSc (cN fL) aw.scope
theorem Fe (w:J9) (os:List O) (a:Int):Ev (aa w) 10 H2 ⟨os,[("x",.int a)]⟩ (eN 0 fL) (.int (a.fmod 8)) ⟨os,[("x",.int a)]⟩:=
 aC (X:=X0 w 10 aq) ∅
theorem rP (w:J9) (hv:ae (RelV []) (xs.map V.int) vs.toList) (hx:xs.length <=63):Ev (aa w) 10 aw.scope ⟨[dw vs n],lwA⟩ (fb aw.scope fL) (.ref 4) ⟨os3 vs n xs++[.list (mkI (drN xs))],lwA⟩:=by
 have h:=Ev.compX (g:=aa w) (D:=10) (sc:=aw.scope) (os:=os3 vs n xs) (loc:=lwA) (i:=3) (l0:=[]) (elt:=eN 0 fL) (t:=(ag fL).target) (iter:=(ag fL).iter) (ifs:=(ag fL).ifs) (scope:=cN fL) (pos:=eP fL) (x:="x") (ms:=K0 (kj xs).length) (W:=fun k=>V.int ((kj xs).getD k 0)) (F:=fun k=>V.int (((kj xs).getD k 0).fmod 8)) (fun _=>true)
  (Cx w (n:=n) hv hx) (by
   have:=wD (kj xs)
   rw[List.filter_eq_self.mpr fun _ _=>rfl] at this
   rw[this];rfl) ∅ ⟨eP (ag fL).target,∅⟩ (.inl ∅) (by rw[M0,K4];have:=qv xs;lia) ∅ (fun v u=>rfl) (fun y hy=>(dz ∅ hy).elim)
  (fun m hm acc=>by rw[show(ag fL).ifs=[] by kernel_rfl];exact .nil)
  (fun m hm _ acc=>Fe w _ _)
 rw[yp] at h
 exact h
noncomputable def osDr (vs:Array Kd) (n:Nat) (xs:List Int):List O:=os3 vs n xs++[.list (mkI (drN xs))]
noncomputable def lwB:List (Str×V):=[("script",.ref 0),("drawn",.ref 4)]
theorem Ac (w:J9) (hv:ae (RelV []) (xs.map V.int) vs.toList) (hx:xs.length <=63):Ex (aa w) 10 aw.scope ⟨[dw vs n],lwA⟩ (ah aA 0) .next ⟨osDr vs n xs,lwB⟩:=by
 rw[zL]
 exact Ex.assignC (rP w (n:=n) hv hx) ∅
theorem zU {a b:Str} (h:a.cps.toList=b.cps.toList):a=b:=by
 cases a;cases b
 simp only[Str.mk.injEq]
 exact Array.toList_inj.mp h
noncomputable def jM (a b:Str):Prop:=¬ b.cps.toList < a.cps.toList
theorem sG {a b c:Str} (h:jM a b) (k:jM b c):jM a c:=fun q=>by
 have h1:a.cps.toList <=b.cps.toList:=List.not_lt.mp h
 have h2:b.cps.toList <=c.cps.toList:=List.not_lt.mp k
 exact absurd q (List.not_lt.mpr (List.le_trans h1 h2))
theorem oh {a b:Str} (h:jM a b) (k:jM b a):a=b:=
 zU (List.le_antisymm (List.not_lt.mp h) (List.not_lt.mp k))
theorem tK (r:List Str) (p:Str) (h:risingS p r=true):(p::r).Pairwise jM:=by
 induction r generalizing p with
 | nil=>exact Ms _ _
 | cons x r ih=>
  obtain⟨h1,h2⟩:=Bool.and_eq_true_iff.mp h
  have ih:=ih x h2
  have hpx:jM p x:=by
   rw[ltCps_eq] at h1
   simpa [jM] using h1
  refine List.pairwise_cons.mpr ⟨fun y hy=>?_,ih⟩
  rcases Ka.mp hy with rfl | hy
  .exact hpx
  .exact sG hpx (Nh ih hy)
theorem hX:∀{l:List Str},sortedS l=true->l.Pairwise jM
 | [],_=>List.Pairwise.nil
 | x::r,h=>tK r x h
theorem ko {l m:List Str} (h1:l.Pairwise jM) (h2:m.Pairwise jM) (h:l.Perm m):l=m:=by
 induction l generalizing m with
 | nil=>exact(List.nil_perm.mp h).symm
 | cons x r ih=>cases m with
  | nil=>cases List.perm_nil.mp h
  | cons y t=>
   have e:x=y:=by
    rcases Ka.mp (h.subset (LV ..)) with e | hx
    .exact e
    .rcases Ka.mp (h.symm.subset (LV ..)) with e | hy
     .exact e.symm
     .exact oh (Nh h1 hy) (Nh h2 hx)
   subst e
   rw[ih (List.pairwise_cons.mp h1).2 (List.pairwise_cons.mp h2).2 (List.perm_cons x |>.mp h)]
noncomputable def eE (ss:List Str):List V:=ss.map V.str
theorem jh {vs:List Kd} (h:ae (RelV ρ) (eE ss) vs):StrsAre vs ss:=by
 induction ss generalizing vs with
 | nil=>cases h;exact .nil
 | cons s ss ih=>cases h with
  | cons h r=>
   obtain⟨t,rfl⟩:=h
   exact .cons _ _ (ih r)
theorem lD {vs:List Kd} (h:StrsAre vs ss):ae (RelV ρ) (eE ss) vs:=by
 induction h with
 | nil=>exact .nil
 | cons _ t _ ih=>exact .cons ⟨t,rfl⟩ ih
theorem Cl.sorted {out:List Str} (ho:os[i]?=some (.list (eE ss))) (hp:out.Perm ss) (hs:sortedS out=true) (h64:ss.length < 64) :
  Cl g D (.top (.builtin "sorted")) [.ref i] [] os (.ref os.length) (os++[.list (eE out)]):=fun ρ x xs ks hx hxs hks=>by
 obtain rfl:x=.builtin "sorted":=hx
 cases hks
 cases hxs with
 | cons r rs=>
  cases rs
  intro A s hr hh hK
  obtain⟨a,ys,n,rfl,ha,e,q⟩:=hh.list ho r
  have hl:=ax e
  have hS:StrsAre ys.toList ss:=jh q
  have len:ys.toList.length=ss.length:=by have:=q.length;simpa [eE] using this
  refine sorted_strs (vs:=ys.toList) (by simpa using hl) hS (by lia) fun o ss' h1 h2 h3=>?_
  have e1:ss'=out:=ko (hX h3) (hX hs) (h2.trans hp.symm)
  subst e1
  obtain⟨ep,hat⟩:=sortedAll_at s.heap ys.toList o
  have keep:∀b ob,s.heap.get? b=some ob->(sortedAll s.heap ys.toList o).get? b=some ob:=fun b ob h=>sortedAll_old h
  refine⟨ρ++[s.heap.objs.size + 1],⟨s.heap.objs.size + 1,by rw[<- hh.len];simp,rfl⟩,hh.push (MZ _) (aV hK) keep hat ⟨o,ep,rfl,lD h1⟩,
   .of ⟨[s.heap.objs.size + 1],rfl,fun b hb=>?_⟩ (fun b ob h _ _=>keep b ob h) (fun b ob h=>⟨ob,keep b ob h⟩) rfl rfl⟩
  simp at hb
  subst hb
  cases z:s.heap.get? (s.heap.objs.size + 1) with
  | none=>rfl
  | some ob=>exact absurd (KJ z) (Nat.not_lt.mpr (MZ _))
noncomputable def cr:List Kz:=(bt 46).2.1
noncomputable def eB:Expr:=sN 0 (ah cr 0)
noncomputable def fH:Expr:=eN 0 eB
noncomputable def jK:Scope:=compSc (cSc fd929.scope eB) fd929.scope
noncomputable def nL:Scope:=compSc (cSc jK fH) jK
theorem yf:eB=fb fd929.scope eB:=∅
theorem Cd:fH=fb jK fH:=∅
noncomputable def bK (m o:Nat):Bool:=(szN (m ^^^ o)==1)&&decide (szN o < szN m)
noncomputable def bel (ms:List Nat) (m:Nat):List Nat:=ms.filter (bK m)
noncomputable def lm2 (m o:Nat):List (Str×V):=[("mask",.int m),("other",.int o)]
noncomputable def CI (m o:Nat):Hk:={ c:=[(952,42,952,65,fun _ _ os=>(.int (szN (m ^^^ o)),os)),(952,75,952,91,fun _ _ os=>(.int (szN o),os)),(952,94,952,109,fun _ _ os=>(.int (szN m),os))] }
noncomputable def tY:Expr:=(ag fH).ifs.getD 0 default
theorem B7:(ag fH).ifs=[tY]:=∅
noncomputable def xH (w:J9) (D m o:Nat) (os:List O):de:=.p (Cl (aa w) D (.top (.ref 914)) [.int (MI (m:Int) (o:Int))] [] os (.int (szN (m ^^^ o))) os)
noncomputable def qA (w:J9) (D m:Nat) (os:List O):de:=.p (Cl (aa w) D (.top (.ref 914)) [.int m] [] os (.int (szN m)) os)
theorem Jo (w:J9) (D m o:Nat) (os:List O):vw (oM (CI m o) (X0 w D aq) nL 14 tY ⟨os,lm2 m o⟩ { ts:=[(952,42,false)] })=some (false,⟨os,lm2 m o⟩,[.b (szN (m ^^^ o)==1) false,xH w D m o os]):=∅
theorem JC (w:J9) (D m o:Nat) (os:List O):vw (oM (CI m o) (X0 w D aq) nL 14 tY ⟨os,lm2 m o⟩ { ts:=[(952,42,true),(952,75,false)] })=some (false,⟨os,lm2 m o⟩,[.b (szN (m ^^^ o)==1) true,xH w D m o os,.b (decide (szN o < szN m)) false,qA w D o os,qA w D m os]):=∅
theorem I9 (w:J9) (D m o:Nat) (os:List O):vw (oM (CI m o) (X0 w D aq) nL 14 tY ⟨os,lm2 m o⟩ { ts:=[(952,42,true),(952,75,true)] })=some (true,⟨os,lm2 m o⟩,[.b (szN (m ^^^ o)==1) true,xH w D m o os,.b (decide (szN o < szN m)) true,qA w D o os,qA w D m os]):=∅
theorem BP (w:J9) (D:Nat) (hD:1 <=D) (m o:Nat) (hm:m < 8) (ho:o < 8) (os:List O):Tr (aa w) D nL ⟨os,lm2 m o⟩ tY (bK m o) ⟨os,lm2 m o⟩:=by
 have c1:(xH w D m o os).ok:=(kG w m o hm ho os).up hD
 have c2:(qA w D o os).ok:=(iG w o ho os).up hD
 have c3:(qA w D m os).ok:=(iG w m hm os).up hD
 unfold bK
 cases h1:szN (m ^^^ o)==1 with
 | false=>exact tT (Jo w D m o os) ⟨h1,c1,trivial⟩
 | true=>
  cases h2:decide (szN o < szN m) with
  | false=>exact tT (JC w D m o os) ⟨h1,c1,h2,c2,c3,trivial⟩
  | true=>exact tT (I9 w D m o os) ⟨h1,c1,h2,c2,c3,trivial⟩
theorem Di (w:J9) (D m o:Nat) (os:List O):Ev (aa w) D nL ⟨os,lm2 m o⟩ (eN 0 fH) (.int o) ⟨os,lm2 m o⟩:=aC (X:=X0 w D aq) ∅
noncomputable def lcB (m:Nat):List (Str×V):=[("masks",.ref 0),("mask",.int m)]
theorem DA (w:J9) (D:Nat) (hD:1 <=D) (ms:List Nat) (h8:∀m∈ms,m < 8) (hn:ms.length <=100) (m:Nat) (hm:m < 8) (rest:List O) :
  Ev (aa w) D jK ⟨.list (mkI ms)::rest,lcB m⟩ fH (.ref (rest.length + 1)) ⟨.list (mkI ms)::rest++[.list (mkI (bel ms m))],lcB m⟩:=by
 have hi:Ev (aa w) D jK ⟨.list (mkI ms)::rest,lcB m⟩ (ag fH).iter (.ref 0) ⟨.list (mkI ms)::rest,lcB m⟩:=aC (X:=X0 w D aq) ∅
 have:=Ev.compL (g:=aa w) (D:=D) (sc:=jK) (os:=.list (mkI ms)::rest) (loc:=lcB m) (l0:=[("mask",.int m)]) (elt:=eN 0 fH) (t:=(ag fH).target) (iter:=(ag fH).iter) (ifs:=(ag fH).ifs) (scope:=cSc jK fH) (pos:=eP fH) (x:="other") (ms:=ms) (W:=fun(m:Nat)=>V.int (m:Int)) (F:=fun m=>V.int (m:Int)) (bK m)
  hi rfl ∅ ⟨eP (ag fH).target,∅⟩ (.inl ∅) (by unfold Kg;lia) ∅ (fun v u=>rfl)
  (fun y hy=>by
   have e:(cSc jK fH).names.filter (fun p=>isFree p.2)=[((J8 "mask"),Ks)]:=∅
   have hy':(y,Ks)∈(cSc jK fH).names.filter (fun p=>isFree p.2):=KI.mpr ⟨hy,rfl⟩
   rw[e] at hy'
   simp only[Ka,Kf,or_false,MS,and_true] at hy'
   subst hy'
   exact⟨rfl,fun v=>rfl⟩)
  (fun o ho acc=>by rw[B7];exact .one (BP w D hD m o hm (h8 o ho) _))
  (fun o ho _ acc=>Di w D m o _)
 rw[Cd]
 exact this
noncomputable def eM (k:Nat):List V:=(K0 k).map fun j=>V.ref (j + 2)
noncomputable def kT (ms:List Nat) (k:Nat):List O:=(K0 k).map fun j=>O.list (mkI (bel ms (ms.getD j 0)))
noncomputable def Tos (ms:List Nat) (k:Nat):List O:=.list (mkI ms)::.list (eM k)::kT ms k
noncomputable def lB0:List (Str×V):=[("masks",.ref 0)]
theorem t8 (k:Nat):(eM k).length=k:=by simp[eM]
theorem oR (ms:List Nat) (k:Nat):(kT ms k).length=k:=by simp[kT]
theorem v8 (ms:List Nat) (k:Nat):(Tos ms k++[O.list (mkI (bel ms (ms.getD k 0)))]).set 1 (O.list (eM k++[.ref (k + 2)]))=Tos ms (k + 1):=by
 unfold Tos eM kT
 rw[List.range_succ,LK,LK]
 rfl
theorem vo (w:J9) (D:Nat) (hD:1 <=D) (ms:List Nat) (h8:∀m∈ms,m < 8) (hn:ms.length <=100) :
  Ev (aa w) D fd929.scope ⟨[.list (mkI ms)],lB0⟩ eB (.ref 1) ⟨Tos ms ms.length,lB0⟩:=by
 have hi:Ev (aa w) D fd929.scope ⟨[.list (mkI ms)],lB0⟩ (ag eB).iter (.ref 0) ⟨[.list (mkI ms)],lB0⟩:=aC (X:=X0 w D aq) ∅
 have mem:∀k,k < ms.length->ms.getD k 0∈ms:=fun k hk=>by rw[Kh,Kc hk];exact Lk hk
 have hget:∀k,k < ms.length->ms[k]?=some (ms.getD k 0):=fun k hk=>by rw[Kh,Kc hk];rfl
 obtain⟨σe,he,hr⟩:=ba.inv (g:=aa w) (D:=D) (sc:=jK) (t:=(ag eB).target) (elt:=eN 0 eB) (ifs:=(ag eB).ifs) (nx:=cg 0) (di:=1) (n:=ms.length)
  (fun k σ=>σ.os=Tos ms k/\(σ.loc=lB0\/∃m,σ.loc=lcB m))
  (fun k σ hk h=>by
   have hp:put σ.loc "mask" (.int ((ms.getD k 0:Nat):Int))=lcB (ms.getD k 0):=by
    rcases h.2 with e | ⟨v,e⟩ <;> rw[e] <;> rfl
   have el:=DA w D hD ms h8 hn (ms.getD k 0) (h8 _ (mem k hk)) (.list (eM k)::kT ms k)
   rw[Li,oR] at el
   refine⟨.int ((ms.getD k 0:Nat):Int),⟨Tos ms k,lcB (ms.getD k 0)⟩,⟨Tos ms k,lcB (ms.getD k 0)⟩,?_,?_,.inr ⟨.ref (k + 2),⟨Tos ms k++[O.list (mkI (bel ms (ms.getD k 0)))],lcB (ms.getD k 0)⟩,eM k,?_,el,rfl,?_,?_,.inr ⟨_,rfl⟩⟩⟩
   .rw[h.1,bv (vs:=mkI ms) rfl,dL (hget k hk)]
   .rw[<- h.1,<- hp]
    exact aX.nameE ⟨eP (ag eB).target,∅⟩ (.inr ∅)
   .rw[show(ag eB).ifs=[] by kernel_rfl];exact .nil
   .rw[t8];unfold Kg;lia
   .exact v8 ms k)
  (fun σ h=>by
   rw[h.1,bv (vs:=mkI ms) rfl]
   exact congrArg some (Kv (by rw[cK];exact Km _)))
  ms.length 0 ⟨Tos ms 0,lB0⟩ (by lia) ⟨rfl,.inl rfl⟩
 have e:σe=⟨Tos ms ms.length,σe.loc⟩:=by cases σe;cases he.1;rfl
 have hr':ba (aa w) D jK (ag eB).target (ag eB).ifs (eN 0 eB) (cg 0) 1 σe 0 ⟨[.list (mkI ms)]++[.list []],cl0 lB0 (cSc fd929.scope eB).names⟩:=by
  have e0:cl0 lB0 (cSc fd929.scope eB).names=lB0:=∅
  rw[e0]
  exact hr
 have:=Ev.compI (pos:=eP eB) hi (aZ.list (vs:=mkI ms) rfl) (by kernel_rfl:fP fd929.scope (cSc fd929.scope eB) (ag eB).iter=true) hr' (fun y hy=>by
   have e2:(cSc fd929.scope eB).names.filter (fun p=>isFree p.2)=[((J8 "masks"),Ks)]:=∅
   have hy':(y,Ks)∈(cSc fd929.scope eB).names.filter (fun p=>isFree p.2):=KI.mpr ⟨hy,rfl⟩
   rw[e2] at hy'
   simp only[Ka,Kf,or_false,MS,and_true] at hy'
   subst hy'
   rcases he.2 with e | ⟨m,e⟩ <;> rw[e] <;> rfl)
 rw[yf]
 rw[he.1] at this
 exact this
noncomputable def ord:List Nat:=[7,3,5,1,6,2,4,0]
noncomputable def aU (l:List Nat):List Nat:=ord.filter fun m=>l.contains m
theorem ng:∀{l m:List Nat},l.Nodup->m.Nodup->(∀x,x∈l↔x∈m)->l.Perm m:=fun h1 h2 h=>by
 rw[List.perm_iff_count]
 intro a
 rw[h1.count,h2.count]
 simp[h a]
theorem z7:∀m < 8,m∈ord:=by decide
theorem iW {l:List Nat} (nd:l.Nodup) (h8:∀m∈l,m < 8):(aU l).Perm l:=
 ng (List.Nodup.sublist Lz (by decide)) nd fun x=>(KI.trans (and_congr_right fun _=>LD)).trans ⟨And.right,fun h=>⟨z7 x (h8 x h),h⟩⟩
theorem CD:(ord.map wdN).Pairwise (fun a b=>PySem.Spec.ltCps b.cps.toList a.cps.toList=false):=by decide +kernel
theorem lE (l:List Nat):sortedS ((aU l).map wdN)=true:=
 sortedS_of_pairwise _ (CD.sublist (Lz.map wdN))
theorem gt (l:List Nat):mkW l=eE (l.map wdN):=by simp[mkW,eE,Function.comp_def]
theorem Cl.sortedW {l:List Nat} (ho:os[i]?=some (.list (mkW l))) (nd:l.Nodup) (h8:∀m∈l,m < 8) (h64:l.length < 64) :
  Cl g D (.top (.builtin "sorted")) [.ref i] [] os (.ref os.length) (os++[.list (mkW (aU l))]):=by
 rw[gt (aU l)]
 rw[gt l] at ho
 exact Cl.sorted ho ((iW nd h8).map wdN) (lE l) (by rw[KU];exact h64)
theorem ak.eqNil {xs:List V} (hi:os[i]?=some (.list xs)) (hj:os[j]?=some (.list [])) (hij:i≠j):ak g D .Eq (.ref i) (.ref j) os (.bool xs.isEmpty) os:=by
 refine ak.eqL (n:=1) (qk hi hj hij) (by lia)
noncomputable def eC:Expr:=eN 1 (sN 0 (ah cr 1))
noncomputable def yh:Scope:=compSc (cSc fd929.scope eC) fd929.scope
noncomputable def AR:Expr:=(ag eC).ifs.getD 0 default
theorem EW:eC=fb fd929.scope eC:=∅
theorem DD:(ag eC).ifs=[AR]:=∅
noncomputable def lD0:List (Str×V):=[("masks",.ref 0),("below",.ref 1)]
noncomputable def FW:List (Str×V):=[("below",.ref 1),("masks",.ref 0)]
noncomputable def lcC (k:Nat):List (Str×V):=[("below",.ref 1),("masks",.ref 0),("k",.int k)]
noncomputable def XC (w:J9) (D:Nat) (p:Bool):CX (aa w) D:={ X0 w D aq with xc:=fun op a b os=>some ⟨.bool p,os,[.p (ak (aa w) D op a b os (.bool p) os)],fun h=>h.1⟩ }
theorem gz:KS 0 Kg=true:=∅
noncomputable def osN (os:List O):List O:=os++[.list []]
theorem D8 (w:J9) (D k:Nat) (p:Bool) (os:List O) (hlen:2 <=os.length) (h1:au (aa w) D (.ref 1) (.int k) os (.ref (k + 2)) os) (h2:ak (aa w) D .Eq (.ref (k + 2)) (.ref os.length) (osN os) (.bool p) (osN os)) :
  Tr (aa w) D yh ⟨os,lcC k⟩ AR p ⟨os,lcC k⟩:=by
 have h:Tr (aa w) D yh ⟨os,lcC k⟩ AR p ⟨osN os,lcC k⟩:=qh (hk:={ u:=[(953,72,953,80,fun _ _ _=>.ref (k + 2))] }) (X:=XC w D p)
  (c:=[.p (au (aa w) D (.ref 1) (.int k) os (.ref (k + 2)) os),.b (KS 0 Kg) true,.p (ak (aa w) D .Eq (.ref (k + 2)) (.ref os.length) (osN os) (.bool p) (osN os))]) ∅ ⟨h1,gz,h2,trivial⟩
 exact Tr.drop (μ:=[.list []]) h (fun q hq=>by
  simp only[lcC,Ka,Kf,or_false] at hq
  rcases hq with rfl | rfl | rfl
  .simp[bi,Lx];lia
  .simp[bi,Lx];lia
  .rfl)
theorem Bk (w:J9) (D k m:Nat) (hD:1 <=D) (hm:m < 8) (os:List O) (h1:au (aa w) D (.ref 0) (.int k) os (.int m) os) :
  Ev (aa w) D yh ⟨os,lcC k⟩ (eN 0 eC) (.str (wdN m)) ⟨os,lcC k⟩:=by
 refine dp (hk:={ u:=[(953,32,953,40,fun _ _ _=>.int m)],c:=[(953,22,953,41,fun _ _ os=>(.str (wdN m),os))] }) (X:=X0 w D aq)
  (c:=[.p (au (aa w) D (.ref 0) (.int k) os (.int m) os),.p (Cl (aa w) D (.top (.ref 900)) [.int m] [] os (.str (wdN m)) os)]) ∅ ?_
 exact⟨h1,(gj w m hm os).up hD,trivial⟩
noncomputable def osC (ms:List Nat):List O:=Tos ms ms.length++[.range 0 ms.length 1]
theorem iw (ms:List Nat) (k:Nat):(Tos ms k).length=k + 2:=by simp[Tos,oR]
theorem gi (ms:List Nat):(osC ms).length=ms.length + 3:=by simp[osC,iw]
noncomputable def wait0 (ms:List Nat):List Nat:=ms.filter fun m=>(bel ms m).isEmpty
theorem qL (ms:List Nat) (k:Nat) (hk:k < ms.length) (tl:List O):(Tos ms ms.length++tl)[k + 2]?=some (.list (mkI (bel ms (ms.getD k 0)))):=by
 rw[Kn (by rw[iw];lia)]
 show(kT ms ms.length)[k]?=_
 unfold kT
 rw[KX,MP hk]
 rfl
theorem qG (ms:List Nat) (k:Nat) (hk:k < ms.length):(eM ms.length)[k]?=some (.ref (k + 2)):=by
 unfold eM
 rw[KX,MP hk]
 rfl
theorem wZ (w:J9) (D:Nat) (hD:1 <=D) (ms:List Nat) (h8:∀m∈ms,m < 8) (hn:ms.length <=100) (h0:0 < ms.length)
  (hi:Ev (aa w) D fd929.scope ⟨Tos ms ms.length,lD0⟩ (ag eC).iter (.ref (ms.length + 2)) ⟨osC ms,lD0⟩) :
  Ev (aa w) D fd929.scope ⟨Tos ms ms.length,lD0⟩ eC (.ref (ms.length + 3)) ⟨osC ms++[.list (mkW (wait0 ms))],lD0⟩:=by
 have mem:∀k,k < ms.length->ms.getD k 0∈ms:=fun k hk=>by rw[Kh,Kc hk];exact Lk hk
 have hget:∀k,k < ms.length->ms[k]?=some (ms.getD k 0):=fun k hk=>by rw[Kh,Kc hk];rfl
 have big:∀acc,2 <=(osC ms++[O.list acc]).length:=fun acc=>by rw[KC,gi];lia
 obtain⟨l,hl',run⟩:=ba.fm (g:=aa w) (D:=D) (sc:=yh) (t:=(ag eC).target) (elt:=eN 0 eC) (ifs:=(ag eC).ifs) (x:="k") (nx:=bF 0 1 ms.length) (os:=osC ms) (l0:=FW) (n:=ms.length) (w:=fun k=>.int (k:Nat))
  (fun k=>(bel ms (ms.getD k 0)).isEmpty) (fun k=>.str (wdN (ms.getD k 0))) ⟨eP (ag eC).target,∅⟩ (.inl ∅) (by unfold Kg;lia)
  (fun k acc=>by unfold bF;split <;> simp)
  (fun v u=>rfl)
  (fun k acc hk=>by
   rw[DD]
   refine .one (D8 w D k _ _ (big acc) (aJ rfl (by lia) (qG ms k hk)) ?_)
   have e1:(osN (osC ms++[O.list acc]))[k + 2]?=some (.list (mkI (bel ms (ms.getD k 0)))):=by
    unfold osN osC
    rw[KG,KG]
    exact qL ms k hk _
   have e2:(osN (osC ms++[O.list acc]))[(osC ms++[O.list acc]).length]?=some (.list []):=by
    unfold osN
    rw[Ke (Km _),Lg];rfl
   have:=ak.eqNil (g:=aa w) (D:=D) e1 e2 (by rw[KC,gi];simp;lia)
   have e3:(mkI (bel ms (ms.getD k 0))).isEmpty=(bel ms (ms.getD k 0)).isEmpty:=by unfold mkI;cases bel ms (ms.getD k 0) <;> rfl
   rw[e3] at this
   exact this)
  (fun k acc hk _=>Bk w D k _ hD (h8 _ (mem k hk)) _ (aJ rfl (by lia) (dL (hget k hk))))
 have e4:=dy (fun m=>(bel ms m).isEmpty) (fun m=>V.str (wdN m)) 0 ms
 rw[e4] at run
 have sm:=fp 0 ms.length h0 (by lia)
 have hit:aZ (aa w) D (.ref (ms.length + 2)) (osC ms) (bF 0 1 ms.length):=aZ.range (a:=0) (b:=ms.length) (c:=1) (by
  unfold osC
  rw[Ke (by rw[iw];exact Km _),iw,Lg];rfl) sm.2 (by simpa using sm.1)
 have hl:cl0 lD0 (cSc fd929.scope eC).names=FW:=∅
 have:=Ev.compI (σ₁:=⟨osC ms,lD0⟩) (pos:=eP eC) hi hit (by kernel_rfl:fP fd929.scope (cSc fd929.scope eC) (ag eC).iter=true) (by rw[hl];exact run) (fun y hy=>by
  have e2:(cSc fd929.scope eC).names.filter (fun p=>isFree p.2)=[((J8 "below"),Ks),((J8 "masks"),Ks)]:=∅
  have hy':(y,Ks)∈(cSc fd929.scope eC).names.filter (fun p=>isFree p.2):=KI.mpr ⟨hy,rfl⟩
  rw[e2] at hy'
  simp only[Ka,Kf,or_false,MS,and_true] at hy'
  rcases hl' with rfl | ⟨v,rfl⟩ <;> rcases hy' with rfl | rfl <;> rfl)
 rw[EW]
 rw[gi] at this
 exact this
theorem wk (w:J9) (D:Nat) (ms:List Nat) (hn:ms.length <=100):Ev (aa w) D fd929.scope ⟨Tos ms ms.length,lD0⟩ (ag eC).iter (.ref (ms.length + 2)) ⟨osC ms,lD0⟩:=by
 have h:Ev (aa w) D fd929.scope ⟨Tos ms ms.length,lD0⟩ (ag eC).iter (.ref (Tos ms ms.length).length) ⟨osC ms,lD0⟩:=by
  refine dp (hk:={ c:=[(953,57,953,67,fun _ _ os=>(.int ms.length,os))] }) (X:=X0 w D aq)
   (c:=[.p (Cl (aa w) D (.top (.builtin "len")) [.ref 0] [] (Tos ms ms.length) (.int ms.length) (Tos ms ms.length))]) ∅ ?_
  have:=Cl.lenL (g:=aa w) (D:=D) (i:=0) (vs:=mkI ms) (os:=Tos ms ms.length) rfl (by rw[cK];lia)
  rw[cK] at this
  exact⟨this,trivial⟩
 rwa [iw] at h
noncomputable def osC1 (ms:List Nat):List O:=osC ms++[.list (mkW (wait0 ms))]
noncomputable def osC2 (ms:List Nat):List O:=osC1 ms++[.list (mkW (aU (wait0 ms)))]
noncomputable def lD1 (n:Nat):List (Str×V):=[("masks",.ref 0),("below",.ref 1),("waiting",.ref n)]
theorem ku (ms:List Nat):(osC1 ms).length=ms.length + 4:=by simp[osC1,gi]
noncomputable def tG (st:Kz):Pos:=eP (sN 1 st)
theorem Eh:ah cr 0=.Assign [.Name "below" (tG (ah cr 0))] (fb fd929.scope eB) (sP (ah cr 0)):=∅
theorem GG:cr.take 2=[ah cr 0,ah cr 1]:=∅
theorem EF (w:J9) (D:Nat) (hD:1 <=D) (ms:List Nat) (h8:∀m∈ms,m < 8) (nd:ms.Nodup) (hn:ms.length <=60) (h0:0 < ms.length) :
  Exs (aa w) D fd929.scope ⟨[.list (mkI ms)],lB0⟩ (cr.take 2) .next ⟨osC2 ms,lD1 (ms.length + 4)⟩:=by
 have h:Exs (aa w) D fd929.scope ⟨Tos ms ms.length,lD0⟩ [ah cr 1] .next ⟨osC2 ms,lD1 (osC1 ms).length⟩:=by
  refine bq (hk:={ e:=[(953,21,953,87,fun σ=>(.ref (ms.length + 3),⟨osC1 ms,σ.loc⟩))],c:=[(953,14,953,88,fun _ _ os=>(.ref os.length,os++[.list (mkW (aU (wait0 ms)))]))] }) (X:=X0 w D aq)
   (c:=[.p (Ev (aa w) D fd929.scope ⟨Tos ms ms.length,lD0⟩ eC (.ref (ms.length + 3)) ⟨osC1 ms,lD0⟩),
    .p (Cl (aa w) D (.top (.builtin "sorted")) [.ref (ms.length + 3)] [] (osC1 ms) (.ref (osC1 ms).length) (osC2 ms))]) ∅ ?_
  refine⟨wZ w D hD ms h8 (by lia) h0 (wk w D ms (by lia)),?_,trivial⟩
  refine Cl.sortedW ?_ (nd.sublist Lz) (fun m hm=>h8 m (KI.mp hm).1) (Nat.lt_of_le_of_lt (LC _ _) (by lia))
  unfold osC1
  rw[Ke (by rw[gi];exact Km _),gi,Lg];rfl
 rw[ku] at h
 rw[GG]
 refine Exs.cons ?_ h
 rw[Eh]
 have hb:=vo w D hD ms h8 (by lia)
 rw[yf] at hb
 exact Ex.assignC hb ∅
noncomputable def eH:Kz:=ah cr 2
noncomputable def Df:List Str:=["told","done"]
theorem Io:LY [sN 1 eH] (sN 0 eH) (gS fd929.scope)=pure none:=∅
theorem Cr:eH=.Assign [.Tuple (kH (sN 1 eH)) (jw (sN 1 eH)) (eP (sN 1 eH))] (sN 0 eH) (sP eH):=∅
theorem IT:sN 1 eH=.Tuple (kH (sN 1 eH)) (jw (sN 1 eH)) (eP (sN 1 eH)):=∅
noncomputable def osM3 (os:List O):List O:=os++[O.list []]++[O.list []]++[O.tuple [.ref os.length,.ref (os++[O.list []]).length]]
noncomputable def lD2 (n:Nat) (t d:V):List (Str×V):=[("masks",.ref 0),("below",.ref 1),("waiting",.ref n),("told",t),("done",d)]
theorem GY (w:J9) (D n:Nat) (os:List O):Ex (aa w) D fd929.scope ⟨os,lD1 n⟩ eH .next ⟨osM3 os,lD2 n (.ref os.length) (.ref (os.length + 1))⟩:=by
 have he:Ev (aa w) D fd929.scope ⟨os,lD1 n⟩ (sN 0 eH) (.ref (os++[O.list []]++[O.list []]).length) ⟨osM3 os,lD1 n⟩:=
  pm (X:=X0 w D aq) (c:=[.b (KS 0 Kg) true,.b (KS 0 Kg) true,.b (KS 2 Kg) true]) ∅ ⟨gz,gz,by show KS 2 Kg=true;kernel_rfl,trivial⟩
 have ho:(osM3 os)[(os++[O.list []]++[O.list []]).length]?=some (.tuple [.ref os.length,.ref (os++[O.list []]).length]):=by
  unfold osM3
  rw[Ke (Km _),Lg];rfl
 have sw:=Io
 rw[IT] at sw
 have hx:∀x∈Df,aK fd929.scope x:=fun x hx=>by
  simp only[Df,Ka,Kf,or_false] at hx
  rcases hx with rfl | rfl
  .exact .inl ∅
  .exact .inr ∅
 have hn:iq (kH (sN 1 eH))=some Df:=∅
 have this:=Ex.assignG (g:=aa w) (D:=D) (sc:=fd929.scope) (pos:=sP eH) he (eK.one (aX.tuple (k:=jw (sN 1 eH)) (tp:=eP (sN 1 eH)) ho (iY hn) rfl hx) rfl) sw ∅
 rw[Cr]
 have e:(os++[O.list []]).length=os.length + 1:=by simp
 rw[e] at this
 exact this
noncomputable def gv:Kz:=ah cr 3
noncomputable def oS:Kz:=ah (af gv) 0
noncomputable def ju:Kz:=ah (af gv) 1
noncomputable def pn:Kz:=ah (af gv) 2
noncomputable def vA:Kz:=ah (af gv) 3
noncomputable def dW:Expr:=eN 0 (eN 1 (sN 0 oS))
noncomputable def Dj:Scope:=compSc (cSc fd929.scope dW) fd929.scope
noncomputable def Bf:Expr:=(ag dW).ifs.getD 0 default
theorem Dq:dW=fb fd929.scope dW:=∅
theorem y0:(ag dW).ifs=[Bf]:=∅
noncomputable def JP (wi:Nat):List (Str×V):=[("waiting",.ref wi)]
noncomputable def lcW (wi:Nat) (m:Nat):List (Str×V):=[("waiting",.ref wi),("mask",.int m)]
theorem Br (w:J9) (D:Nat) (hD:1 <=D) (wi m a:Nat) (hm:m < 8) (os:List O) (h1:au (aa w) D (.ref wi) (.int 0) os (.str (wdN a)) os) :
  Tr (aa w) D Dj ⟨os,lcW wi m⟩ Bf (sq (wdN m) (wdN a)) ⟨os,lcW wi m⟩:=by
 refine qh (hk:={ u:=[(956,66,956,76,fun _ _ _=>.str (wdN a))],c:=[(956,47,956,62,fun _ _ os=>(.str (wdN m),os))] }) (X:=X0 w D aq)
  (c:=[.p (Cl (aa w) D (.top (.ref 900)) [.int m] [] os (.str (wdN m)) os),.p (au (aa w) D (.ref wi) (.int 0) os (.str (wdN a)) os)]) ∅ ?_
 exact⟨(gj w m hm os).up hD,h1,trivial⟩
theorem zv (w:J9) (D wi m:Nat) (os:List O):Ev (aa w) D Dj ⟨os,lcW wi m⟩ (eN 0 dW) (.int m) ⟨os,lcW wi m⟩:=aC (X:=X0 w D aq) ∅
theorem uM (w:J9) (D:Nat) (hD:1 <=D) (ms:List Nat) (h8:∀m∈ms,m < 8) (hn:ms.length <=100) (os:List O) (loc:List (Str×V)) (wi a:Nat) (ho:os[0]?=some (.list (mkI ms))) (hw:∀acc,au (aa w) D (.ref wi) (.int 0) (os++[O.list acc]) (.str (wdN a)) (os++[O.list acc]))
  (hi:Ev (aa w) D fd929.scope ⟨os,loc⟩ (ag dW).iter (.ref 0) ⟨os,loc⟩) (hl:cl0 loc (cSc fd929.scope dW).names=JP wi) (hlk:loc.lookup (J8 "waiting")=some (.ref wi)) :
  Ev (aa w) D fd929.scope ⟨os,loc⟩ dW (.ref os.length) ⟨os++[.list (mkI (ms.filter fun m=>sq (wdN m) (wdN a)))],loc⟩:=by
 have:=Ev.compL (g:=aa w) (D:=D) (sc:=fd929.scope) (os:=os) (loc:=loc) (l0:=[("waiting",.ref wi)]) (elt:=eN 0 dW) (t:=(ag dW).target) (iter:=(ag dW).iter) (ifs:=(ag dW).ifs) (scope:=cSc fd929.scope dW) (pos:=eP dW) (i:=0) (x:="mask") (ms:=ms) (W:=fun(m:Nat)=>V.int (m:Int)) (F:=fun m=>V.int (m:Int)) (fun m=>sq (wdN m) (wdN a))
  hi ho ∅ ⟨eP (ag dW).target,∅⟩ (.inl ∅) (by unfold Kg;lia) hl (fun v u=>rfl)
  (fun y hy=>by
   have e:(cSc fd929.scope dW).names.filter (fun p=>isFree p.2)=[((J8 "waiting"),Ks)]:=∅
   have hy':(y,Ks)∈(cSc fd929.scope dW).names.filter (fun p=>isFree p.2):=KI.mpr ⟨hy,rfl⟩
   rw[e] at hy'
   simp only[Ka,Kf,or_false,MS,and_true] at hy'
   subst hy'
   exact⟨hlk,fun v=>rfl⟩)
  (fun m hm acc=>by rw[y0];exact .one (Br w D hD wi m a (h8 m hm) _ (hw acc)))
  (fun m hm _ acc=>zv w D wi m _)
 rw[Dq]
 exact this
theorem xe:∀m:Nat,m < 8->∀a:Nat,a < 8->sq (wdN m) (wdN a)=(m==a):=by decide +kernel
theorem uE (nd:ms.Nodup) (h8:∀m∈ms,m < 8) {a:Nat} (ha:a∈ms):ms.filter (fun m=>sq (wdN m) (wdN a))=[a]:=by
 have e:ms.filter (fun m=>sq (wdN m) (wdN a))=ms.filter (·==a):=Nv fun m hm=>xe m (h8 m hm) a (h8 a ha)
 rw[e,List.filter_beq,nd.count,if_pos ha]
 rfl
structure ip where
 w:List Nat
 d:List Nat
 t:List (Nat×List Nat)
noncomputable def freeD (ms d:List Nat) (a:Nat):List Nat:=ms.filter fun m=>(bel ms m).contains a&&((bel ms m).filter fun o=>!d.contains o).isEmpty
noncomputable def nv (ms:List Nat) (x:ip) (a:Nat) (r:List Nat):ip:=⟨r++aU (freeD ms (x.d++[a]) a),x.d++[a],x.t++[(a,aU (freeD ms (x.d++[a]) a))]⟩
noncomputable def jG (ms:List Nat):Nat->ip->Option ip
 | _,⟨[],d,t⟩=>some ⟨[],d,t⟩
 | 0,_=>none
 | n + 1,⟨a::r,d,t⟩=>jG ms n (nv ms ⟨a::r,d,t⟩ a r)
noncomputable def kD (ms:List Nat):Option ip:=jG ms 9 ⟨aU (wait0 ms),[],[]⟩
noncomputable def lcL (wi ti di:Nat) (tl:List (Str×V)):List (Str×V):=("masks",.ref 0)::("below",.ref 1)::("waiting",.ref wi)::("told",.ref ti)::("done",.ref di)::tl
noncomputable def os1 (os:List O) (a:Nat):List O:=os++[.list [.int a]]
noncomputable def os2 (os:List O) (a di:Nat) (d:List Nat):List O:=(os1 os a).set di (.list (mkI (d++[a])))
theorem BF (w:J9) (D wi ti di:Nat) (tl:List (Str×V)) (os:List O):Ev (aa w) D fd929.scope ⟨os,lcL wi ti di tl⟩ (ag dW).iter (.ref 0) ⟨os,lcL wi ti di tl⟩:=aC (X:=X0 w D aq) ∅
noncomputable def bL:V:=.top (.builtin "list.append")
theorem wg (w:J9) (D wi ti di a:Nat) (d:List Nat) (tl:List (Str×V)) (os:List O) (h1:Ev (aa w) D fd929.scope ⟨os,lcL wi ti di tl⟩ dW (.ref os.length) ⟨os1 os a,lcL wi ti di tl⟩)
  (h2:au (aa w) D (.ref os.length) (.int 0) (os1 os a) (.int a) (os1 os a)) (h3:an (aa w) (.ref di) "append" os bL) (h4:Cl (aa w) D bL [.ref di,.int a] [] (os1 os a) .none (os2 os a di d)) :
  Exs (aa w) D fd929.scope ⟨os,lcL wi ti di tl⟩ [oS] .next ⟨os2 os a di d,lcL wi ti di tl⟩:=
 bq (hk:={ e:=[(956,20,956,77,fun σ=>(.ref σ.os.length,⟨os1 σ.os a,σ.loc⟩))],u:=[(956,20,956,80,fun _ _ _=>.int a)],m:=[(956,8,956,81,bL)],c:=[(956,8,956,81,fun _ _ _=>(.none,os2 os a di d))] }) (X:=X0 w D aq)
  (c:=[.p (Ev (aa w) D fd929.scope ⟨os,lcL wi ti di tl⟩ dW (.ref os.length) ⟨os1 os a,lcL wi ti di tl⟩),.p (au (aa w) D (.ref os.length) (.int 0) (os1 os a) (.int a) (os1 os a)),
   .p (an (aa w) (.ref di) "append" os bL),.p (Cl (aa w) D bL [.ref di,.int a] [] (os1 os a) .none (os2 os a di d))]) ∅ ⟨h1,h2,h3,h4,trivial⟩
theorem ww {xs:List V} (ho:os[i]?=some (.list xs)) (hk:(k:Int) < 2 ^ 63) (hv:xs[k]?=some v):au g D (.ref i) (.int k) (os++tl) v (os++tl):=
 aJ (by rw[Kn (List.getElem?_eq_some_iff.mp ho).1];exact ho) hk hv
theorem za (w:J9) (D:Nat) (hD:1 <=D) (ms:List Nat) (h8:∀m∈ms,m < 8) (nd:ms.Nodup) (hn:ms.length <=60) (wi ti di a:Nat) (r d:List Nat) (ha:a∈ms) (hd:d.length <=100) (tl:List (Str×V)) (os:List O)
  (o0:os[0]?=some (.list (mkI ms))) (ow:os[wi]?=some (.list (mkW (a::r)))) (od:os[di]?=some (.list (mkI d))) :
  Exs (aa w) D fd929.scope ⟨os,lcL wi ti di tl⟩ [oS] .next ⟨os2 os a di d,lcL wi ti di tl⟩:=by
 have hc:=uM w D hD ms h8 (by lia) os (lcL wi ti di tl) wi a o0 (fun acc=>ww (k:=0) ow (by decide) rfl) (BF w D wi ti di tl os) ∅ rfl
 rw[uE nd h8 ha] at hc
 have hdl:di < os.length:=(List.getElem?_eq_some_iff.mp od).1
 refine wg w D wi ti di a d tl os hc ?_ ?_ ?_
 .refine aJ (k:=0) (xs:=mkI [a]) ?_ (by decide) rfl
  unfold os1
  rw[Ke (Km _),Lg];rfl
 .exact an.listM od Md Mc
 .have e:(os1 os a)[di]?=some (.list (mkI d)):=by
   unfold os1
   rw[Kn hdl];exact od
  have:=Cl.append (g:=aa w) (D:=D) (v:=.int (a:Int)) e (by rw[cK];unfold Kg;lia)
  have e2:mkI (d++[a])=mkI d++[.int (a:Int)]:=by simp[mkI]
  unfold os2
  rw[e2]
  exact this
noncomputable def XB (w:J9) (D:Nat) (out:List V):CX (aa w) D:={ X0 w D aq with xb:=fun op a b os=>some ⟨.ref os.length,os++[O.list out],[de.p (bn (aa w) D op a b os (.ref os.length) (os++[O.list out]))],fun h=>mz h⟩ }
noncomputable def osS (os:List O) (r:List Nat):List O:=os++[.list (mkW r)]
noncomputable def osS2 (os:List O) (r out:List Nat):List O:=osS os r++[.list (mkW out)]
theorem vU (w:J9) (D wi ti di p q:Nat) (r out:List Nat) (tl:List (Str×V)) (os:List O) (h1:db (aa w) D (.ref wi) (.int 1) .none os (.ref os.length) (osS os r))
  (h2:au (aa w) D (.ref ti) (.int (-1)) (osS os r) (.ref p) (osS os r)) (h3:au (aa w) D (.ref p) (.int 1) (osS os r) (.ref q) (osS os r)) (h4:bn (aa w) D .Add (.ref os.length) (.ref q) (osS os r) (.ref (osS os r).length) (osS2 os r out)) :
  Exs (aa w) D fd929.scope ⟨os,lcL wi ti di tl⟩ [vA] .next ⟨osS2 os r out,lcL (osS os r).length ti di tl⟩:=
 bq (hk:={ l:=[(959,18,959,29,fun _ _ _ os'=>(.ref os'.length,osS os' r))],u:=[(959,32,959,40,fun _ _ _=>.ref p),(959,32,959,43,fun _ _ _=>.ref q)] }) (X:=XB w D (mkW out))
  (c:=[.p (db (aa w) D (.ref wi) (.int 1) .none os (.ref os.length) (osS os r)),.p (au (aa w) D (.ref ti) (.int (-1)) (osS os r) (.ref p) (osS os r)),.p (au (aa w) D (.ref p) (.int 1) (osS os r) (.ref q) (osS os r)),
   .p (bn (aa w) D .Add (.ref os.length) (.ref q) (osS os r) (.ref (osS os r).length) (osS2 os r out))]) ∅ ⟨h1,h2,h3,h4,trivial⟩
theorem mY {xs:List V} (ho:os[i]?=some (.list (xs++[v]))):au g D (.ref i) (.int (-1)) os v os:=fun value slice hs=>
 dm.listNeg ho (by decide) (by rw[KC];simp;lia) (by decide) (by
  have e:((-1:Int) + (xs++[v]).length).toNat=xs.length:=by rw[KC];simp only[Li,Mp];lia
  rw[e,Ke (Km _),Lg];rfl) hs
theorem m5 {xs:List V} (ho:os[i]?=some (.list (v::xs))) (hz:xs.length < 1000):db g D (.ref i) (.int 1) .none os (.ref os.length) (os++[.list xs]):=by
 have:=db.list (g:=g) (D:=D) (l:=.int 1) (u:=.none) ho rfl rfl (by rw[Li];unfold Kg;lia)
 have e:kI (v::xs) (bound (.int 1)) (bound .none)=xs:=by
  show((v::xs).drop (clipAt (xs.length + 1) ((1:Nat):Int))).take ((v::xs).length - clipAt (xs.length + 1) ((1:Nat):Int))=xs
  rw[clipAt_nat,Nat.min_eq_left (Nat.le_add_left 1 _)]
  exact List.take_of_length_le (Km _)
 rw[e] at this
 exact this
theorem ab (h:os[i]?=some o):(os++tl)[i]?=some o:=by
 rw[Kn (List.getElem?_eq_some_iff.mp h).1];exact h
theorem AG (w:J9) (D wi ti di p q a:Nat) (r l:List Nat) (rs:List V) (tl:List (Str×V)) (os:List O) (hr:r.length <=100) (hl:l.length <=100)
  (ow:os[wi]?=some (.list (mkW (a::r)))) (ot:os[ti]?=some (.list (rs++[.ref p]))) (op:os[p]?=some (.list [.str (wdN a),.ref q])) (oq:os[q]?=some (.list (mkW l))) :
  Exs (aa w) D fd929.scope ⟨os,lcL wi ti di tl⟩ [vA] .next ⟨osS2 os r (r++l),lcL (os.length + 1) ti di tl⟩:=by
 have h4:bn (aa w) D .Add (.ref os.length) (.ref q) (osS os r) (.ref (osS os r).length) (osS2 os r (r++l)):=by
  have e1:(osS os r)[os.length]?=some (.list (mkW r)):=by
   unfold osS
   rw[Ke (Km _),Lg];rfl
  have:=bn.addL (g:=aa w) (D:=D) e1 (ab (tl:=[.list (mkW r)]) oq) (by rw[aG,aG];unfold Kg;lia)
  have e2:mkW (r++l)=mkW r++mkW l:=by simp[mkW]
  unfold osS2
  rw[e2]
  exact this
 have:=vU w D wi ti di p q r (r++l) tl os (m5 (xs:=mkW r) ow (by rw[aG];lia)) (mY (ab ot)) (aJ (k:=1) (ab op) (by decide) rfl) h4
 have e:(osS os r).length=os.length + 1:=by simp[osS]
 rw[e] at this
 exact this
noncomputable def fG:Expr:=eN 1 (eN 1 (eN 1 (sN 0 pn)))
noncomputable def H0:Scope:=compSc (cSc fd929.scope fG) fd929.scope
theorem Ci:fG=fb fd929.scope fG:=∅
theorem yF (w:J9) (D:Nat) (hD:1 <=D) (m:Nat) (hm:m < 8) (os:List O):Ev (aa w) D H0 ⟨os,lm m⟩ (eN 0 fG) (.str (wdN m)) ⟨os,lm m⟩:=by
 refine dp (hk:={ c:=[(958,41,958,56,fun _ _ os=>(.str (wdN m),os))] }) (X:=X0 w D aq)
  (c:=[.p (Cl (aa w) D (.top (.ref 900)) [.int m] [] os (.str (wdN m)) os)]) ∅ ?_
 exact⟨(gj w m hm os).up hD,trivial⟩
theorem uf (w:J9) (D:Nat) (hD:1 <=D) (os:List O) (loc:List (Str×V)) (fi:Nat) (fs:List Nat) (h8:∀m∈fs,m < 8) (hn:fs.length <=100) (ho:os[fi]?=some (.list (mkI fs)))
  (hi:Ev (aa w) D fd929.scope ⟨os,loc⟩ (ag fG).iter (.ref fi) ⟨os,loc⟩):Ev (aa w) D fd929.scope ⟨os,loc⟩ fG (.ref os.length) ⟨os++[.list (mkW fs)],loc⟩:=by
 have:=Ev.compL (g:=aa w) (D:=D) (sc:=fd929.scope) (os:=os) (loc:=loc) (l0:=[]) (elt:=eN 0 fG) (t:=(ag fG).target) (iter:=(ag fG).iter) (ifs:=(ag fG).ifs) (scope:=cSc fd929.scope fG) (pos:=eP fG) (x:="mask") (ms:=fs) (W:=fun(m:Nat)=>V.int (m:Int)) (F:=fun m=>V.str (wdN m)) (fun _=>true)
  hi ho ∅ ⟨eP (ag fG).target,∅⟩ (.inl ∅) (by unfold Kg;lia) ∅ (fun v u=>rfl) (fun y hy=>(dz ∅ hy).elim)
  (fun m hm acc=>by rw[show(ag fG).ifs=[] by kernel_rfl];exact .nil)
  (fun m hm _ acc=>yF w D hD m (h8 m hm) _)
 rw[fE] at this
 rw[Ci]
 exact this
noncomputable def lcf (wi ti di fi:Nat):List (Str×V):=lcL wi ti di [("free",.ref fi)]
theorem A9 (w:J9) (D wi ti di fi:Nat) (os:List O):Ev (aa w) D fd929.scope ⟨os,lcf wi ti di fi⟩ (ag fG).iter (.ref fi) ⟨os,lcf wi ti di fi⟩:=aC (X:=X0 w D aq) ∅
noncomputable def oA (os:List O) (fs:List Nat):List O:=os++[.list (mkW fs)]
noncomputable def oB (os:List O) (fs:List Nat):List O:=oA os fs++[.list (mkW (aU fs))]
noncomputable def oC (os:List O) (fs:List Nat) (a:Nat):List O:=oB os fs++[.list [.str (wdN a),.ref (oA os fs).length]]
noncomputable def oD (os:List O) (fs:List Nat) (a ti:Nat) (rs:List V):List O:=(oC os fs a).set ti (.list (rs++[.ref (oB os fs).length]))
theorem wp (w:J9) (D wi ti di fi a:Nat) (fs:List Nat) (rs:List V) (os:List O) (h0:au (aa w) D (.ref wi) (.int 0) os (.str (wdN a)) os) (h1:Ev (aa w) D fd929.scope ⟨os,lcf wi ti di fi⟩ fG (.ref os.length) ⟨oA os fs,lcf wi ti di fi⟩)
  (h2:Cl (aa w) D (.top (.builtin "sorted")) [.ref os.length] [] (oA os fs) (.ref (oA os fs).length) (oB os fs)) (h3:an (aa w) (.ref ti) "append" os bL) (h4:Cl (aa w) D bL [.ref ti,.ref (oB os fs).length] [] (oC os fs a) .none (oD os fs a ti rs)) :
  Exs (aa w) D fd929.scope ⟨os,lcf wi ti di fi⟩ [pn] .next ⟨oD os fs a ti rs,lcf wi ti di fi⟩:=
 bq (hk:={ e:=[(958,40,958,74,fun σ=>(.ref σ.os.length,⟨oA σ.os fs,σ.loc⟩))],u:=[(958,21,958,31,fun _ _ _=>.str (wdN a))],m:=[(958,8,958,77,bL)],c:=[(958,33,958,75,fun _ _ _=>(.ref (oA os fs).length,oB os fs)),(958,8,958,77,fun _ _ _=>(.none,oD os fs a ti rs))] }) (X:=X0 w D aq)
  (c:=[.p (au (aa w) D (.ref wi) (.int 0) os (.str (wdN a)) os),.p (Ev (aa w) D fd929.scope ⟨os,lcf wi ti di fi⟩ fG (.ref os.length) ⟨oA os fs,lcf wi ti di fi⟩),.p (Cl (aa w) D (.top (.builtin "sorted")) [.ref os.length] [] (oA os fs) (.ref (oA os fs).length) (oB os fs)),
   .b (KS 2 Kg) true,.p (an (aa w) (.ref ti) "append" os bL),.p (Cl (aa w) D bL [.ref ti,.ref (oB os fs).length] [] (oC os fs a) .none (oD os fs a ti rs))]) ∅ ⟨h0,h1,h2,by show KS 2 Kg=true;kernel_rfl,h3,h4,trivial⟩
theorem yu (w:J9) (D:Nat) (hD:1 <=D) (wi ti di fi a:Nat) (r fs:List Nat) (rs:List V) (os:List O) (h8:∀m∈fs,m < 8) (nd:fs.Nodup) (hn:fs.length < 60) (hrs:rs.length <=100)
  (ow:os[wi]?=some (.list (mkW (a::r)))) (of_:os[fi]?=some (.list (mkI fs))) (ot:os[ti]?=some (.list rs)) :
  Exs (aa w) D fd929.scope ⟨os,lcf wi ti di fi⟩ [pn] .next ⟨oD os fs a ti rs,lcf wi ti di fi⟩:=by
 refine wp w D wi ti di fi a fs rs os (aJ (k:=0) ow (by decide) rfl) (uf w D hD os _ fi fs h8 (by lia) of_ (A9 w D wi ti di fi os)) ?_ (an.listM ot Md Mc) ?_
 .refine Cl.sortedW ?_ nd h8 (by lia)
  unfold oA
  rw[Ke (Km _),Lg];rfl
 .have e:(oC os fs a)[ti]?=some (.list rs):=ab (ab (ab ot))
  exact Cl.append e (by unfold Kg;lia)
noncomputable def fU:Expr:=sN 0 ju
noncomputable def dE:Scope:=compSc (cSc fd929.scope fU) fd929.scope
noncomputable def o7:Expr:=(ag fU).ifs.getD 0 default
noncomputable def cD:Expr:=eN 0 (eN 1 o7)
noncomputable def xA:Scope:=compSc (cSc dE cD) dE
theorem Ai:cD=fb dE cD:=∅
theorem Ah:(ag fU).ifs=[o7]:=∅
noncomputable def xL:Expr:=(ag cD).ifs.getD 0 default
theorem vi:(ag cD).ifs=[xL]:=∅
noncomputable def JZ (di:Nat):List (Str×V):=[("done",.ref di)]
noncomputable def lco (di o:Nat):List (Str×V):=[("done",.ref di),("one",.int o)]
noncomputable def XN (w:J9) (D:Nat) (p:Bool):CX (aa w) D:=XC w D p
theorem jV (o:Nat):∀d:List Nat,ll (.int (o:Int)) (mkI d)=some (d.contains o)
 | []=>rfl
 | a::r=>by
  show(ll (.int (o:Int)) (mkI r)).map _=_
  rw[jV o r,List.contains_cons]
  show some (Bool.or _ _)=some (Bool.or _ _)
  congr 2
  rw[NN]
  simp only[beq_iff_eq]
  lia
theorem yI (w:J9) (D di o:Nat) (d:List Nat) (os:List O) (od:os[di]?=some (.list (mkI d))) :
  Tr (aa w) D xA ⟨os,lco di o⟩ xL (!d.contains o) ⟨os,lco di o⟩:=by
 refine FG (X:=XN w D (!d.contains o))
  (c:=[.p (ak (aa w) D .NotIn (.int o) (.ref di) os (.bool (!d.contains o)) os)]) ∅ ⟨ak.notInL od (jV o d),trivial⟩
noncomputable def xU (tg:Expr) (env:Env):Kd->Sem Unit:=fun v=>assignAll v ((Mb [tg] env).map (·.2))
set_option maxHeartbeats 2000000 in
theorem Ex.compSw {tg:Expr} {t:Expr} {a:V} {cl0:List (Str×V)} (hi:Ev g D sc σ iter a σ₁) (hit:aZ g D a σ₁.os nx)
  (hk:scope.kind=.function) (hnd:(scope.names.map (·.1)).Nodup) (hfr:∀x,(x,Ks)∈scope.names->sc.names.lookup x=some .cell\/sc.names.lookup x=some .free)
  (hcl:∀x k,(x,k)∈scope.names->cl0.lookup x=if k=Ks then σ₁.loc.lookup x else none)
  (hrun:lS g D (compSc scope sc) (.ListComp elt (⟨t,iter,ifs,0⟩::rest) scope pos) nx σ₁.os.length σe ⟨σ₁.os++[.list []],cl0⟩) (hl1:∀x,(x,Ks)∈scope.names->loc'.lookup x=σe.loc.lookup x) (hl2:∀x,(x,Ks)∉scope.names->loc'.lookup x=σ₁.loc.lookup x)
  (hs:∀env x,LP iter env x=pure x) (hsw:∀env:Env,env.scope=sc->swapsWith (.ListComp elt (⟨t,iter,ifs,0⟩::rest) scope pos) (some tg) apos.line env=pure true) (hasg:eK g D sc ⟨σe.os,loc'⟩ [tg] (.ref σ₁.os.length) σ₂):Ex g D sc σ (.Assign [tg] (.ListComp elt (⟨t,iter,ifs,0⟩::rest) scope pos) apos) .next σ₂:=fun A env ρ s he hr st=>by
 show J6 _ _ (do
  K8 apos
  if <- Mj [tg] (.ListComp elt (⟨t,iter,ifs,0⟩::rest) scope pos) apos.line env then do
   evalThenUse (.ListComp elt (⟨t,iter,ifs,0⟩::rest) scope pos) env (xU tg env)
   pure .next
  else do
   let v <- KP (.ListComp elt (⟨t,iter,ifs,0⟩::rest) scope pos) env
   assignStores env v (<- LY [tg] (.ListComp elt (⟨t,iter,ifs,0⟩::rest) scope pos) env) ((Mb [tg] env).map (·.2))) _ _ _
 rw[show Mj [tg] (.ListComp elt (⟨t,iter,ifs,0⟩::rest) scope pos) apos.line env=pure true from hsw env he]
 refine J7 (KT (J7 (Kb ?_)))
 rw[if_pos rfl]
 refine J7 (J7 (Kr (oy (use:=fun env=>some (xU tg env)) (R:=fun _ _=>True) (σ₂:=σ₂) hi hit hk hnd hfr hcl hrun hl1 hl2 hs (fun A env ρ' s' C accA he hr stO ha cRho cOwn low ⟨m',oL',es',ep',hoL',r'⟩=>by
  show J6 _ _ (assignAll (.ref accA) ((Mb [tg] env).map (·.2))) _ _ s'
  refine Kr (hasg A env ρ' s' (.ref accA) he hr stO ⟨accA,ha,rfl⟩) ?_ (fun _ _ z=>z)
  rintro _ s'' ⟨ρ'',st'',go''⟩
  have cRho'':C∉ρ'':=fun hm=>by
   obtain⟨ν,e,hν⟩:=go''.pre
   rw[e] at hm
   rcases List.mem_append.mp hm with q | q
   .exact cRho q
   .rw[hν _ q] at hoL';exact nS hoL'
  refine⟨m',⟨oL',es',ep',go''.keep _ _ hoL' cRho cOwn (dg low),r'⟩,fun h' same=>⟨ρ'',s'',h',trivial,st''.other (tk:=s''.toks) (fun b o hb e=>(same.2 b hb).trans e) cRho'' cOwn low,go'',same,rfl⟩⟩) A env ρ s he hr st) (fun _ s' ⟨ρ',_,h⟩=>Kb (Kb ⟨ρ',rfl,h⟩)) fun _ _ z=>z))
noncomputable def pL (scope:Scope) (x:Str):Bool:=!(scope.names.any fun(n,k)=>n==x&&(k==.local||k==.cell))
theorem Ex.compLoc {t:Expr} {a:V} (hi:Ev g D sc σ iter a σ₁) (hit:aZ g D a σ₁.os nx) (hh:fP sc scope iter=true)
  (run:ba g D (compSc scope sc) t ifs elt nx σ₁.os.length σe 0 ⟨σ₁.os++[.list []],cl0 σ₁.loc scope.names⟩) (hf:∀x,(x,Ks)∈scope.names->σ₁.loc.lookup x=σe.loc.lookup x)
  (hx:sc.names.lookup x=some .local) (hk:sc.kind=.function) (hline:(px.line==pos.line)=true) (hno:pL scope x=true) :
  Ex g D sc σ (.Assign [.Name x px] (.ListComp elt [⟨t,iter,ifs,0⟩] scope pos) apos) .next ⟨σe.os,put σ₁.loc x (.ref σ₁.os.length)⟩:=by
 simp only[fP,Kk] at hh
 have nd:=ej hh.1.2
 refine Ex.compSw (rest:=[]) hi hit (iu hh.1.1) nd (gN hh.2.1) (kV nd) (fun he hr _ _ _ _ _ _ _ _ at_ ha st go hn q=>ut he hr run at_ ha st go hn q) hf (fun _ _=>rfl) (aD hh.2.2) (fun env he=>?_) (eK.one (aX.name (.inl hx)))
 subst he
 unfold swapsWith
 dsimp only
 have e1:env.kindOf x=some .local:=hx
 have e2:env.blockKind=.function:=by
  unfold Env.blockKind
  rw[hk];rfl
 rw[e1,e2,show(PySem.Expr.ListComp elt [⟨t,iter,ifs,0⟩] scope pos).pos=pos from rfl,hline]
 unfold pL at hno
 rw[hno]
 rfl
noncomputable def fV:Expr:=sN 0 (ah aA 1)
noncomputable def vY:Expr:=(ag fV).ifs.getD 0 default
theorem zi:(ag fV).ifs=[vY]:=∅
theorem Ar:ah aA 1=.Assign [.Name "masks" (nN (ah aA 1))] (fb aw.scope fV) (sP (ah aA 1)):=∅
noncomputable def rA:Scope:=compSc (cN fV) aw.scope
noncomputable def lk1:List (Str×V):=[("drawn",.ref 4)]
noncomputable def lkK (k:Nat):List (Str×V):=[("drawn",.ref 4),("k",.int k)]
theorem ET (ys:List V) (k:Nat):kI ys (bound .none) (bound (.int k))=ys.take k:=by
 show(ys.drop 0).take (clipAt ys.length (k:Int) - 0)=_
 rw[clipAt_nat]
 exact List.take_eq_take_min.symm
theorem vu (d:List Nat) (k:Nat):(mkI d).take k=mkI (d.take k):=by unfold mkI;rw[List.map_take]
theorem Cc (w:J9) (k dk:Nat) (p:Bool) (d:List Nat) (os:List O) (hlen:5 <=os.length) (h1:au (aa w) 10 (.ref 4) (.int k) os (.int dk) os) (h2:db (aa w) 10 (.ref 4) .none (.int k) os (.ref os.length) (os++[O.list (mkI (d.take k))]))
  (h3:ak (aa w) 10 .NotIn (.int dk) (.ref os.length) (os++[O.list (mkI (d.take k))]) (.bool p) (os++[O.list (mkI (d.take k))])):Tr (aa w) 10 rA ⟨os,lkK k⟩ vY p ⟨os,lkK k⟩:=by
 have h:Tr (aa w) 10 rA ⟨os,lkK k⟩ vY p ⟨os++[O.list (mkI (d.take k))],lkK k⟩:=qh (hk:={ u:=[(963,52,963,60,fun _ _ _=>.int dk)],l:=[(963,68,963,77,fun _ _ _ os=>(.ref os.length,os++[O.list (mkI (d.take k))]))] }) (X:=XC w 10 p)
  (c:=[.p (au (aa w) 10 (.ref 4) (.int k) os (.int dk) os),.p (db (aa w) 10 (.ref 4) .none (.int k) os (.ref os.length) (os++[O.list (mkI (d.take k))])),.p (ak (aa w) 10 .NotIn (.int dk) (.ref os.length) (os++[O.list (mkI (d.take k))]) (.bool p) (os++[O.list (mkI (d.take k))]))]) ∅ ⟨h1,h2,h3,trivial⟩
 exact Tr.drop h (fun q hq=>by
  simp only[lkK,Ka,Kf,or_false] at hq
  rcases hq with rfl | rfl
  .simp[bi,Lx];lia
  .rfl)
theorem zj (w:J9) (k dk:Nat) (os:List O) (h1:au (aa w) 10 (.ref 4) (.int k) os (.int dk) os):Ev (aa w) 10 rA ⟨os,lkK k⟩ (eN 0 fV) (.int dk) ⟨os,lkK k⟩:=
 dp (hk:={ u:=[(963,13,963,21,fun _ _ _=>.int dk)] }) (X:=X0 w 10 aq) (c:=[.p (au (aa w) 10 (.ref 4) (.int k) os (.int dk) os)]) ∅ ⟨h1,trivial⟩
section
variable (w:J9)
noncomputable def osEr (vs:Array Kd) (n:Nat) (xs:List Int):List O:=osDr vs n xs++[.range 0 (drN xs).length 1]
theorem vI:(osEr vs n xs).length=6:=rfl
theorem C0:Ev (aa w) 10 aw.scope ⟨osDr vs n xs,lwB⟩ (ag fV).iter (.ref 5) ⟨osEr vs n xs,lwB⟩:=by
 refine dp (hk:={ c:=[(963,37,963,47,fun _ _ os=>(.int (drN xs).length,os))] }) (X:=X0 w 10 aq)
  (c:=[.p (Cl (aa w) 10 (.top (.builtin "len")) [.ref 4] [] (osDr vs n xs) (.int (drN xs).length) (osDr vs n xs))]) ∅ ?_
 have:=Cl.lenL (g:=aa w) (D:=10) (i:=4) (vs:=mkI (drN xs)) (os:=osDr vs n xs) rfl (by rw[cK];have:=mE xs;lia)
 rw[cK] at this
 exact⟨this,trivial⟩
noncomputable def osMr (vs:Array Kd) (n:Nat) (xs:List Int):List O:=osEr vs n xs++[.list (mkI (eV (drN xs)))]
noncomputable def lwC:List (Str×V):=[("script",.ref 0),("drawn",.ref 4),("masks",.ref 6)]
theorem AF:Ex (aa w) 10 aw.scope ⟨osDr vs n xs,lwB⟩ (ah aA 1) .next ⟨osMr vs n xs,lwC⟩:=by
 have hget:∀k,k < (drN xs).length->(mkI (drN xs))[k]?=some (.int ((drN xs).getD k 0:Nat)):=fun k hk=>dL (by rw[Kh,Kc hk];rfl)
 have dl:=mE xs
 obtain⟨l,hl',run⟩:=ba.fm (g:=aa w) (D:=10) (sc:=rA) (t:=(ag fV).target) (elt:=eN 0 fV) (ifs:=(ag fV).ifs) (x:="k") (nx:=bF 0 1 (drN xs).length) (os:=osEr vs n xs) (l0:=lk1) (n:=(drN xs).length) (w:=fun k=>.int (k:Nat))
  (j4 (drN xs)) (fun k=>.int ((drN xs).getD k 0:Nat)) ⟨eP (ag fV).target,∅⟩ (.inl ∅) (by rw[K4];lia)
  (fun k acc=>by unfold bF;split <;> simp)
  (fun v u=>rfl)
  (fun k acc hk=>by
   rw[zi]
   have o4:(osEr vs n xs++[O.list acc])[4]?=some (.list (mkI (drN xs))):=rfl
   have sl:=db.list (g:=aa w) (D:=10) (l:=.none) (u:=.int k) o4 rfl rfl (by rw[cK,K4];lia)
   rw[ET,vu] at sl
   have c:=ak.notInL (g:=aa w) (D:=10) (a:=.int ((drN xs).getD k 0:Nat)) (i:=(osEr vs n xs++[O.list acc]).length) (os:=osEr vs n xs++[O.list acc]++[O.list (mkI ((drN xs).take k))]) (by rw[Ke (Km _),Lg];rfl) (jV _ _)
   exact .one (Cc w k ((drN xs).getD k 0) (j4 (drN xs) k) (drN xs) _ (by rw[KC,vI];simp) (aJ o4 (by lia) (hget k hk)) sl c))
  (fun k acc hk hp=>zj w k ((drN xs).getD k 0) _ (aJ (xs:=mkI (drN xs)) rfl (by lia) (hget k hk)))
 have pos:0 < (drN xs).length:=by unfold drN kj kQ;simp
 have sm:=fp 0 (drN xs).length pos (by lia)
 have hit:=aZ.range (g:=aa w) (D:=10) (i:=5) (a:=0) (b:=(drN xs).length) (c:=1) (n:=(drN xs).length) (os:=osEr vs n xs) rfl sm.2 (by simpa using sm.1)
 have hl:cl0 lwB (cSc aw.scope fV).names=lk1:=∅
 have:=Ex.compLoc (σ₁:=⟨osEr vs n xs,lwB⟩) (pos:=eP fV) (x:="masks") (px:=nN (ah aA 1)) (apos:=sP (ah aA 1)) (C0 w) hit (by kernel_rfl:fP aw.scope (cSc aw.scope fV) (ag fV).iter=true) (by rw[hl];exact run) (fun y hy=>by
  have e2:(cSc aw.scope fV).names.filter (fun p=>isFree p.2)=[((J8 "drawn"),Ks)]:=∅
  have hy':(y,Ks)∈(cSc aw.scope fV).names.filter (fun p=>isFree p.2):=KI.mpr ⟨hy,rfl⟩
  rw[e2] at hy'
  simp only[Ka,Kf,or_false,MS,and_true] at hy'
  subst hy'
  rcases hl' with rfl | ⟨v,rfl⟩ <;> rfl) ∅ ∅ ∅ ∅
 rw[Ar]
 have e9:((K0 (drN xs).length).filter (j4 (drN xs))).map (fun k=>V.int ((drN xs).getD k 0:Nat))=mkI (eV (drN xs)):=by
  unfold eV mkI
  rw[LU]
  rfl
 rw[e9] at this
 exact this
end
theorem aB.create {rest:List Kd} {kw:List (Str×Kd)} (h:aB (D + 1) A):aB D (A.under (.builtin "type.__call__" ⟨.ref C::rest,kw⟩)):=by
 have w1:(NM "type.__call__" ⟨.ref C::rest,kw⟩).weight=1:=rfl
 have w2:(NM "type.__call__" ⟨.ref C::rest,kw⟩).cUnits=1:=rfl
 refine⟨h.handled,?_,?_⟩
 .show A.depth + (NM "type.__call__" ⟨.ref C::rest,kw⟩).weight + D < _
  rw[w1];have:=h.depth;lia
 .show A.units + (NM "type.__call__" ⟨.ref C::rest,kw⟩).cUnits + 40 * D < _
  rw[w2];have:=h.units;lia
theorem ly {t:Nat} {o:OsState} (a b:Obj) :
  Go [] ρ ⟨h,gn,dr,t,o⟩ (ρ++[h.objs.size]++[h.objs.size + 1]) ⟨(h.push a).push b,gn,dr,t,o⟩:=by
 have kp:∀c ob,h.get? c=some ob->((h.push a).push b).get? c=some ob:=fun c ob e=>Ki _ (Ki _ e)
 refine .of ⟨[h.objs.size,h.objs.size + 1],by rw[KG];rfl,fun c hc=>?_⟩ (fun c ob e _ _=>kp c ob e) (fun c ob e=>⟨ob,kp c ob e⟩) rfl rfl
 show h.get? c=none
 have ge:h.objs.size <=c:=by
  simp only[Ka,Kf,or_false] at hc
  rcases hc with rfl | rfl
  .exact Km _
  .exact MZ _
 cases z:h.get? c with
 | none=>rfl
 | some ob=>exact absurd (KJ z) (Nat.not_lt.mpr ge)
noncomputable def madeO (os:List O) (C:Kj):List O:=os++[.dict [] 0]++[.inst C os.length]
theorem Co.make (hm:makesIn g.K C=true) (hi:LG g.K (.ref C) "__init__"=some (some (.ref fI))) (hf:Na g.K (.ref fI)=some (.type "function"))
  (c:Co g D (.top (.ref fI)) (.ref (os.length + 1)::args) kw (madeO os C) .none os'):Co g (D + 1) (.top (.ref C)) args kw os (.ref (os.length + 1)) os':=fun ρ x xs ks hx hxs hks A s R hr hh hK hR=>by
 obtain rfl:x=.ref C:=hx
 obtain⟨h,gn,dr,t,os_⟩:=s
 have hN:N0 <=h.objs.size:=aV hK
 have h1:HR g.w.params (ρ++[h.objs.size]) (os++[.dict [] 0]) (h.push LW):=HR.push hh (Km _) hN (fun b o e=>Ki _ e) (Ku _ rfl) ⟨#[],rfl,.nil,KY⟩
 have e1:(h.push LW).objs.size=h.objs.size + 1:=L6 ..
 have gx:((h.push LW).push (ML C h.objs.size)).get? (h.objs.size + 1)=some (ML C h.objs.size):=by rw[<- e1];exact Ku _ rfl
 have h2:HR g.w.params (ρ++[h.objs.size]++[h.objs.size + 1]) (madeO os C) ((h.push LW).push (ML C h.objs.size)):=
  HR.push h1 (by rw[e1];exact Km _) (by rw[e1];lia) (fun b o e=>Ki _ e) gx
   ⟨h.objs.size,by rw[<- hh.len,KG,Ke (Km _),Lg];rfl,rfl⟩
 have g1:Go [] ρ ⟨h,gn,dr,t,os_⟩ (ρ++[h.objs.size]++[h.objs.size + 1]) ⟨(h.push LW).push (ML C h.objs.size),gn,dr,t,os_⟩:=ly _ _
 have k1:g.K.In ((h.push LW).push (ML C h.objs.size)):=fun b o e=>Ki _ (Ki _ (hK b o e))
 have at1:(ρ++[h.objs.size]++[h.objs.size + 1])[os.length + 1]?=some (h.objs.size + 1):=by
  rw[<- hh.len,Ke (by simp)]
  simp
 refine make_core (makes_of hK hm) (Mz hK hi) (fun self=>bind_fn hK self hf) (.inl rfl) ?_
 refine c _ _ (.ref (h.objs.size + 1)::xs) ks rfl (.cons ⟨_,at1,rfl⟩ (ae.go hxs g1)) (ae.go hks g1) _ _ _ hr.create h2 k1 fun z s' ρ' hz hh' go=>?_
 obtain rfl:z=.none:=hz
 refine⟨rfl,hR _ s' ρ' ?_ hh' (g1.trans go)⟩
 obtain⟨ν,rfl,_⟩:=go.pre
 exact⟨_,get_app at1,rfl⟩
noncomputable def xf (os:List O) (C:Kj):List O:=os++[.dict [] 0]++[.slots C os.length []]
theorem Co.makeS (hm:makesIn g.K C=true) (hi:LG g.K (.ref C) "__init__"=some (some (.ref fI))) (hf:Na g.K (.ref fI)=some (.type "function"))
  (c:Co g D (.top (.ref fI)) (.ref (os.length + 1)::args) kw (xf os C) .none os'):Co g (D + 1) (.top (.ref C)) args kw os (.ref (os.length + 1)) os':=fun ρ x xs ks hx hxs hks A s R hr hh hK hR=>by
 obtain rfl:x=.ref C:=hx
 obtain⟨h,gn,dr,t,os_⟩:=s
 have hN:N0 <=h.objs.size:=aV hK
 have h1:HR g.w.params (ρ++[h.objs.size]) (os++[.dict [] 0]) (h.push LW):=HR.push hh (Km _) hN (fun b o e=>Ki _ e) (Ku _ rfl) ⟨#[],rfl,.nil,KY⟩
 have e1:(h.push LW).objs.size=h.objs.size + 1:=L6 ..
 have gx:((h.push LW).push (ML C h.objs.size)).get? (h.objs.size + 1)=some (ML C h.objs.size):=by rw[<- e1];exact Ku _ rfl
 have h2:HR g.w.params (ρ++[h.objs.size]++[h.objs.size + 1]) (xf os C) ((h.push LW).push (ML C h.objs.size)):=
  HR.push h1 (by rw[e1];exact Km _) (by rw[e1];lia) (fun b o e=>Ki _ e) gx
   ⟨h.objs.size,#[],by rw[<- hh.len,KG,Ke (Km _),Lg];rfl,rfl,.nil⟩
 have g1:Go [] ρ ⟨h,gn,dr,t,os_⟩ (ρ++[h.objs.size]++[h.objs.size + 1]) ⟨(h.push LW).push (ML C h.objs.size),gn,dr,t,os_⟩:=ly _ _
 have k1:g.K.In ((h.push LW).push (ML C h.objs.size)):=fun b o e=>Ki _ (Ki _ (hK b o e))
 have at1:(ρ++[h.objs.size]++[h.objs.size + 1])[os.length + 1]?=some (h.objs.size + 1):=by
  rw[<- hh.len,Ke (by simp)]
  simp
 refine make_core (makes_of hK hm) (Mz hK hi) (fun self=>bind_fn hK self hf) (.inl rfl) ?_
 refine c _ _ (.ref (h.objs.size + 1)::xs) ks rfl (.cons ⟨_,at1,rfl⟩ (ae.go hxs g1)) (ae.go hks g1) _ _ _ hr.create h2 k1 fun z s' ρ' hz hh' go=>?_
 obtain rfl:z=.none:=hz
 refine⟨rfl,hR _ s' ρ' ?_ hh' (g1.trans go)⟩
 obtain⟨ν,rfl,_⟩:=go.pre
 exact⟨_,get_app at1,rfl⟩
open Builtin Builtin.ObjectAttr Builtin.Getset_descriptor
noncomputable def oZ (o:Obj) (i:Nat) (v:Kd):Obj:={ o with slots:=(o.slots++Array.replicate (i + 1 - o.slots.size) none).setIfInBounds i (some v) }
theorem uq {K:Frag} {x p:Kj} {v:Kd} {R:Mo->Kl->Prop} {hp:Heap} {osx:OsState}
  (X:K.In hp) (I:InstAt hp x ox C od) (hs:slotIn K p C=some i) (hi:i < 1000)
  (h:R (.ok (.ret .none)) ⟨hp.update x (fun o=>oZ o i v),gn,dr,tk,osx⟩) :
  Ky (Kx PW w) A (.call (.builtin "member_descriptor.__set__") ⟨[.ref p,.ref x,v],[]⟩) R ⟨hp,gn,dr,tk,osx⟩:=by
 obtain⟨n,tn,owner,behind,tb,d,sl,hO'⟩:=slot_of X hs
 obtain⟨cd,ho,hc,hm,hb,e⟩:=hO'
 have tyI:=I.type (M:=Kx PW w)
 have inO:=looks_mroIn (M:=Kx PW w) X hm
 have nms:Looks (Kx PW w) hp (Slots.slotNamesOf (.ref C)) cd.slotNames:=(looks_clsIn X hc).andThen .now
 have hx:=I.at_
 have rd0:=looks_field (M:=Kx PW w) ho 0 (v:=.str n tn) rfl
 have rd1:=looks_field (M:=Kx PW w) ho 1 (v:=owner) rfl
 have rd3:=looks_field (M:=Kx PW w) ho 3 (v:=.builtin "proto.slot#set") rfl
 have rd4:=looks_field (M:=Kx PW w) ho 4 (v:=.int behind tb) rfl
 refine codeAny_call_builtin KF.slot_mset.plain KF.entry_mset (KF.slot_mset.check _ _ _ _ _ _ _ _ ⟨_,ho,rfl⟩ (KF.args_mset _ _ _) ?_)
 unfold Builtin.«member_descriptor.__set__» descrSet descrStoreThrough descrCheckInstance descrNameAndClass isInstance
 have self:Looks (Kx PW w) hp (descrItself (.ref p)) [.ref p]:=((Looks.ld (part:=none) ho).andThen .now).andThen (Looks.of_pure ∅)
 repeat lk
 refine⟨Mx _ (by decide +kernel),Mh KF.entry_slotset ?_⟩
 unfold Builtin.«proto.slot#set» Slots.target
 repeat lk
 rw[if_neg hb]
 refine Kb (J7 ?_)
 unfold setSlotAt
 dsimp only
 rw[if_neg (by rw[K4];lia)]
 subst e
 exact wpAny_updatePart hx (Kb h)
noncomputable def fy (K:Frag) (C:Kj) (name:Str) (k:Nat):Bool:=(LG K (.ref C) name).any fun o=>o.any fun v=>match v with
 | .ref p=>(plainGet K C name&&isClsIn K C&&MW K (.ref p) "__get__"==some (some (.builtin "member_descriptor.__get__"))&&takesIn K (.ref p)==some true&&slotIn K p C==some k)&&
  (LG K (.ref C) "__setattr__"==some (some (.builtin "object.__setattr__"))&&plainOver K C&&takerIn K C name==some (some (.ref p))&&Na K (.ref p)==some (.type "member_descriptor")&&Nat.blt k 1000)
 | _=>false
theorem oH {K:Frag} {name:Str} (h:fy K C name k=true):∃p,LG K (.ref C) name=some (some (.ref p))/\((((plainGet K C name=true/\isClsIn K C=true)/\MW K (.ref p) "__get__"=some (some (.builtin "member_descriptor.__get__")))/\takesIn K (.ref p)=some true)/\slotIn K p C=some k)/\
  (((LG K (.ref C) "__setattr__"=some (some (.builtin "object.__setattr__"))/\plainOver K C=true)/\takerIn K C name=some (some (.ref p)))/\Na K (.ref p)=some (.type "member_descriptor"))/\Nat.blt k 1000=true:=by
 obtain⟨o,hp,h⟩:=bh h
 obtain⟨v,rfl,h⟩:=bh h
 cases v with
 | ref p=>
  simp only[Kk,beq_iff_eq] at h
  exact⟨p,hp,h⟩
 | _=>exact nB h
theorem HR.slotsO {vs:List (Option V)} {x:Kd} (hh:HR P ρ os h) (hi:os[i]?=some (.slots C d vs)) (hd:os[d]?=some (.dict es n)) (hx:RelV ρ (.ref i) x) :
  ∃a b en sv,x=.ref a/\ρ[i]?=some a/\ρ[d]?=some b/\InstAt h a ⟨.ref C,some b,.plain,sv⟩ C (some ⟨.type "dict",none,.dict en n,#[]⟩)/\ae (aL ρ) vs sv.toList:=by
 obtain⟨a,ha,rfl⟩:=hx
 rcases hh.ob i _ a hi ha with q | ⟨ob,e,b,sv,hb,rfl,r⟩
 .cases q
 .obtain⟨en,e2,_⟩:=hh.dict hd hb
  exact⟨a,b,en,sv,rfl,ha,hb,⟨e,rfl,rfl,e2⟩,r⟩
theorem aj.slot {vs:List (Option V)} {name:Str} (hi:os[i]?=some (.slots C d vs)) (hd:os[d]?=some (.dict es n)) (hv:vs[k]?=some (some v))
  (h1:fy g.K C name k=true) (h3:gd v=true):aj g D (.ref i) name os v os:=fun ρ x hx=>Lf.pure fun A s hr hh hk=>by
 obtain⟨a,b,en,sv,rfl,ha,hb,I,r⟩:=hh.slotsO hi hd hx
 obtain⟨p,hp,⟨⟨⟨⟨q1,q2⟩,q3⟩,q4⟩,q5⟩,_⟩:=oH h1
 obtain⟨y,hy,ry⟩:=r.get hv
 cases y with
 | none=>exact ry.elim
 | some y=>
   refine get_bind hk I (plainGet_of q1).1 (findObj_data q2 hp q3 q4) (plainGet_of q1).2 (Ll (slot_get (s:={ s with toks:=s.toks + 1 }) hk I q5 (v:=y) ?_ (handed_on (handed_rel h3 ry) ⟨ry,rfl,rfl,rfl⟩)))
   show(sv[k]?).join=some y
   rw[<- Lm,hy];rfl
noncomputable def CC (vs:List (Option V)) (k:Nat) (v:V):List (Option V):=(vs++L5 (k + 1 - vs.length) none).set k (some v)
theorem ae.replicate {α β:Type} {R:α->β->Prop} {a:α} {b:β} (h:R a b):∀n,ae R (L5 n a) (L5 n b)
 | 0=>.nil
 | n + 1=>.cons h (ae.replicate h n)
theorem az.slot {vs:List (Option V)} {name:Str} (hi:os[i]?=some (.slots C d vs)) (hd:os[d]?=some (.dict es n))
  (h1:fy g.K C name k=true):az g D (.ref i) name v os (os.set i (.slots C d (CC vs k v))):=fun ρ x y hx hy A s hr hh hk=>by
 obtain⟨hp,gn,dr,tk,osx⟩:=s
 obtain⟨a,b,en,sv,rfl,ha,hb,I,r⟩:=hh.slotsO hi hd hx
 obtain⟨p,hpn,⟨⟨⟨⟨q1,q2⟩,q3⟩,q4⟩,q5⟩,⟨⟨⟨q6,q7⟩,q8⟩,q9⟩,q10⟩:=oH h1
 refine set_plain hk I q6 (osa_descr (s:=⟨hp,gn,dr,tk + 1,osx⟩) KF.slot_mset hk I q7 q8 q9 (uq hk I q5 (by simpa [Lx] using q10) ?_))
 dsimp only at hh I
 have hob:(hp.update a (fun o=>oZ o k y)).get? a=some (oZ ⟨.ref C,some b,.plain,sv⟩ k y):=Lr _ I.at_ rfl
 refine⟨ρ,trivial,hh.set ha (Lc ..) hob ⟨b,_,hb,rfl,?_⟩,?_⟩
 .have e:((sv++Array.replicate (k + 1 - sv.size) none).setIfInBounds k (some y)).toList=(sv.toList++L5 (k + 1 - vs.length) none).set k (some y):=by
   have:=r.length
   simp[<- this]
  rw[e]
  exact ae.set (a:=some v) (b:=some y) hy k (ae.append (ae.replicate (R:=aL ρ) (a:=none) (b:=none) trivial _) r)
 .have:=eS (s:=⟨hp,gn,dr,tk,osx⟩) (Kq ha) hob
  exact⟨this.pre,this.kept,this.alive,rfl,rfl,rfl⟩
theorem o8 {tk:Nat} (ha:a∈ρ) (hs:Lb a s.heap h') (ho:h'.get? a=some o'):Go [] ρ s ρ { s with heap:=h',toks:=tk }:=
 .of ⟨[],(KZ _).symm,fun _ h=>(nomatch h)⟩ (fun b o e h1 _=>(hs.2 b fun q=>h1 (q▸ha)).trans e) (fun b o e=>cO hs ho e) rfl rfl
theorem fZ (x:Str) (t:Tok):Value.isStrOf x (.str x t)=true:=by simp[Value.isStrOf]
theorem tm (hw:w.params=P) (h:ae (bZ P ρ) es en) :
  ∃kvs,Pairs (strKind PW w) en kvs/\ae (ch ρ) es kvs/\(∀e∈en,∃k,(strKind PW w).is k e.key=true/\e.hash=(strKind PW w).hash k):=by
 induction h with
 | nil=>exact⟨[],.nil,.nil,fun _ h=>nomatch h⟩
 | @cons a e _ _ h _ ih=>
  obtain⟨⟨t,h1⟩,h2,h3⟩:=h
  obtain⟨kvs,p,b,k⟩:=ih
  have hi:(strKind PW w).is a.1 e.key=true:=by rw[h1];exact fZ a.1 t
  refine⟨(a.1,e.val)::kvs,.cons hi rfl p,.cons ⟨rfl,h3⟩ b,fun e' he=>?_⟩
  rcases Ka.mp he with rfl | he
  .exact⟨a.1,hi,by rw[h2,<- hw];rfl⟩
  .exact k e' he
set_option tactic.hygienic true in
theorem t6 (hw:w.params=P) {kvs:List (Str×Kd)} (p:Pairs (strKind PW w) en kvs):∀{es:List (Str×V)},ae (ch ρ) es kvs->
  (∀e∈en,∃k,(strKind PW w).is k e.key=true/\e.hash=(strKind PW w).hash k)->ae (bZ P ρ) es en:=by
 induction p with
 | nil=>intro es b _;cases b;exact .nil
 | cons h1 h2 p ih=>
  rename_i e kv en kvs
  intro es b k
  cases b with
  | cons q b=>
   rename_i a es
   refine .cons ⟨?_,?_,?_⟩ (ih b fun e' he=>k e' (KO _ he))
   .obtain⟨t,ht⟩:=Value.isStrOf_shape h1
    exact⟨t,by rw[ht,q.1]⟩
   .obtain⟨z,z1,z2⟩:=k e (LV ..)
    obtain rfl:z=kv.1:=Value.isStrOf_inj _ _ _ z1 h1
    rw[z2,<- hw,q.1];rfl
   .rw[h2];exact q.2
theorem jr {kvs:List (Str×Kd)} (h:ae (ch ρ) es kvs):kvs.map (·.1)=es.map (·.1):=by
 induction h with
 | nil=>rfl
 | cons h _ ih=>rw[K6,K6,ih,h.1]
theorem iy (x:Str) {kvs:List (Str×Kd)} (h:ae (ch ρ) es kvs):aL ρ (es.lookup x) (valueAt kvs x):=by
 induction h with
 | nil=>trivial
 | @cons p q es kvs h r ih=>
  unfold valueAt at ih ⊢
  rw[K1,List.find?_cons]
  by_cases e:x=p.1
  .rw[beq_iff_eq.mpr e,decide_eq_true (h.1.symm.trans e.symm)]
   exact h.2
  .rw[beq_eq_false_iff_ne.mpr e,decide_eq_false fun z=>e (z.symm.trans h.1.symm)]
   exact ih
noncomputable def x9 (g:G) (h:Heap) (ρ:List Kj) (a:Kj) (es:List (Str×V)):Prop:=∃kvs,h.DictOf (strKind PW g.w) a kvs/\ae (ch ρ) es kvs
theorem pH {en:Array Me} (e:h.get? a=some ⟨.type "dict",none,.dict en n,#[]⟩) (r:ae (bZ g.w.params ρ) es en.toList) (nd:(es.map (·.1)).Nodup) :
  ∃kvs,h.DictAt (strKind PW g.w) a kvs n/\ae (ch ρ) es kvs:=by
 obtain⟨kvs,p,b,k⟩:=tm (w:=g.w) rfl r
 exact⟨kvs,⟨_,en,e,⟨rfl,rfl,rfl⟩,rfl,fun e he=>k e (Array.mem_toList_iff.mpr he),p,by rw[jr b];exact nd⟩,b⟩
theorem tJ (m:x9 g h ρ a es):∃ob,h.get? a=some ob/\bj g.w.params ρ ob (.map es):=by
 obtain⟨kvs,⟨o,en,ep,ho,⟨c1,c2,c3⟩,hd,hk,hp,hn⟩,b⟩:=m
 refine⟨o,ho,en,ep,?_,t6 rfl hp b fun e he=>hk e (Array.mem_toList_iff.mp he),by rw[<- jr b];exact hn⟩
 obtain⟨oc,od,odt,osl⟩:=o
 dsimp only at c1 c2 c3 hd
 subst c1 c2 c3 hd
 rfl
theorem HR.mapOf {x:Kd} (hh:HR g.w.params ρ os h) (hi:os[i]?=some (.map es)) (hx:RelV ρ (.ref i) x):∃a,x=.ref a/\ρ[i]?=some a/\x9 g h ρ a es:=by
 obtain⟨a,ha,rfl⟩:=hx
 rcases hh.ob i _ a hi ha with q | ⟨ob,e,en,n,rfl,r,nd⟩
 .cases q
 .obtain⟨kvs,d,b⟩:=pH e r nd
  exact⟨a,rfl,ha,kvs,d.dictOf,b⟩
theorem jW (hh:HR P ρ os h) (ha:ρ[i]?=some a):(a==sysModules)=false:=by
 have:=(hh.hi a (Kq ha)).1
 rw[beq_eq_false_iff_ne]
 intro e
 subst e
 revert this
 decide
theorem dm.mapItem {value:Expr} {k:Str} (ho:os[i]?=some (.map es)) (hv:es.lookup k=some v) (hs:cS slice=true:=by rfl):dm g D value slice (.ref i) (.str k) os v os:=fun ρ x y hx hy=>by
 obtain⟨t,rfl⟩:=hy
 refine Lf.pure fun A s hr hh hK=>?_
 obtain⟨a,rfl,ha,kvs,hd,b⟩:=hh.mapOf ho hx
 have q:=iy k b
 rw[hv] at q
 cases hz:valueAt kvs k with
 | none=>rw[hz] at q;exact q.elim
 | some z=>
  rw[hz] at q
  exact LB hd.typeIs slot_dict_getitem.lookup (wpAny_getItem_of (k:=k) (fZ k t) hd.mapOf hz ⟨q,rfl,rfl,rfl⟩) (bW hs _ _)
noncomputable def He:Option V->V
 | some v=>v
 | none=>.none
theorem Cl.dictGet {k:Str} (ho:os[i]?=some (.map es)):Cl g D (.top (.builtin "dict.get")) [.ref i,.str k] [] os (He (es.lookup k)) os:=fun ρ x xs ks hx hxs hks=>by
 obtain rfl:x=.builtin "dict.get":=hx
 cases hks
 cases hxs with
 | cons r rs=>cases rs with
  | cons r2 rs2=>
   cases rs2
   obtain⟨t,rfl⟩:=r2
   refine Lf.pure fun A s hr hh hK=>?_
   obtain⟨a,rfl,ha,kvs,hd,b⟩:=hh.mapOf ho r
   have q:=iy k b
   refine call_meetsIn NP hd.typeIs F.entry_dict_get (F.args_dict_get_2 _ _) (meets_dict_get (strKind PW g.w) a (fZ k t) (jW hh ha)) ⟨_,hd.mapOf,?_,rfl,rfl,rfl⟩
   cases hz:valueAt kvs k with
   | none=>
    rw[hz] at q
    cases hl:es.lookup k with
    | none=>exact rfl
    | some v=>rw[hl] at q;exact q.elim
   | some z=>
    rw[hz] at q
    cases hl:es.lookup k with
    | none=>rw[hl] at q;exact q.elim
    | some v=>rw[hl] at q;exact q
theorem ak.inMap {k:Str} (ho:os[i]?=some (.map es)):ak g D .In (.str k) (.ref i) os (.bool (es.lookup k).isSome) os:=fun ρ x y hx hy=>by
 obtain⟨t,rfl⟩:=hx
 refine Lf.pure fun A s hr hh hK=>?_
 obtain⟨a,rfl,ha,kvs,hd,b⟩:=hh.mapOf ho hy
 have q:=iy k b
 refine wpAny_in_of (k:=k) (fZ k t) (jW hh ha) hd.mapOf ⟨?_,rfl,rfl,rfl⟩
 cases hz:valueAt kvs k with
 | none=>
  rw[hz] at q
  cases hl:es.lookup k with
  | none=>exact rfl
  | some v=>rw[hl] at q;exact q.elim
 | some z=>
  rw[hz] at q
  cases hl:es.lookup k with
  | none=>rw[hl] at q;exact q.elim
  | some v=>exact rfl
theorem rt (hv:RelV ρ v y) {kvs:List (Str×Kd)} (h:ae (ch ρ) es kvs) (nd:(es.map (·.1)).Nodup):ae (ch ρ) (put es x v) (stored kvs x y):=by
 induction h with
 | nil=>exact .cons ⟨rfl,hv⟩ .nil
 | @cons p q es kvs h r ih=>
  obtain⟨z,u⟩:=p
  obtain⟨z',u'⟩:=q
  obtain rfl:z=z':=h.1
  rw[K6,KW] at nd
  rw[ee]
  unfold stored at ih ⊢
  rw[List.any_cons,K6]
  by_cases e:z=x
  .subst e
   rw[if_pos (beq_self_eq_true z),decide_eq_true (p:=z=z) rfl,Bool.true_or,if_pos rfl,if_pos rfl]
   have e2:kvs.map (fun kv=>if kv.1=z then(kv.1,y) else kv)=kvs:=by
    conv=>rhs;rw[<- List.map_id kvs]
    exact NV fun kv hm=>if_neg fun q=>nd.1 (by rw[<- jr r];exact List.mem_map.mpr ⟨kv,hm,q⟩)
   rw[e2]
   exact .cons ⟨rfl,hv⟩ r
  .rw[if_neg (show ¬(x==z)=true from fun q=>e (beq_iff_eq.mp q).symm),decide_eq_false e,Bool.false_or,if_neg e]
   have ih:=ih nd.2
   by_cases q:(kvs.any fun kv=>decide (kv.1=x))=true
   .rw[if_pos q] at ih ⊢;exact .cons h ih
   .rw[if_neg q] at ih ⊢;exact .cons h ih
theorem HR.nodupMap (hh:HR P ρ os h) (hi:os[i]?=some (.map es)) (ha:ρ[i]?=some a):(es.map (·.1)).Nodup:=by
 rcases hh.ob i _ a hi ha with q | ⟨ob,e,en,n,rfl,r,nd⟩
 .cases q
 .exact nd
theorem dG.mapPut {k:Str} (ho:os[i]?=some (.map es)) (hz:es.length <=1000):dG g D (.ref i) (.str k) v os (os.set i (.map (put es k v))):=fun ρ x y z hx hy hv A s hr hh hK=>by
 obtain⟨t,rfl⟩:=hy
 obtain⟨a,rfl,ha,kvs,hd,b⟩:=hh.mapOf ho hx
 have nd:=hh.nodupMap ho ha
 refine wpAny_setItem_pairs (knd:=strKind PW g.w) (k:=k) (fZ k t) hd (fun h' hd' hs=>?_) (by rw[b.length,K4];lia)
 obtain⟨ob,e,r⟩:=tJ (g:=g) (h:=h') ⟨_,hd',rt hv b nd⟩
 exact⟨ρ,trivial,hh.set ha hs e r,o8 (Kq ha) hs e⟩
theorem HR.pushF (x:HR P ρ os h) (ha:∀b o,h.get? b=some o->b < a) (h0:N0 <=a)
  (k:∀b o,h.get? b=some o->h'.get? b=some o) (hb:h'.get? a=some ob) (hr:bj P (ρ++[a]) ob o):HR P (ρ++[a]) (os++[o]) h':=by
 refine⟨by simp[x.len],?_,fun b hm=>?_,fun i o' b h1 h2=>?_⟩
 .rw[LQ]
  refine⟨x.nd,by simp,fun c hc d hd=>?_⟩
  obtain⟨_,ob',e⟩:=x.hi c hc
  have h1:=ha c ob' e
  rintro rfl
  simp at hd
  subst hd
  exact KM _ h1
 .rcases List.mem_append.mp hm with h | h
  .exact⟨(x.hi b h).1,let⟨ob,e⟩:=(x.hi b h).2;⟨ob,k _ _ e⟩⟩
  .simp at h;subst h;exact⟨h0,ob,hb⟩
 .by_cases hi:i < os.length
  .rw[Kn hi] at h1
   rw[Kn (by rw[x.len];exact hi)] at h2
   exact(x.ob i o' b h1 h2).imp id fun⟨ob,e,r⟩=>⟨ob,k _ _ e,r.mono⟩
  .have hi':os.length <=i:=Lv hi
   rw[Ke hi'] at h1
   rw[Ke (by rw[x.len];exact hi'),x.len] at h2
   by_cases q:i - os.length=0
   .rw[q] at h1 h2;simp at h1 h2;subst h1 h2;exact .inr ⟨ob,hb,hr⟩
   .obtain⟨j,hj⟩:=Nat.exists_eq_succ_of_ne_zero q
    rw[hj] at h1;simp at h1
theorem rC {tk:Nat} (hh:HR g.w.params ρ os s.heap) (hK:g.K.In s.heap) (ha:∀b o,s.heap.get? b=some o->b < a) (k:∀b o,s.heap.get? b=some o->h'.get? b=some o)
  (hb:h'.get? a=some ob) (hr:bj g.w.params (ρ++[a]) ob o):∃ρ',RelV ρ' (.ref os.length) (.ref a)/\HR g.w.params ρ' (os++[o]) h'/\Go [] ρ s ρ' { s with heap:=h',toks:=tk }:=by
 have h0:N0 <=a:=by
  obtain⟨o,e⟩:=g.last
  have h1:N0 - 1 < a:=ha _ o (hK _ _ e)
  have h2:(0:Nat) < N0:=by decide
  lia
 refine⟨ρ++[a],⟨a,by rw[<- hh.len];simp,rfl⟩,hh.pushF ha h0 k hb hr,.of ⟨[a],rfl,fun b hb=>?_⟩ (fun b ob h _ _=>k b ob h) (fun b ob h=>⟨ob,k b ob h⟩) rfl rfl⟩
 simp at hb
 subst hb
 cases z:s.heap.get? b with
 | none=>rfl
 | some ob=>exact absurd (ha _ _ z) (KM _)
theorem oW {tk:Nat} (hh:HR g.w.params ρ os s.heap) (hK:g.K.In s.heap) (ha:s.heap.objs.size <=a) (k:∀b o,s.heap.get? b=some o->h'.get? b=some o)
  (hb:h'.get? a=some ob) (hr:bj g.w.params (ρ++[a]) ob o):∃ρ',RelV ρ' (.ref os.length) (.ref a)/\HR g.w.params ρ' (os++[o]) h'/\Go [] ρ s ρ' { s with heap:=h',toks:=tk }:=by
 refine⟨ρ++[a],⟨a,by rw[<- hh.len];simp,rfl⟩,hh.push ha (aV hK) k hb hr,.of ⟨[a],rfl,fun b hb=>?_⟩ (fun b ob h _ _=>k b ob h) (fun b ob h=>⟨ob,k b ob h⟩) rfl rfl⟩
 simp at hb
 subst hb
 cases z:s.heap.get? b with
 | none=>rfl
 | some ob=>exact absurd (KJ z) (Nat.not_lt.mpr ha)
theorem pZ (k:Str) {kvs:List (Str×Kd)} (h:ae (ch ρ) es kvs):ae (ch ρ) (es.filter fun p=>decide (p.1≠k)) (without kvs k):=by
 induction h with
 | nil=>exact .nil
 | @cons a b _ _ h _ ih=>
  unfold without at ih ⊢
  rw[Ml,Ml,<- h.1]
  by_cases q:decide (a.1≠k)=true
  .rw[if_pos q,if_pos q];exact .cons h ih
  .rw[if_neg q,if_neg q];exact ih
theorem m7 {R:α->β->Prop} {l:List α} {m:List β} (x:ae R l m):ae R l.dropLast m.dropLast:=by
 induction x with
 | nil=>exact .nil
 | cons h r ih=>
  cases r with
  | nil=>exact .nil
  | cons _ _=>exact .cons h ih
theorem Cl.listClear {vs:List V} (ho:os[i]?=some (.list vs)) (hz:vs.length <=1000):Cl g D (.top (.builtin "list.clear")) [.ref i] [] os .none (os.set i (.list [])):=fk fun ρ f y hf r=>by
 obtain rfl:f=.builtin "list.clear":=hf
 intro A s hr hh hK
 obtain⟨a,ys,n,rfl,ha,e,q⟩:=hh.list ho r
 have hl:=ax e
 have len:ys.size=vs.length:=by rw[<- KH,q.length]
 refine call_meets PySem.F.slot_list_clear hl.typeIs PySem.F.entry_list_clear (PySem.F.args_list_clear_1 _) (PySem.AutoSeq1.list_clear_list_0 a ys n (by rw[len,K4];lia)) ⟨e,?_⟩
 obtain⟨m,hm⟩:=cM (f:=fun _=>#[]) e
 exact⟨ρ,rfl,hh.set ha (Lc ..) hm ⟨_,m,rfl,.nil⟩,eS (Kq ha) hm⟩
theorem Cl.tupleL {vs:List V} (ho:os[i]?=some (.list vs)) (hz:vs.length <=1000):Cl g D (.top (.type "tuple")) [.ref i] [] os (.ref os.length) (os++[.tuple vs]):=fk fun ρ f y hf r=>by
 obtain rfl:f=.type "tuple":=hf
 intro A s hr hh hK
 obtain⟨a,ys,n,rfl,ha,e,q⟩:=hh.list ho r
 have len:ys.size=vs.length:=by rw[<- KH,q.length]
 refine call_tuple_list (ax e) (fun h' hk=>?_) (by rw[len,K4];lia)
 have fr:∀b o,s.heap.get? b=some o->b < h'.objs.size:=fun b o eb=>KJ (hk b o eb)
 exact rC hh hK fr (fun b o eb=>Ki _ (hk b o eb)) (Ku _ rfl) ⟨ys,0,rfl,q.mono fun _ _=>RelV.mono⟩
theorem Cl.lenT {vs:List V} (ho:os[i]?=some (.tuple vs)) (hz:vs.length <=1000):Cl g D (.top (.builtin "len")) [.ref i] [] os (.int vs.length) os:=fk fun ρ f y hf r=>by
 obtain rfl:f=.builtin "len":=hf
 refine Lf.pure fun A s hr hh hK=>?_
 obtain⟨a,ys,n,rfl,ha,e,q⟩:=hh.tuple ho r
 have len:ys.size=vs.length:=by rw[<- KH,q.length]
 refine PySem.P.len_tuple (n:=n) e (by rw[len];lia) ⟨⟨s.toks + 1,by rw[len]⟩,rfl,rfl,rfl⟩
theorem C9 {o:Obj} {S:Str->Bool} (hw:w.params=g.w.params) (h:o.SetObjOf (strKind PW w) S n):o.SetObjOf (strKind PW g.w) S n:=
 h.transport (knd':=strKind PW g.w) rfl (by
  show hashStr g.w=hashStr w
  funext x
  unfold hashStr
  rw[hw])
theorem HR.setOf {x:Kd} (hh:HR g.w.params ρ os h) (hi:os[i]?=some (.set ss)) (hx:RelV ρ (.ref i) x) (hz:ss.length <=1000) :
  ∃a,x=.ref a/\ρ[i]?=some a/\h.SetOf (strKind PW g.w) a (fun k=>decide (k∈ss)) ss.length:=by
 obtain⟨a,ha,rfl⟩:=hx
 rcases hh.ob i _ a hi ha with q | ⟨ob,e,w,hw,r⟩
 .cases q
 .exact⟨a,rfl,ha,(C9 hw r).setOf e (by unfold scanBound;lia)⟩
theorem Cl.set0:Cl g D (.top (.type "set")) [] [] os (.ref os.length) (os++[.set []]):=fun ρ x xs ks hx hxs hks A s hr hh hK=>by
 obtain rfl:x=.type "set":=hx
 cases hks
 cases hxs
 refine call_set_0 fun led=>?_
 refine oW (tk:=s.toks) hh hK (Km _) (fun b o e=>Ki _ e) (Ku _ rfl) ⟨g.w,rfl,?_⟩
 have:=setObjOf_fresh (knd:=strKind PW g.w) led
 simpa using this
theorem an.setAdd (ho:os[i]?=some (.set ss)) (hz:ss.length <=1000):an g (.ref i) "add" os (.top (.builtin "set.add")):=fun A ρ s y pl Q E hy hh hk q=>by
 obtain⟨a,rfl,ha,hS⟩:=hh.setOf ho hy hz
 exact getMethod_set_add hS (q _ s.toks rfl)
theorem Cl.setAdd {k:Str} (ho:os[i]?=some (.set ss)) (hz:ss.length <=1000) (hn:k∉ss):Cl g D (.top (.builtin "set.add")) [.ref i,.str k] [] os .none (os.set i (.set (ss++[k]))):=By fun ρ f y z hf r rz=>by
 obtain rfl:f=.builtin "set.add":=hf
 obtain⟨t,rfl⟩:=rz
 intro A s hr hh hK
 obtain⟨a,rfl,ha,hS⟩:=hh.setOf ho r hz
 refine call_set_add (k:=k) (fZ k t) rfl hS (by unfold scanBound;lia) fun h' hs hS'=>?_
 obtain⟨ob,e,q⟩:=hS'.objOf
 refine⟨ρ,rfl,hh.set ha hs e ⟨g.w,rfl,?_⟩,o8 (Kq ha) hs e⟩
 have e1:(fun k'=>decide (k'∈ss)||decide (k'=k))=fun k'=>decide (k'∈ss++[k]):=by
  funext k'
  simp
 have e2:(if decide (k∈ss)=true then ss.length else ss.length + 1)=(ss++[k]).length:=by simp[hn]
 rw[e1,e2] at q
 exact q
theorem ak.inSet {k:Str} (ho:os[i]?=some (.set ss)) (hz:ss.length <=1000):ak g D .In (.str k) (.ref i) os (.bool (decide (k∈ss))) os:=fun ρ x y hx hy=>by
 obtain⟨t,rfl⟩:=hx
 refine Lf.pure fun A s hr hh hK=>?_
 obtain⟨a,rfl,ha,hS⟩:=hh.setOf ho hy hz
 exact wpAny_inSet_of (k:=k) (fZ k t) rfl hS ⟨rfl,rfl,rfl,rfl⟩
theorem Cl.sortedT {out:List Str} (ho:os[i]?=some (.tuple (eE ss))) (hp:out.Perm ss) (hs:sortedS out=true) (h64:ss.length < 64) :
  Cl g D (.top (.builtin "sorted")) [.ref i] [] os (.ref os.length) (os++[.list (eE out)]):=fk fun ρ f y hf r=>by
 obtain rfl:f=.builtin "sorted":=hf
 intro A s hr hh hK
 obtain⟨a,ys,n,rfl,ha,e,q⟩:=hh.tuple ho r
 have hS:StrsAre ys.toList ss:=jh q
 have len:ys.toList.length=ss.length:=by have:=q.length;simpa [eE] using this
 refine PySem.Calls.call_function_entry kind_sorted plain_sorted entry_sorted (args_sorted1 _) ?_
 unfold Builtin.«sorted»
 refine J7 (m:=checkCount "sorted" 1 1 _) (Kb ?_)
 refine J7 (wpAny_collect_seq a (.inr rfl) e rfl rfl (fun h' hk=>?_) (by rw[K4,<- KH];lia))
 refine J7 (wpAny_newList ?_)
 have hoL:(h'.push (seqObj "list" ys.toList.toArray 0)).get? h'.objs.size=some (seqObj "list" ys.toList.toArray 0):=Ku _ rfl
 refine J7 (KQ (M6 slot_list_sort ⟨_,hoL,rfl⟩ entry_list_sort (list_sort_treeK strKind_oneLt hoL hS.keysOf (fun v1 v2 rest e=>keyKind_strs (by rw[<- e];exact hS)) (by lia) fun st' a1 a2=>⟨_,rfl,?_⟩) (args_list_sort _)))
 obtain⟨ss',h1,h2,h3⟩:=sorted_out_str hS a1 a2
 have e1:ss'=out:=ko (hX h3) (hX hs) (h2.trans hp.symm)
 subst e1
 obtain⟨ep,hat⟩:=sortedHeap_at (vs:=ys.toList) (out:=(arrOf st').map (·.2)) hoL
 refine Kb ⟨_,rfl,?_⟩
 refine rC hh hK (fun b o eb=>KJ (hk b o eb)) (fun b o eb=>?_) hat ⟨_,ep,rfl,lD h1⟩
 have lt:=KJ (hk b o eb)
 have e2:=Ki (seqObj "list" ys.toList.toArray 0) (hk b o eb)
 rw[<- e2]
 exact sortedHeap_old (M1 lt) (KJ e2)
theorem Cl.sortedTW {l:List Nat} (ho:os[i]?=some (.tuple (mkW l))) (nd:l.Nodup) (h8:∀m∈l,m < 8) (h64:l.length < 64) :
  Cl g D (.top (.builtin "sorted")) [.ref i] [] os (.ref os.length) (os++[.list (mkW (aU l))]):=by
 rw[gt (aU l)]
 rw[gt l] at ho
 exact Cl.sortedT ho ((iW nd h8).map wdN) (lE l) (by rw[KU];exact h64)
noncomputable def lV (f:Str×V->V) (i n len:Nat) (k:Nat) (os:List O):Option (Option V):=os[i]?.bind fun o=>match o with
 | .dict es m=>if m=n/\es.length=len then some ((es[k]?).map f) else none
 | _=>none
theorem f9 {f:Str×V->V} {len:Nat} {r:Option V} (h:lV f i n len k os=some r):∃es,os[i]?=some (.dict es n)/\es.length=len/\(es[k]?).map f=r:=by
 obtain⟨o,e,h⟩:=Option.bind_eq_some_iff.mp h
 cases o with
 | dict es m=>
  replace h:(if m=n/\es.length=len then some ((es[k]?).map f) else none)=some r:=h
  by_cases c:m=n/\es.length=len
  .rw[if_pos c] at h
   exact⟨es,c.1▸e,c.2,Lu h⟩
  .rw[if_neg c] at h
   exact nS h
 | _=>exact nS h
theorem nP {f:Str×V->V} (h:os[i]?=some (.dict es n)):lV f i n es.length k os=some ((es[k]?).map f):=by
 rw[lV,h]
 exact if_pos ⟨rfl,rfl⟩
noncomputable def k6 (i n len:Nat):Nat->List O->Option (Option V):=lV (fun p=>.str p.1) i n len
theorem HR.dictAt (hh:HR g.w.params ρ os h) (hi:os[i]?=some (.dict es n)) (ha:ρ[i]?=some a) :
  ∃kvs,h.DictAt (strKind PW g.w) a kvs n/\ae (ch ρ) es kvs:=by
 obtain⟨en,e,r,nd⟩:=hh.dict hi ha
 exact pH e r nd
theorem aZ.keys (hc:os[i]?=some (.dict es n)):aZ g D (.ref i) os (k6 i n es.length):=fun ρ x hx A s hr hh hk=>by
 obtain⟨a,ha,rfl⟩:=hx
 obtain⟨kvs,hd,b⟩:=hh.dictAt hc ha
 refine wpAny_pyIter_dict (jW hh ha) hd ⟨s.heap.objs.size,_,s.toks,_,fun k ob=>ob.cls=.type "dict_keyiterator"/\ob.data=.fields #[.ref a,.int k 0,.int es.length 0,.int n 0],rfl,rfl,(Gr.refl _).push _,Km _,Ku _ rfl,⟨rfl,by rw[b.length];rfl⟩,fun ν=>⟨?_,?_,?_,?_⟩⟩
 .intro k v A s os ob hv hr hh ho hP
  obtain⟨es',hc,hlen,hv⟩:=f9 hv
  have ha':(ρ++ν)[i]?=some a:=get_app ha
  obtain⟨kvs',hd',b'⟩:=hh.dictAt hc ha'
  obtain⟨p,hp,rfl⟩:=Option.map_eq_some_iff.mp hv
  obtain⟨z,hz,rz⟩:=b'.get hp
  have len':kvs'.length=es.length:=by rw[b'.length,hlen]
  refine wpAny_pyNext_dict_item (i:=k) (k:=z.1) (v:=z.2) ⟨ob,ho,hP.1,by rw[len'];exact hP.2⟩ hd' hz fun key h' hk' hit hs=>?_
  obtain⟨ob',p1,p2,p3⟩:=hit
  obtain⟨t,rfl⟩:=Value.isStrOf_shape hk'
  exact⟨_,h',s.toks,ob',rfl,⟨t,by rw[rz.1]⟩,rfl,hs,p1,p2,by rw[<- len'];exact p3⟩
 .intro k A s os ob hv hr hh ho hP
  obtain⟨es',hc,hlen,hv⟩:=f9 hv
  have ha':(ρ++ν)[i]?=some a:=get_app ha
  obtain⟨kvs',hd',b'⟩:=hh.dictAt hc ha'
  have len':kvs'.length=es.length:=by rw[b'.length,hlen]
  refine wpAny_pyNext_dict_end (i:=k) hr.handled ⟨ob,ho,hP.1,by rw[len'];exact hP.2⟩ hd' ?_ fun h' hx=>⟨rfl,h',rfl,hx⟩
  have:es'[k]?=none:=Option.map_eq_none_iff.mp hv
  exact Kv (by rw[b'.length];exact List.getElem?_eq_none_iff.mp this)
 .intro k A s ob Q E ho hP hq
  exact wpAny_pyIter_keyiter (d:=a) (i:=k) (n:=es.length) (ep:=n) ⟨ob,ho,hP.1,hP.2⟩ hq
 .intro k ob hP
  exact⟨_,hP.1,by decide⟩
noncomputable def oU (i n len:Nat):Nat->List O->Option (Option V):=lV (fun p=>p.2) i n len
theorem HR.flds {vs:List V} {x:Kd} (hh:HR P ρ os h) (hi:os[i]?=some (.flds ty vs)) (hx:RelV ρ (.ref i) x) :
  ∃a xs,x=.ref a/\ρ[i]?=some a/\h.get? a=some ⟨.type ty,none,.fields xs,#[]⟩/\ae (RelV ρ) vs xs.toList:=by
 obtain⟨a,ha,rfl⟩:=hx
 rcases hh.ob i _ a hi ha with q | ⟨ob,e,xs,rfl,r⟩
 .cases q
 .exact⟨a,xs,rfl,ha,e,r⟩
theorem yZ {xs:Array Kd} (h:xs.toList=[y]):xs=#[y]:=by cases xs;simp at h;subst h;rfl
theorem aZ.vals {v:Nat} (hv:os[v]?=some (.flds "dict_values" [.ref i])) (hc:os[i]?=some (.dict es n)):aZ g D (.ref v) os (oU i n es.length):=fun ρ x hx A s hr hh hk=>by
 obtain⟨b,xs,rfl,hb,eb,rb⟩:=hh.flds hv hx
 cases hxs:xs.toList with
 | nil=>rw[hxs] at rb;cases rb
 | cons y ys=>
  rw[hxs] at rb
  cases rb with
  | cons ra rr=>
   cases rr
   obtain⟨a,ha,rfl⟩:=ra
   obtain rfl:=yZ hxs
   obtain⟨kvs,hd,br⟩:=hh.dictAt hc ha
   refine wpAny_pyIter_values (d:=a) ⟨_,eb,rfl,rfl⟩ hd ⟨s.heap.objs.size,_,s.toks,_,fun k ob=>ob.cls=.type "dict_valueiterator"/\ob.data=.fields #[.ref a,.int k 0,.int es.length 0,.int n 0],rfl,rfl,(Gr.refl _).push _,Km _,Ku _ rfl,⟨rfl,by rw[br.length];rfl⟩,fun ν=>⟨?_,?_,?_,?_⟩⟩
   .intro k v A s os ob hv hr hh ho hP
    obtain⟨es',hc,hlen,hv⟩:=f9 hv
    have ha':(ρ++ν)[i]?=some a:=get_app ha
    obtain⟨kvs',hd',b'⟩:=hh.dictAt hc ha'
    obtain⟨p,hp,rfl⟩:=Option.map_eq_some_iff.mp hv
    obtain⟨z,hz,rz⟩:=b'.get hp
    have len':kvs'.length=es.length:=by rw[b'.length,hlen]
    refine wpAny_pyNext_values_item (i:=k) (k:=z.1) (v:=z.2) ⟨ob,ho,hP.1,by rw[len'];exact hP.2⟩ hd' hz fun h' hit hs=>?_
    obtain⟨ob',p1,p2,p3⟩:=hit
    exact⟨_,h',s.toks,ob',rfl,rz.2,rfl,hs,p1,p2,by rw[<- len'];exact p3⟩
   .intro k A s os ob hv hr hh ho hP
    obtain⟨es',hc,hlen,hv⟩:=f9 hv
    have ha':(ρ++ν)[i]?=some a:=get_app ha
    obtain⟨kvs',hd',b'⟩:=hh.dictAt hc ha'
    have len':kvs'.length=es.length:=by rw[b'.length,hlen]
    refine wpAny_pyNext_values_end (i:=k) hr.handled ⟨ob,ho,hP.1,by rw[len'];exact hP.2⟩ hd' ?_ fun h' hx=>⟨rfl,h',rfl,hx⟩
    have:es'[k]?=none:=Option.map_eq_none_iff.mp hv
    exact Kv (by rw[b'.length];exact List.getElem?_eq_none_iff.mp this)
   .intro k A s ob Q E ho hP hq
    exact wpAny_pyIter_valiter (d:=a) (i:=k) (n:=es.length) (ep:=n) ⟨ob,ho,hP.1,hP.2⟩ hq
   .intro k ob hP
    exact⟨_,hP.1,by decide⟩
theorem Cl.dictValues (ho:os[i]?=some (.dict es n)):Cl g D (.top (.builtin "dict.values")) [.ref i] [] os (.ref os.length) (os++[.flds "dict_values" [.ref i]]):=fk fun ρ f y hf r=>by
 obtain rfl:f=.builtin "dict.values":=hf
 intro A s hr hh hK
 obtain⟨a,ha,rfl⟩:=r
 obtain⟨kvs,hd,b⟩:=hh.dictAt ho ha
 refine call_meetsIn F.slot_dict_values hd.dictOf.typeIs F.entry_dict_values (F.args_dict_values_1 _) (meets_dict_values (strKind PW g.w) a (jW hh ha)) ⟨⟨kvs,hd.dictOf⟩,?_⟩
 exact oW (tk:=s.toks) hh hK (Km _) (fun b o e=>Ki _ e) (Ku _ rfl) ⟨_,rfl,.cons ⟨a,get_app ha,rfl⟩ .nil⟩
theorem HR.openMap (hh:HR P ρ os h) (ho:os[i]?=some (.map es)):∃n,HR P ρ (os.set i (.dict es n)) h:=by
 have hi:i < os.length:=(List.getElem?_eq_some_iff.mp ho).1
 have hi':i < ρ.length:=by rw[hh.len];exact hi
 rcases hh.ob i _ ρ[i] ho (Kc hi') with q | ⟨ob,e,en,n,rfl,r,nd⟩
 .cases q
 .refine⟨n,by rw[Mg];exact hh.len,hh.nd,hh.hi,fun j o a h1 h2=>?_⟩
  by_cases q:i=j
  .subst q
   rw[MY hi] at h1
   cases h1
   rw[Kc hi'] at h2
   cases h2
   exact .inr ⟨_,e,en,rfl,r,nd⟩
  .rw[M5 q] at h1
   exact hh.ob j o a h1 h2
theorem HR.closeMap (hh:HR P ρ os h) (ho:os[i]?=some (.dict es n)):HR P ρ (os.set i (.map es)) h:=by
 have hi:i < os.length:=(List.getElem?_eq_some_iff.mp ho).1
 refine⟨by rw[Mg];exact hh.len,hh.nd,hh.hi,fun j o a h1 h2=>?_⟩
 by_cases q:i=j
 .subst q
  rw[MY hi] at h1
  cases h1
  rcases hh.ob i _ a ho h2 with q | ⟨ob,e,en,rfl,r,nd⟩
  .cases q
  .exact .inr ⟨_,e,en,n,rfl,r,nd⟩
 .rw[M5 q] at h1
  exact hh.ob j o a h1 h2
theorem aP.withMap {loc:List (Str×V)} {t:Env->Sem α} {es':List (Str×V)} (ho:os[i]?=some (.map es)) (os':Nat->List O)
  (h:∀n,aP g D sc ⟨os.set i (.dict es n),loc⟩ t R ⟨os' n,loc'⟩) (h':∀n,∃m,(os' n)[i]?=some (.dict es' m)/\(os' n).set i (.map es')=os₁):aP g D sc ⟨os,loc⟩ t R ⟨os₁,loc'⟩:=fun A env ρ s he hr hs=>by
 obtain⟨n,hn⟩:=hs.hr.openMap ho
 refine Kr (h n A env ρ s he hr ⟨hn,hs.er,hs.k⟩) (fun x s' ⟨ρ',r,st,go⟩=>?_) fun _ _ z=>z
 obtain⟨m,e1,e2⟩:=h' n
 exact⟨ρ',r,⟨e2▸st.hr.closeMap e1,st.er,st.k⟩,go⟩
noncomputable def iterO (l k:Nat):O:=.flds "list_iterator" [.ref l,.top (.int k 0)]
noncomputable def fX (i:Nat):O:=.flds "method-wrapper" [.top (.builtin "list_iterator.__next__"),.ref i]
theorem Cl.iterL {l:Nat} {vs:List V} (ho:os[l]?=some (.list vs)):Cl g D (.top (.builtin "iter")) [.ref l] [] os (.ref os.length) (os++[iterO l 0]):=fk fun ρ f y hf r=>by
 obtain rfl:f=.builtin "iter":=hf
 intro A s hr hh hK
 obtain⟨a,ys,n,rfl,ha,e,q⟩:=hh.list ho r
 refine call_function_entry (by decide +kernel) (by decide +kernel) kdk_entry_iter (kdk_args_iter _) ?_
 unfold Builtin.«iter»
 refine J7 (m:=someArgs "iter" 1 2 _) (Nb (a:=[Value.ref a]) (by first | rfl | kernel_rfl!) ?_)
 show J6 _ _ (pyIter (.ref a) >>=_) _ _ _
 refine J7 (wpAny_pyIter_list (ax e) ?_)
 exact Kb ⟨_,rfl,oW (tk:=s.toks) hh hK (Km _) (fun b o e=>Ki _ e) (Ku _ rfl) ⟨_,rfl,.cons ⟨a,get_app ha,rfl⟩ (.cons rfl .nil)⟩⟩
theorem fW:Slot "list_iterator" "__getattribute__" "object.__getattribute__":=
 Slot.of (owner:="object") (n:="__getattribute__") (by rw[Ma,Ls];kernel_rfl) (by decide +kernel) (by decide +kernel) (by decide +kernel) (.inl (by decide +kernel)) (by rw[Mn];kernel_rfl)
theorem ki:Slot "wrapper_descriptor" "__get__" "wrapper_descriptor.__get__":=
 Slot.of (owner:="wrapper_descriptor") (n:="__get__") (by rw[Ma,Ls];kernel_rfl) (by decide +kernel) (by decide +kernel) (by decide +kernel) (.inl (by decide +kernel)) (by rw[Mn];kernel_rfl)
theorem nQ:entryFor table "wrapper_descriptor.__get__"=some Builtin.«wrapper_descriptor.__get__»:=M7 ∅
theorem pQ (a b c:Kd):argsOk "wrapper_descriptor.__get__" ⟨[a,b,c],[]⟩:=by unfold argsOk;kernel_rfl
theorem rV:typeOf (.builtin "list_iterator.__next__")=pure (.type "wrapper_descriptor"):=by show builtinType _=_;rw[builtinType_eq_fast];kernel_rfl
theorem lh:LS (.type "list_iterator") "__getattr__"=pure none:=by rw[Ma,Ls];kernel_rfl
theorem aj.nextL {l:Nat} (ho:os[i]?=some (iterO l k)):aj g D (.ref i) "__next__" os (.ref os.length) (os++[fX i]):=fun ρ x hx A s hr hh hK=>by
 obtain⟨a,xs,rfl,ha,e,q⟩:=hh.flds ho hx
 obtain⟨hp,gn,dr,tk,osx⟩:=s
 dsimp only at e hh hK
 have hT:∀tk',(⟨hp,gn,dr,tk',osx⟩:Kl).TypeIs (.ref a) "list_iterator":=fun _=>⟨_,e,rfl⟩
 have f3:=fW.lookup
 have f4:=fW.bind (.ref a)
 have f5:=lh
 unfold getAttr getAttrBy
 repeat (any_goals (first | assumption | exact hT _ | wp_step))
 refine codeAny_call_builtin fW.plain F.entry_object_getattribute (fW.check _ _ _ _ _ _ _ _ (hT _) (F.args_object_getattribute_2 _ _) ?_)
 have g1:=slot_listiter_next.lookup
 unfold Builtin.«object.__getattribute__»
 repeat (any_goals (first | assumption | exact hT _ | wp_step))
 have k1:builtinKind "list_iterator.__next__"=some .slot:=by decide +kernel
 have k2:LS (.type "wrapper_descriptor") "__get__"=pure (some (.builtin "wrapper_descriptor.__get__")):=by rw[Ma,Ls];kernel_rfl
 have k3:LS (.type "wrapper_descriptor") "__set__"=pure none:=by rw[Ma,Ls];kernel_rfl
 have k4:LS (.type "wrapper_descriptor") "__delete__"=pure none:=by rw[Ma,Ls];kernel_rfl
 rw[k1]
 dsimp only
 rw[k2]
 refine Kb ?_
 repeat (any_goals (first | assumption | exact hT _ | wp_step))
 rw[k1]
 dsimp only
 rw[k3]
 refine Kb ?_
 repeat (any_goals (first | assumption | exact hT _ | wp_step))
 rw[k1]
 dsimp only
 rw[k4]
 refine Kb ?_
 repeat (any_goals (first | assumption | exact hT _ | wp_step))
 refine codeAny_call_builtin ki.plain nQ (ki.check _ _ _ _ _ _ _ _ ?_ (pQ _ _ _) ?_)
 .exact rV
 unfold Builtin.«wrapper_descriptor.__get__»
 repeat (any_goals (first | assumption | exact hT _ | wp_step))
 have k5:isSubtype (.type "list_iterator") (.type (".".intercalate ("list_iterator.__next__".cutAt '.').dropLast))=pure true:=by
  rw[show(".".intercalate ("list_iterator.__next__".cutAt '.').dropLast)="list_iterator" by decide +kernel]
  rw[Mn];kernel_rfl
 dsimp only
 rw[k5]
 refine Kb ?_
 repeat (any_goals (first | assumption | exact hT _ | wp_step))
 exact oW (s:=⟨hp,gn,dr,tk,osx⟩) (tk:=tk + 1) hh hK (Km _) (fun b o e=>Ki _ e) (Ku _ rfl) ⟨_,rfl,.cons rfl (.cons ⟨a,get_app ha,rfl⟩ .nil)⟩
theorem yn {xs:Array Kd} {z:Kd} (h:xs.toList=[y,z]):xs=#[y,z]:=by cases xs;simp at h;subst h;rfl
set_option tactic.hygienic true in
theorem HR.flds2 {x:Kd} (hh:HR P ρ os h) (hi:os[i]?=some (.flds ty [v,u])) (hx:RelV ρ (.ref i) x) :
  ∃a y z,x=.ref a/\ρ[i]?=some a/\h.get? a=some ⟨.type ty,none,.fields #[y,z],#[]⟩/\RelV ρ v y/\RelV ρ u z:=by
 obtain⟨a,xs,rfl,ha,e,q⟩:=hh.flds hi hx
 cases h1:xs.toList with
 | nil=>rw[h1] at q;cases q
 | cons y ys=>
  rw[h1] at q
  cases q with
  | cons ra rr=>cases rr with
   | cons rb rs=>
    rename_i z zs
    cases rs
    obtain rfl:=yn h1
    exact⟨a,y,z,rfl,ha,e,ra,rb⟩
theorem kq (a:Kj):checkBoundCall "list_iterator.__next__" ⟨[.ref a],[]⟩=pure ():=∅
theorem vS {b l:Kj} {items:Array Kd} {R:Mo->Kl->Prop} (hb:s.heap.get? b=some ⟨.type "method-wrapper",none,.fields #[.builtin "list_iterator.__next__",.ref a],#[]⟩)
  (ha:s.heap.get? a=some ⟨.type "list_iterator",none,.fields #[.ref l,.int k 0],#[]⟩) (h:Ky (Kx PW w) A (.builtin "list_iterator.__next__" ⟨[.ref a],[]⟩) R s) :
  Ky (Kx PW w) A (.call (.ref b) ⟨[],[]⟩) R s:=by
 refine KV ?_
 show J6 _ _ (callAny (.ref b) _) _ _ s
 unfold callAny
 refine J7 (LA hb ?_)
 dsimp only
 rw[if_pos (by decide +kernel)]
 show J6 _ _ (if(Nm "method-wrapper" !=Nm "method")=true then _ else _) _ _ s
 rw[if_pos (by decide +kernel)]
 refine J7 (Nb (kq a) ?_)
 exact Kb ⟨Mx _ (by decide +kernel),h⟩
theorem Kp.wrap {b:Nat} (ho:os[b]?=some (fX i)):Kp g os (.ref b):=fun A ρ s x Q E hx hh hk q=>by
 obtain⟨bb,y,z,rfl,hba,eb,ry,rz⟩:=hh.flds2 ho hx
 obtain rfl:y=.builtin "list_iterator.__next__":=ry
 unfold keeperOf
 exact J7 (LA eb (Kb (q _)))
theorem vz {w:J9} {A:Lj} {l:Kj} {ol:Obj} {x:Kd} {R:Mo->Kl->Prop} (ha:s.heap.get? a=some ⟨.type "list_iterator",none,.fields #[.ref l,.int k 0],#[]⟩)
  (hl:s.heap.get? l=some ⟨.type "list",none,.seq items n,#[]⟩) (hx:items[k]?=some x) (h:R (.ok (.ret x)) { s with heap:=s.heap.update a (Mf (·.setIfInBounds 1 (.int (k + 1:Nat) 0))) }) :
  Ky (Kx PW w) A (.builtin "list_iterator.__next__" ⟨[.ref a],[]⟩) R s:=by
 refine Mh entry_listiter_next ?_
 show J6 _ _ (field (.ref a) 0 >>=_) _ _ s
 refine J7 (wpAny_field ha rfl (x:=.ref l) rfl ?_)
 show J6 _ _ (if(Value.ref l==Value.none)=true then _ else _) _ _ s
 rw[if_neg (show ¬ ((Value.ref l==Value.none)=true) from Bool.false_ne_true)]
 show J6 _ _ (field (.ref a) 1 >>=_) _ _ s
 refine J7 (wpAny_field ha rfl (x:=.int k 0) rfl ?_)
 show J6 _ _ (seqItems? (.ref l) >>=_) _ _ s
 refine J7 (Mu hl rfl ?_)
 simp only[Int.toNat_natCast,hx]
 exact J7 (wpAny_setField ha rfl (by simp) (Kb h))
theorem RelV.item {vs:List V} {xs:Array Kd} (r:ae (RelV ρ) vs xs.toList) (hv:vs[k]?=some v):∃x,xs[k]?=some x/\RelV ρ v x:=by
 obtain⟨x,h1,h2⟩:=r.get hv
 exact⟨x,by rw[<- Lm];exact h1,h2⟩
theorem Cl.next {b l:Nat} {vs:List V} (hb:os[b]?=some (fX i)) (hi:os[i]?=some (iterO l k)) (hl:os[l]?=some (.list vs)) (hv:vs[k]?=some v) :
  Cl g D (.ref b) [] [] os v (os.set i (iterO l (k + 1))):=fun ρ x xs ks hx hxs hks A s hr hh hK=>by
 cases hks
 cases hxs
 obtain⟨bb,y,z,rfl,hba,eb,ry,rz⟩:=hh.flds2 hb hx
 obtain rfl:y=.builtin "list_iterator.__next__":=ry
 obtain⟨a,y2,z2,rfl,ha,ea,ry2,rz2⟩:=hh.flds2 hi rz
 obtain rfl:z2=.int k 0:=rz2
 obtain⟨la,ys,n,rfl,hla,el,q⟩:=hh.list hl ry2
 obtain⟨w,hw,rw_⟩:=RelV.item q hv
 refine Ll (vS (items:=ys) eb ea (vz (ol:=default) ea el hw ?_))
 have hob:(s.heap.update a (Mf (·.setIfInBounds 1 (.int (k + 1:Nat) 0)))).get? a=some ⟨.type "list_iterator",none,.fields #[.ref la,.int (k + 1:Nat) 0],#[]⟩:=by
  have:=Lr (Mf (·.setIfInBounds 1 (.int (k + 1:Nat) 0))) ea rfl
  exact this
 exact⟨ρ,rw_,hh.set ha (Lc ..) hob ⟨_,rfl,.cons ⟨la,hla,rfl⟩ (.cons rfl .nil)⟩,eS (Kq ha) hob⟩
noncomputable def lck (di k:Nat):List (Str×V):=[("below",.ref 1),("done",.ref di),("masks",.ref 0),("k",.int k)]
theorem vc (w:J9) (D di o:Nat) (os:List O):Ev (aa w) D xA ⟨os,lco di o⟩ (eN 0 cD) (.int o) ⟨os,lco di o⟩:=aC (X:=X0 w D aq) ∅
theorem rZ (w:J9) (D di k b:Nat) (d bs:List Nat) (os:List O) (hn:bs.length <=100) (od:os[di]?=some (.list (mkI d))) (ob:os[b]?=some (.list (mkI bs)))
  (hb:au (aa w) D (.ref 1) (.int k) os (.ref b) os) :
  Ev (aa w) D dE ⟨os,lck di k⟩ cD (.ref os.length) ⟨os++[.list (mkI (bs.filter fun o=>!d.contains o))],lck di k⟩:=by
 have hi:Ev (aa w) D dE ⟨os,lck di k⟩ (ag cD).iter (.ref b) ⟨os,lck di k⟩:=dp (hk:={ u:=[(957,96,957,104,fun _ _ _=>.ref b)] }) (X:=X0 w D aq)
  (c:=[.p (au (aa w) D (.ref 1) (.int k) os (.ref b) os)]) ∅ ⟨hb,trivial⟩
 have:=Ev.compL (g:=aa w) (D:=D) (sc:=dE) (os:=os) (loc:=lck di k) (l0:=JZ di) (elt:=eN 0 cD) (t:=(ag cD).target) (iter:=(ag cD).iter) (ifs:=(ag cD).ifs) (scope:=cSc dE cD) (pos:=eP cD) (i:=b) (x:="one") (ms:=bs) (W:=fun(m:Nat)=>V.int (m:Int)) (F:=fun m=>V.int (m:Int)) (fun o=>!d.contains o)
  hi ob ∅ ⟨eP (ag cD).target,∅⟩ (.inl ∅) (by unfold Kg;lia) ∅ (fun v u=>rfl)
  (fun y hy=>by
   have e:(cSc dE cD).names.filter (fun p=>isFree p.2)=[((J8 "done"),Ks)]:=∅
   have hy':(y,Ks)∈(cSc dE cD).names.filter (fun p=>isFree p.2):=KI.mpr ⟨hy,rfl⟩
   rw[e] at hy'
   simp only[Ka,Kf,or_false,MS,and_true] at hy'
   subst hy'
   exact⟨rfl,fun v=>rfl⟩)
  (fun o ho acc=>by rw[vi];exact .one (yI w D di o d _ (ab od)))
  (fun o ho _ acc=>vc w D di o _)
 rw[Ai]
 exact this
noncomputable def Bc (w:J9) (D:Nat) (p q:Bool):CX (aa w) D:={ X0 w D aq with xc:=fun op a b os=>match op with
 | .In=>some ⟨.bool p,os,[.p (ak (aa w) D .In a b os (.bool p) os)],fun h=>h.1⟩
 | .Eq=>some ⟨.bool q,os,[.p (ak (aa w) D .Eq a b os (.bool q) os)],fun h=>h.1⟩
 | _=>none }
theorem G3 (w:J9) (D di k a b:Nat) (os:List O) (h1:au (aa w) D (.ref di) (.int (-1)) os (.int a) os) (h2:au (aa w) D (.ref 1) (.int k) os (.ref b) os) (h3:ak (aa w) D .In (.int a) (.ref b) os (.bool false) os) :
  Tr (aa w) D dE ⟨os,lck di k⟩ o7 false ⟨os,lck di k⟩:=
 qh (hk:={ u:=[(957,55,957,63,fun _ _ _=>.int a),(957,67,957,75,fun _ _ _=>.ref b)] }) (X:=Bc w D false false)
  (c:=[.p (au (aa w) D (.ref di) (.int (-1)) os (.int a) os),.p (au (aa w) D (.ref 1) (.int k) os (.ref b) os),.p (ak (aa w) D .In (.int a) (.ref b) os (.bool false) os)]) ∅ ⟨h1,h2,h3,trivial⟩
noncomputable def osE1 (os:List O) (fl:List Nat):List O:=os++[.list (mkI fl)]
theorem Fv (w:J9) (D di k a b:Nat) (q:Bool) (fl:List Nat) (os:List O) (h1:au (aa w) D (.ref di) (.int (-1)) os (.int a) os) (h2:au (aa w) D (.ref 1) (.int k) os (.ref b) os) (h3:ak (aa w) D .In (.int a) (.ref b) os (.bool true) os)
  (h4:Ev (aa w) D dE ⟨os,lck di k⟩ cD (.ref os.length) ⟨osE1 os fl,lck di k⟩) (h5:ak (aa w) D .Eq (.ref os.length) (.ref (osE1 os fl).length) (osN (osE1 os fl)) (.bool q) (osN (osE1 os fl))) :
  Tr (aa w) D dE ⟨os,lck di k⟩ o7 q ⟨osN (osE1 os fl),lck di k⟩:=by
 cases q
 .exact(qh (hk:={ e:=[(957,80,957,124,fun σ=>(.ref σ.os.length,⟨osE1 σ.os fl,σ.loc⟩))],u:=[(957,55,957,63,fun _ _ _=>.int a),(957,67,957,75,fun _ _ _=>.ref b)] }) (X:=Bc w D true false)
  (c:=[.p (au (aa w) D (.ref di) (.int (-1)) os (.int a) os),.p (au (aa w) D (.ref 1) (.int k) os (.ref b) os),.p (ak (aa w) D .In (.int a) (.ref b) os (.bool true) os),
   .p (Ev (aa w) D dE ⟨os,lck di k⟩ cD (.ref os.length) ⟨osE1 os fl,lck di k⟩),.b (KS 0 Kg) true,.p (ak (aa w) D .Eq (.ref os.length) (.ref (osE1 os fl).length) (osN (osE1 os fl)) (.bool false) (osN (osE1 os fl)))]) ∅ ⟨h1,h2,h3,h4,gz,h5,trivial⟩)
 .exact(qh (hk:={ e:=[(957,80,957,124,fun σ=>(.ref σ.os.length,⟨osE1 σ.os fl,σ.loc⟩))],u:=[(957,55,957,63,fun _ _ _=>.int a),(957,67,957,75,fun _ _ _=>.ref b)] }) (X:=Bc w D true true)
  (c:=[.p (au (aa w) D (.ref di) (.int (-1)) os (.int a) os),.p (au (aa w) D (.ref 1) (.int k) os (.ref b) os),.p (ak (aa w) D .In (.int a) (.ref b) os (.bool true) os),
   .p (Ev (aa w) D dE ⟨os,lck di k⟩ cD (.ref os.length) ⟨osE1 os fl,lck di k⟩),.b (KS 0 Kg) true,.p (ak (aa w) D .Eq (.ref os.length) (.ref (osE1 os fl).length) (osN (osE1 os fl)) (.bool true) (osN (osE1 os fl)))]) ∅ ⟨h1,h2,h3,h4,gz,h5,trivial⟩)
noncomputable def xF (bs d:List Nat) (a:Nat):Bool:=bs.contains a&&(bs.filter fun o=>!d.contains o).isEmpty
theorem AN (h1:1 < n) (h2:di < n):∀p∈lck di k,bi n p.2=true:=fun q hq=>by
 simp only[lck,Ka,Kf,or_false] at hq
 rcases hq with rfl | rfl | rfl | rfl
 .simp[bi,Lx];lia
 .simp[bi,Lx];lia
 .simp[bi,Lx];lia
 .rfl
theorem Dy (w:J9) (D di k a b:Nat) (d bs:List Nat) (os:List O) (hn:bs.length <=100) (o1:1 < os.length) (od:os[di]?=some (.list (mkI (d++[a])))) (ob:os[b]?=some (.list (mkI bs)))
  (hb:au (aa w) D (.ref 1) (.int k) os (.ref b) os):Tr (aa w) D dE ⟨os,lck di k⟩ o7 (xF bs (d++[a]) a) ⟨os,lck di k⟩:=by
 have e1:mkI (d++[a])=mkI d++[.int (a:Int)]:=by simp[mkI]
 have h1:au (aa w) D (.ref di) (.int (-1)) os (.int a) os:=mY (xs:=mkI d) (by rw[<- e1];exact od)
 have h3:ak (aa w) D .In (.int a) (.ref b) os (.bool (bs.contains a)) os:=ak.inL ob (jV a bs)
 unfold xF
 cases hc:bs.contains a with
 | false=>
  rw[hc] at h3
  exact G3 w D di k a b os h1 hb h3
 | true=>
  rw[hc] at h3
  rw[Bool.true_and]
  have h4:=rZ w D di k b (d++[a]) bs os hn od ob hb
  have e2:(osN (osE1 os (bs.filter fun o=>!(d++[a]).contains o)))[os.length]?=some (.list (mkI (bs.filter fun o=>!(d++[a]).contains o))):=by
   unfold osN osE1
   rw[KG,Ke (Km _),Lg];rfl
  have e3:(osN (osE1 os (bs.filter fun o=>!(d++[a]).contains o)))[(osE1 os (bs.filter fun o=>!(d++[a]).contains o)).length]?=some (.list []):=by
   unfold osN
   rw[Ke (Km _),Lg];rfl
  have h5:=ak.eqNil (g:=aa w) (D:=D) e2 e3 (by simp[osE1])
  have e4:∀l:List Nat,(mkI l).isEmpty=l.isEmpty:=fun l=>by cases l <;> rfl
  rw[e4] at h5
  have h:=Fv w D di k a b _ _ os h1 hb h3 h4 h5
  have hdi:di < os.length:=(List.getElem?_eq_some_iff.mp od).1
  have e5:osN (osE1 os (bs.filter fun o=>!(d++[a]).contains o))=os++[.list (mkI (bs.filter fun o=>!(d++[a]).contains o)),.list []]:=by unfold osN osE1;rw[KG];rfl
  rw[e5] at h
  exact Tr.drop h (AN o1 hdi)
theorem AE (w:J9) (D di k m:Nat) (os:List O) (h1:au (aa w) D (.ref 0) (.int k) os (.int m) os):Ev (aa w) D dE ⟨os,lck di k⟩ (eN 0 fU) (.int m) ⟨os,lck di k⟩:=
 dp (hk:={ u:=[(957,16,957,24,fun _ _ _=>.int m)] }) (X:=X0 w D aq) (c:=[.p (au (aa w) D (.ref 0) (.int k) os (.int m) os)]) ∅ ⟨h1,trivial⟩
noncomputable def osR (os:List O) (n:Nat):List O:=os++[.range 0 n 1]
theorem Dz (w:J9) (D wi ti di:Nat) (tl:List (Str×V)) (ms:List Nat) (hn:ms.length <=100) (os:List O) (o0:os[0]?=some (.list (mkI ms))):Ev (aa w) D fd929.scope ⟨os,lcL wi ti di tl⟩ (ag fU).iter (.ref os.length) ⟨osR os ms.length,lcL wi ti di tl⟩:=by
 refine dp (hk:={ c:=[(957,40,957,50,fun _ _ os=>(.int ms.length,os))] }) (X:=X0 w D aq)
  (c:=[.p (Cl (aa w) D (.top (.builtin "len")) [.ref 0] [] os (.int ms.length) os)]) ∅ ?_
 have:=Cl.lenL (g:=aa w) (D:=D) (i:=0) (vs:=mkI ms) (os:=os) o0 (by rw[cK];lia)
 rw[cK] at this
 exact⟨this,trivial⟩
theorem fd929_fun:fd929.scope.kind=.function:=iu ∅
theorem yk:ju=.Assign [.Name "free" (tG ju)] (fb fd929.scope fU) (sP ju):=∅
noncomputable def A5 (di:Nat):List (Str×V):=[("below",.ref 1),("done",.ref di),("masks",.ref 0)]
theorem Aa (w:J9) (D:Nat) (ms:List Nat) (hn:ms.length <=60) (h0:0 < ms.length) (wi ti di a:Nat) (d:List Nat) (tl:List (Str×V)) (htl:tl=[]\/∃v:V,tl=[(J8 "free",v)]) (os:List O)
  (o0:os[0]?=some (.list (mkI ms))) (o1:os[1]?=some (.list (eM ms.length))) (ok:∀k,k < ms.length->os[k + 2]?=some (.list (mkI (bel ms (ms.getD k 0))))) (od:os[di]?=some (.list (mkI (d++[a])))) :
  Ex (aa w) D fd929.scope ⟨os,lcL wi ti di tl⟩ ju .next ⟨osR os ms.length++[.list (mkI (freeD ms (d++[a]) a))],lcf wi ti di (os.length + 1)⟩:=by
 have mem:∀k,k < ms.length->ms.getD k 0∈ms:=fun k hk=>by rw[Kh,Kc hk];exact Lk hk
 have hget:∀k,k < ms.length->ms[k]?=some (ms.getD k 0):=fun k hk=>by rw[Kh,Kc hk];rfl
 have up:∀{i:Nat} {o:O} (acc:List V),os[i]?=some o->(osR os ms.length++[O.list acc])[i]?=some o:=fun acc h=>ab (ab h)
 have hb:∀m,(bel ms m).length <=100:=fun m=>Lh (LC _ _) (by lia)
 obtain⟨l,hl',run⟩:=ba.fm (g:=aa w) (D:=D) (sc:=dE) (t:=(ag fU).target) (elt:=eN 0 fU) (ifs:=(ag fU).ifs) (x:="k") (nx:=bF 0 1 ms.length) (os:=osR os ms.length) (l0:=A5 di) (n:=ms.length) (w:=fun k=>.int (k:Nat))
  (fun k=>xF (bel ms (ms.getD k 0)) (d++[a]) a) (fun k=>.int ((ms.getD k 0:Nat):Int)) ⟨eP (ag fU).target,∅⟩ (.inl ∅) (by unfold Kg;lia)
  (fun k acc=>by unfold bF;split <;> simp)
  (fun v u=>rfl)
  (fun k acc hk=>by
   rw[Ah]
   exact .one (Dy w D di k a (k + 2) d _ _ (hb _) (by simp[osR]) (up acc od) (up acc (ok k hk)) (aJ (up acc o1) (by lia) (qG ms k hk))))
  (fun k acc hk _=>AE w D di k _ _ (aJ (up acc o0) (by lia) (dL (hget k hk))))
 have e4:=dy (fun m=>xF (bel ms m) (d++[a]) a) (fun m=>V.int ((m:Nat):Int)) 0 ms
 rw[e4] at run
 have sm:=fp 0 ms.length h0 (by lia)
 have hit:aZ (aa w) D (.ref os.length) (osR os ms.length) (bF 0 1 ms.length):=aZ.range (a:=0) (b:=ms.length) (c:=1) (by
  unfold osR
  rw[Ke (Km _),Lg];rfl) sm.2 (by simpa using sm.1)
 have hl:cl0 (lcL wi ti di tl) (cSc fd929.scope fU).names=A5 di:=∅
 have:=Ex.compLoc (σ₁:=⟨osR os ms.length,lcL wi ti di tl⟩) (pos:=eP fU) (x:="free") (px:=tG ju) (apos:=sP ju) (Dz w D wi ti di tl ms (by lia) os o0) hit (by kernel_rfl:fP fd929.scope (cSc fd929.scope fU) (ag fU).iter=true) (by rw[hl];exact run) (fun y hy=>by
  have e2:(cSc fd929.scope fU).names.filter (fun p=>isFree p.2)=[((J8 "below"),Ks),((J8 "done"),Ks),((J8 "masks"),Ks)]:=∅
  have hy':(y,Ks)∈(cSc fd929.scope fU).names.filter (fun p=>isFree p.2):=KI.mpr ⟨hy,rfl⟩
  rw[e2] at hy'
  simp only[Ka,Kf,or_false,MS,and_true] at hy'
  rcases hl' with rfl | ⟨v,rfl⟩ <;> rcases hy' with rfl | rfl | rfl <;> rfl) ∅ fd929_fun ∅ ∅
 rw[yk]
 have el:(osR os ms.length).length=os.length + 1:=by simp[osR]
 have ef:put (lcL wi ti di tl) "free" (.ref (osR os ms.length).length)=lcf wi ti di (os.length + 1):=by
  rw[el]
  rcases htl with rfl | ⟨v,rfl⟩ <;> rfl
 rw[show(S.mk (osR os ms.length) (lcL wi ti di tl)).loc=lcL wi ti di tl from rfl,show(S.mk (osR os ms.length) (lcL wi ti di tl)).os=osR os ms.length from rfl,ef] at this
 exact this
theorem j6 {l:List Nat} {x:Nat} (h:x∈aU l):x∈l:=by unfold aU at h;simpa using (KI.mp h).2
theorem mw (l:List Nat):(aU l).length <=8:=by unfold aU;exact LC _ ord
theorem ak.neNil {xs:List V} (hi:os[i]?=some (.list xs)) (hj:os[j]?=some (.list [])) (hij:i≠j):ak g D .NotEq (.ref i) (.ref j) os (.bool (!xs.isEmpty)) os:=by
 refine ak.neL (n:=1) (qk hi hj hij) (by lia)
theorem IV (w:J9) (D wi ti di:Nat) (tl:List (Str×V)) (p:Bool) (os:List O) (h:ak (aa w) D .NotEq (.ref wi) (.ref os.length) (osN os) (.bool p) (osN os)):Tr (aa w) D fd929.scope ⟨os,lcL wi ti di tl⟩ (sN 0 gv) p ⟨osN os,lcL wi ti di tl⟩:=
 FG (X:=XC w D p) (c:=[.b (KS 0 Kg) true,.p (ak (aa w) D .NotEq (.ref wi) (.ref os.length) (osN os) (.bool p) (osN os))]) ∅ ⟨gz,h,trivial⟩
theorem Bj {tl:List (Str×V)} (h1:1 < n) (hw:wi < n) (ht:ti < n) (hd:di < n) (htl:tl=[]\/∃f,tl=[((J8 "free"),V.ref f)]/\f < n):∀p∈lcL wi ti di tl,bi n p.2=true:=fun q hq=>by
 simp only[lcL,Ka] at hq
 rcases hq with rfl | rfl | rfl | rfl | rfl | hq
 .simp[bi,Lx];lia
 .simp[bi,Lx];lia
 .simp[bi,Lx];lia
 .simp[bi,Lx];lia
 .simp[bi,Lx];lia
 .rcases htl with rfl | ⟨f,rfl,hf⟩
  .cases hq
  .simp only[Ka,Kf,or_false] at hq
   subst hq
   simp[bi,Lx];lia
theorem w0 (w:J9) (D wi ti di:Nat) (tl:List (Str×V)) (xs:List V) (os:List O) (ow:os[wi]?=some (.list xs)) (h1:1 < os.length) (ht:ti < os.length) (hd:di < os.length) (htl:tl=[]\/∃f,tl=[((J8 "free"),V.ref f)]/\f < os.length) :
  Tr (aa w) D fd929.scope ⟨os,lcL wi ti di tl⟩ (sN 0 gv) (!xs.isEmpty) ⟨os,lcL wi ti di tl⟩:=by
 have hw:wi < os.length:=(List.getElem?_eq_some_iff.mp ow).1
 have h:=ak.neNil (g:=aa w) (D:=D) (os:=osN os) (ab ow) (j:=os.length) (by unfold osN;rw[Ke (Km _),Lg];rfl) (by lia)
 exact Tr.drop (μ:=[.list []]) (IV w D wi ti di tl _ os h) (Bj h1 hw ht hd htl)
noncomputable def tO (ti di:Nat) (os:List O) (v:V) (p:Nat×List Nat):Prop:=
 ∃i j,v=.ref i/\(i≠ti/\i≠di/\j≠ti/\j≠di)/\os[i]?=some (.list [.str (wdN p.1),.ref j])/\os[j]?=some (.list (mkW p.2))
structure pg (ms:List Nat) (ti di:Nat) (x:ip) (σ:S):Prop where
 st:∃(wi:Nat) (tl:List (Str×V)) (rs:List V),σ.loc=lcL wi ti di tl/\(tl=[]\/∃f,tl=[((J8 "free"),V.ref f)]/\f < σ.os.length)/\wi≠ti/\wi≠di/\σ.os[wi]?=some (.list (mkW x.w))/\σ.os[ti]?=some (.list rs)/\ae (tO ti di σ.os) rs x.t
 ne:ti≠di
 lt:ms.length + 2 <=ti
 ld:ms.length + 2 <=di
 o0:σ.os[0]?=some (.list (mkI ms))
 o1:σ.os[1]?=some (.list (eM ms.length))
 ok:∀k,k < ms.length->σ.os[k + 2]?=some (.list (mkI (bel ms (ms.getD k 0))))
 od:σ.os[di]?=some (.list (mkI x.d))
 sub:∀m∈x.w,m∈ms
theorem ay (h:i≠j):(os.set j o)[i]?=os[i]?:=by rw[M5 (MK h)]
theorem aT (h:j < os.length):(os.set j o)[j]?=some o:=by rw[MY h]
theorem am (os:List O) (o:O):(os++[o])[os.length]?=some o:=by rw[Ke (Km _),Lg];rfl
noncomputable def Jl:List Kz:=[oS,ju,pn,vA]
theorem AO:af gv=Jl:=∅
theorem vL (w:J9) (D:Nat) (hD:1 <=D) (ms:List Nat) (h8:∀m∈ms,m < 8) (nd:ms.Nodup) (hn:ms.length < 60) (ti di a:Nat) (r d:List Nat) (t:List (Nat×List Nat)) (σ:S) (I:pg ms ti di ⟨a::r,d,t⟩ σ)
  (hr:r.length <=100) (hd:d.length <=100) (ht:t.length <=100):∃σ',Exs (aa w) D fd929.scope σ (af gv) .next σ'/\pg ms ti di (nv ms ⟨a::r,d,t⟩ a r) σ':=by
 obtain⟨os,loc⟩:=σ
 obtain⟨⟨wi,tl,rs,hloc,htl,wt,wd,ow,ot,hrs⟩,ne,lt,ld,o0,o1,ok,od,sub⟩:=I
 dsimp only at hloc htl ow ot hrs o0 o1 ok od sub ⊢
 subst hloc
 have ha:a∈ms:=sub a (LV ..)
 have hdl:di < os.length:=(List.getElem?_eq_some_iff.mp od).1
 have htll:ti < os.length:=(List.getElem?_eq_some_iff.mp ot).1
 have h0:0 < ms.length:=List.length_pos_of_mem ha
 have e1:=za w D hD ms h8 nd (by lia) wi ti di a r d ha hd tl os o0 ow od
 -- the second state
 have g2:∀{i:Nat} {o:O},i≠di->os[i]?=some o->(os2 os a di d)[i]?=some o:=fun h e=>by
  unfold os2 os1;rw[ay h];exact ab e
 have l2:(os2 os a di d).length=os.length + 1:=by simp[os2,os1]
 have od2:(os2 os a di d)[di]?=some (.list (mkI (d++[a]))):=by unfold os2;exact aT (by simp[os1];lia)
 have e2:=Aa w D ms (by lia) h0 wi ti di a d tl (htl.imp id fun⟨f,h,_⟩=>⟨_,h⟩) (os2 os a di d) (g2 (by lia) o0) (g2 (by lia) o1) (fun k hk=>g2 (by lia) (ok k hk)) od2
 -- the third
 generalize hF:freeD ms (d++[a]) a=fr at e2
 have frs:∀m∈fr,m∈ms:=fun m hm=>by rw[<- hF] at hm;exact(KI.mp hm).1
 have frn:fr.Nodup:=by rw[<- hF];exact nd.sublist Lz
 have frl:fr.length < 60:=by rw[<- hF];exact Nat.lt_of_le_of_lt (LC _ _) hn
 generalize hO3:osR (os2 os a di d) ms.length++[O.list (mkI fr)]=q3 at e2
 have g3:∀{i:Nat} {o:O},i≠di->os[i]?=some o->q3[i]?=some o:=fun h e=>by rw[<- hO3];exact ab (ab (g2 h e))
 have od3:q3[di]?=some (.list (mkI (d++[a]))):=by rw[<- hO3];exact ab (ab od2)
 have l3:q3.length=os.length + 3:=by rw[<- hO3];simp[osR,l2]
 have of3:q3[(os2 os a di d).length + 1]?=some (.list (mkI fr)):=by
  rw[<- hO3,show(os2 os a di d).length + 1=(osR (os2 os a di d) ms.length).length by simp[osR]]
  exact am _ _
 have e3:=yu w D hD wi ti di ((os2 os a di d).length + 1) a r fr rs q3 (fun m hm=>h8 m (frs m hm)) frn frl (by have:=hrs.length;lia) (g3 wd ow) of3 (g3 ne ot)
 -- the fourth
 generalize hO4:oD q3 fr a ti rs=q4 at e3
 have ltq:ti < (oC q3 fr a).length:=by simp[oC,oB,oA,l3];lia
 have g4:∀{i:Nat} {o:O},i≠ti->q3[i]?=some o->q4[i]?=some o:=fun h e=>by rw[<- hO4];unfold oD;rw[ay h];exact ab (ab (ab e))
 have ot4:q4[ti]?=some (.list (rs++[.ref (oB q3 fr).length])):=by rw[<- hO4];unfold oD;exact aT ltq
 have lA:(oA q3 fr).length=os.length + 4:=by simp[oA,l3]
 have lB:(oB q3 fr).length=os.length + 5:=by simp[oB,lA]
 have l4:q4.length=os.length + 6:=by rw[<- hO4];simp[oD,oC,lB]
 have op4:q4[(oB q3 fr).length]?=some (.list [.str (wdN a),.ref (oA q3 fr).length]):=by
  rw[<- hO4];unfold oD;rw[ay (by lia)];exact am _ _
 have oq4:q4[(oA q3 fr).length]?=some (.list (mkW (aU fr))):=by
  rw[<- hO4];unfold oD;rw[ay (by lia)]
  exact ab (am _ _)
 have e4:=AG w D wi ti di (oB q3 fr).length (oA q3 fr).length a r (aU fr) rs [("free",.ref ((os2 os a di d).length + 1))] q4 hr (Lh (mw _) (by decide)) (g4 wt (g3 wd ow)) ot4 op4 oq4
 generalize hO5:osS2 q4 r (r++aU fr)=q5 at e4
 have g5:∀{i:Nat} {o:O},q4[i]?=some o->q5[i]?=some o:=fun e=>by rw[<- hO5];exact ab (ab e)
 have l5:q5.length=os.length + 8:=by rw[<- hO5];simp[osS2,osS,l4]
 have g:∀{i:Nat} {o:O},i≠di->i≠ti->os[i]?=some o->q5[i]?=some o:=fun h1 h2 e=>g5 (g4 h2 (g3 h1 e))
 refine⟨_,by rw[AO];exact Exs.app (l₁:=[oS]) e1 (Exs.cons e2 (Exs.app (l₁:=[pn]) e3 e4)),⟨⟨q4.length + 1,[("free",.ref ((os2 os a di d).length + 1))],rs++[.ref (oB q3 fr).length],rfl,.inr ⟨_,rfl,by rw[l2,l5];lia⟩,by lia,by lia,?_,g5 ot4,?_⟩,ne,lt,ld,g (by lia) (by lia) o0,g (by lia) (by lia) o1,fun k hk=>g (by lia) (by lia) (ok k hk),?_,fun m hm=>?_⟩⟩
 .show q5[q4.length + 1]?=some (.list (mkW (r++aU (freeD ms (d++[a]) a))))
  rw[hF,<- hO5]
  have:=am (osS q4 r) (.list (mkW (r++aU fr)))
  rwa [show(osS q4 r).length=q4.length + 1 by simp[osS]] at this
 .show ae (tO ti di q5) (rs++[.ref (oB q3 fr).length]) (t++[(a,aU (freeD ms (d++[a]) a))])
  rw[hF]
  refine ae.append (.cons ⟨(oB q3 fr).length,(oA q3 fr).length,rfl,⟨by lia,by lia,by lia,by lia⟩,g5 op4,g5 oq4⟩ .nil) (hrs.mono fun v p h=>?_)
  obtain⟨i,j,hv,⟨h1,h2,h3,h4⟩,h5,h6⟩:=h
  exact⟨i,j,hv,⟨h1,h2,h3,h4⟩,g h2 h1 h5,g h4 h3 h6⟩
 .exact g5 (g4 (MK ne) od3)
 .rcases List.mem_append.mp hm with h | h
  .exact sub m (KO _ h)
  .exact frs m (by rw[hF] at h;exact j6 h)
theorem Ae (w:J9) (D:Nat) (hD:1 <=D) (ms:List Nat) (h8:∀m∈ms,m < 8) (nd:ms.Nodup) (hn:ms.length < 60) (ti di:Nat):∀(n:Nat) (wx d:List Nat) (t:List (Nat×List Nat)) (y:ip) (σ:S),pg ms ti di ⟨wx,d,t⟩ σ->wx.length + 8 * n <=100->d.length + n <=100->t.length + n <=100->
  jG ms n ⟨wx,d,t⟩=some y->∃σe,dN (aa w) D fd929.scope (sN 0 gv) (af gv) [] .next σe σ/\pg ms ti di y σe:=fun n=>by
 induction n with
 | zero=>
  intro wx d t y σ I b1 b2 b3 hy
  cases wx with
  | cons a r=>exact nS hy
  | nil=>
   cases hy
   obtain⟨os,loc⟩:=σ
   obtain⟨wi,tl,rs,hloc,htl,wt,wd,hO'⟩:=I.st
   obtain⟨ow,ot,hrs⟩:=hO'
   dsimp only at hloc htl ow ot
   subst hloc
   exact⟨_,.stop (w0 w D wi ti di tl (mkW []) os ow (List.getElem?_eq_some_iff.mp I.o1).1 (List.getElem?_eq_some_iff.mp ot).1 (List.getElem?_eq_some_iff.mp I.od).1 htl) Exs.nil,I⟩
 | succ n ih=>
  intro wx d t y σ I b1 b2 b3 hy
  obtain⟨wi,tl,rs,hloc,htl,wt,wd,hO'⟩:=I.st
  obtain⟨ow,ot,hrs⟩:=hO'
  have ht:=w0 w D wi ti di tl (mkW wx) σ.os ow (List.getElem?_eq_some_iff.mp I.o1).1 (List.getElem?_eq_some_iff.mp ot).1 (List.getElem?_eq_some_iff.mp I.od).1 htl
  rw[<- hloc] at ht
  cases wx with
  | nil=>
   cases hy
   exact⟨_,.stop ht Exs.nil,I⟩
  | cons a r=>
   rw[Li] at b1
   obtain⟨σ',hx,I'⟩:=vL w D hD ms h8 nd hn ti di a r d t σ I (by lia) (by lia) (by lia)
   have hl:=mw (freeD ms (d++[a]) a)
   obtain⟨σe,run,Ie⟩:=ih (r++aU (freeD ms (d++[a]) a)) (d++[a]) (t++[(a,aU (freeD ms (d++[a]) a))]) y σ' I' (by rw[KC];lia) (by rw[KC,Mm];lia) (by rw[KC,Mm];lia) hy
   exact⟨σe,.turn ht hx (.inl rfl) run,Ie⟩
theorem BL:gv=.While (sN 0 gv) (af gv) [] (sP gv):=∅
theorem uY:cr=cr.take 2++[eH,gv,ah cr 4]:=∅
theorem Hg (w:J9) (D wi ti di:Nat) (tl:List (Str×V)) (os:List O):Exs (aa w) D fd929.scope ⟨os,lcL wi ti di tl⟩ [ah cr 4] (.ret (.ref ti)) ⟨os,lcL wi ti di tl⟩:=
 jp (X:=X0 w D aq) ∅
theorem Ib:∀x,K2 fd929 ⟨[x],[]⟩=pure [(J8 "masks",x)]:=fun x=>∅
noncomputable def sn (os:List O) (r:Nat) (t:List (Nat×List Nat)):Prop:=
 ∃rs,os[r]?=some (.list rs)/\ae (fun(v:V) (p:Nat×List Nat)=>∃i j,v=.ref i/\os[i]?=some (.list [.str (wdN p.1),.ref j])/\os[j]?=some (.list (mkW p.2))) rs t
theorem Ce (w:J9) (D:Nat) (hD:1 <=D) (ms:List Nat) (h8:∀m∈ms,m < 8) (nd:ms.Nodup) (hn:ms.length < 60) (h0:0 < ms.length) (hs:(wait0 ms).length <=60) (y:ip) (hy:kD ms=some y) :
  ∃os' r,Cl (aa w) (D + 1) (.top (.ref 929)) [.ref 0] [] [.list (mkI ms)] (.ref r) (.list (mkI ms)::os')/\sn (.list (mkI ms)::os') r y.t:=by
 have h1:=EF w D hD ms h8 nd (by lia) h0
 have h2:=GY w D (ms.length + 4) (osC2 ms)
 have l2:(osC2 ms).length=ms.length + 5:=by simp[osC2,ku]
 rw[l2] at h2
 have g:∀{i:Nat} {o:O},(osC2 ms)[i]?=some o->(osM3 (osC2 ms))[i]?=some o:=fun e=>ab (ab (ab e))
 have gT:∀{i:Nat} {o:O},(Tos ms ms.length)[i]?=some o->(osC2 ms)[i]?=some o:=fun e=>ab (ab (ab e))
 have t0:(osM3 (osC2 ms))[ms.length + 5]?=some (.list []):=by
  unfold osM3
  rw[<- l2]
  exact ab (ab (am _ _))
 have d0:(osM3 (osC2 ms))[ms.length + 6]?=some (.list []):=by
  unfold osM3
  rw[show ms.length + 6=(osC2 ms++[O.list []]).length by simp[l2]]
  exact ab (am _ _)
 have I:pg ms (ms.length + 5) (ms.length + 6) ⟨aU (wait0 ms),[],[]⟩ ⟨osM3 (osC2 ms),lD2 (ms.length + 4) (.ref (ms.length + 5)) (.ref (ms.length + 6))⟩:=by
  refine⟨⟨ms.length + 4,[],[],rfl,.inl rfl,by lia,by lia,?_,t0,.nil⟩,by lia,by lia,by lia,g (gT rfl),g (gT rfl),fun k hk=>?_,d0,fun m hm=>(KI.mp (j6 hm)).1⟩
  .refine g ?_
   unfold osC2
   rw[<- ku]
   exact am _ _
  .have:=qL ms k hk []
   rw[KZ] at this
   exact g (gT this)
 have l8:=mw (wait0 ms)
 obtain⟨σe,run,Ie⟩:=Ae w D hD ms h8 nd hn _ _ 9 _ _ _ y _ I (by lia) (by rw[Mp];lia) (by rw[Mp];lia) hy
 obtain⟨os,loc⟩:=σe
 obtain⟨wi,tl,rs,hloc,htl,wt,wd,hO'⟩:=Ie.st
 obtain⟨ow,ot,hrs⟩:=hO'
 dsimp only at hloc htl ow ot hrs
 subst hloc
 have all:Exs (aa w) D fd929.scope ⟨[.list (mkI ms)],lB0⟩ cr (.ret (.ref (ms.length + 5))) ⟨os,lcL wi (ms.length + 5) (ms.length + 6) tl⟩:=by
  rw[uY]
  refine Exs.app h1 (Exs.cons h2 (Exs.cons ?_ (Hg w D _ _ _ tl os)))
  rw[BL]
  exact Ex.whRun run
 have c:=Cl.def_ (yc w) (bf.of1 Ib (a:=.ref 0) (os:=[.list (mkI ms)])) (fun x hx=>by
  simp only[Ka,Kf,or_false] at hx
  rcases hx with rfl
  exact .inr ∅) (by decide +kernel) all rfl ⟨nofun,nofun⟩
 have ob':∃os',os=.list (mkI ms)::os':=by
  have:=Ie.o0
  cases os with
  | nil=>exact nS this
  | cons a os'=>cases this;exact⟨os',rfl⟩
 obtain⟨os',rfl⟩:=ob'
 refine⟨os',_,c,rs,ot,hrs.mono fun v p h=>?_⟩
 obtain⟨i,j,hv,_,h5,h6⟩:=h
 exact⟨i,j,hv,h5,h6⟩
theorem Kp.cls {od:Option Kj} {r:Option Kd} (h:g.K.lookup a=some ⟨oc,od,.cls cd,sl⟩) (hs:MW g.K (.ref a) "__call__"=some r):Kp g os (.top (.ref a)):=fun A ρ s x Q E hx hh hk q=>by
 obtain rfl:x=.ref a:=hx
 unfold keeperOf
 exact J7 (LA (hk _ _ h) (J7 ((looks_specialIn hk hs).here (Kb (q _)))))
noncomputable def BY (o:Option Obj):Bool:=o.any fun o=>match o.data with
 | .cls _=>true
 | _=>false
noncomputable def Bd:List Kj:=[77,174,731,866]
theorem BX (P:K5):Bd.all (fun a=>BY ((KL P).lookup a)&&(MW (KL P) (.ref a) "__call__").isSome)=true:=∅
theorem Jq (w:J9) (os:List O) (h:Bd.contains a=true):Kp (aa w) os (.top (.ref a)):=by
 have:=List.all_eq_true.mp (BX w.params) a (by simpa using h)
 obtain⟨h1,h2⟩:=Bool.and_eq_true_iff.mp this
 obtain⟨r,hr⟩:=Option.isSome_iff_exists.mp h2
 obtain⟨⟨oc,od,d,sl⟩,e,h1⟩:=bh h1
 cases d with
 | cls cd=>exact Kp.cls (g:=aa w) e hr
 | _=>exact nB h1
noncomputable def IP (w:J9) (os:List O) (f:V):Option (KR (aa w) os f):=match f with
 | .top (.ref a)=>if h:Bd.contains a=true then some ⟨Jq w os h⟩ else none
 | _=>none
noncomputable def Ji (tb:List (Str×V)) (a:V) (name:Str) (os:List O):Option (LR fun v os'=>aj g D a name os v os'):=match lk name tb with
 | some v=>some ⟨v,os,[.p (aj g D a name os v os)],fun h=>h.1⟩
 | none=>none
noncomputable def jv (tb:List (Str×(V->V->List O->List O))) (a:V) (name:Str) (v:V) (os:List O):Option (LR fun(_:Unit) os'=>az g D a name v os os'):=match lk name tb with
 | some f=>some ⟨(),f a v os,[.p (az g D a name v os (f a v os))],fun h=>h.1⟩
 | none=>none
noncomputable def FP (f:V->V->V->List O->List O) (a i v:V) (os:List O):Option (LR fun(_:Unit) os'=>dG g D a i v os os'):=some ⟨(),f a i v os,[.p (dG g D a i v os (f a i v os))],fun h=>h.1⟩
noncomputable def XU (w:J9) (D:Nat) (tb:List (Str×V)):CX (aa w) D:={ X0 w D aq with yg:=Ji tb,xk:=IP w }
theorem fo (P:K5):fy (KL P) 77 "node" 0=true/\fy (KL P) 77 "npredecessors" 1=true/\fy (KL P) 77 "successors" 2=true:=⟨∅,∅,∅⟩
theorem CR (P:K5):makesIn (KL P) 77=true/\LG (KL P) (.ref 77) "__init__"=some (some (.ref 73))/\Na (KL P) (.ref 73)=some (.type "function"):=⟨∅,∅,∅⟩
theorem JL:∀x y,K2 rD ⟨[x,y],[]⟩=pure [(J8 "self",x),(J8 "node",y)]:=fun x y=>∅
theorem nd_sn:([J8 "self",J8 "node"]:List Str).Nodup:=by decide +kernel
noncomputable def HI:List Kz:=(aM 12 1).2.1
noncomputable def gK (d:Nat) (x:Str) (n:Int) (j:Nat):O:=.slots 77 d [some (.str x),some (.int n),some (.ref j)]
noncomputable def tB (os:List O):List O:=os++[.dict [] 0]++[.slots 77 os.length []]
noncomputable def niO (os:List O) (x:Str):List O:=os++[.dict [] 0]++[gK os.length x 0 (os.length + 2)]++[.list []]
noncomputable def pI (os:List O) (x:Str):List O:=os++[.dict [] 0]++[.slots 77 os.length [some (.str x)]]
noncomputable def jk (os:List O) (x:Str):List O:=os++[.dict [] 0]++[.slots 77 os.length [some (.str x),some (.int 0)]]
noncomputable def C5 (os:List O) (x:Str):List O:=jk os x++[.list []]
theorem ni_run (w:J9) (x:Str) (os:List O) (h1:az (aa w) 0 (.ref (os.length + 1)) "node" (.str x) (tB os) (pI os x)) (h2:az (aa w) 0 (.ref (os.length + 1)) "npredecessors" (.int 0) (pI os x) (jk os x))
  (h3:az (aa w) 0 (.ref (os.length + 1)) "successors" (.ref (jk os x).length) (C5 os x) (niO os x)) :
  Exs (aa w) 0 rD.scope ⟨tB os,[("self",.ref (os.length + 1)),("node",.str x)]⟩ HI .next ⟨niO os x,[("self",.ref (os.length + 1)),("node",.str x)]⟩:=
 mV (X:={ X0 w 0 aq with ys:=jv [("node",fun _ _ _=>pI os x),("npredecessors",fun _ _ _=>jk os x),("successors",fun _ _ _=>niO os x)] })
  (c:=[.p (az (aa w) 0 (.ref (os.length + 1)) "node" (.str x) (tB os) (pI os x)),.p (az (aa w) 0 (.ref (os.length + 1)) "npredecessors" (.int 0) (pI os x) (jk os x)),
   .b (KS 0 Kg) true,.p (az (aa w) 0 (.ref (os.length + 1)) "successors" (.ref (jk os x).length) (C5 os x) (niO os x))]) ∅ ⟨h1,h2,gz,h3,trivial⟩
theorem Cl.nodeInfo (w:J9) (x:Str) (os:List O):Cl (aa w) 2 (.top (.ref 77)) [.str x] [] os (.ref (os.length + 1)) (niO os x):=by
 have at1:∀vs tl,(os++[O.dict [] 0]++[O.slots 77 os.length vs]++tl)[os.length + 1]?=some (.slots 77 os.length vs):=fun vs tl=>by
  refine ab ?_
  rw[show os.length + 1=(os++[O.dict [] 0]).length by simp]
  exact am _ _
 have at1':∀vs,(os++[O.dict [] 0]++[O.slots 77 os.length vs])[os.length + 1]?=some (.slots 77 os.length vs):=fun vs=>by
  have:=at1 vs []
  rwa [KZ] at this
 have at0:∀o tl,(os++[O.dict [] 0]++[o]++tl)[os.length]?=some (.dict [] 0):=fun o tl=>ab (ab (am _ _))
 have at0':∀o,(os++[O.dict [] 0]++[o])[os.length]?=some (.dict [] 0):=fun o=>ab (am _ _)
 have st:∀a b,(os++[O.dict [] 0]++[a]).set (os.length + 1) b=os++[O.dict [] 0]++[b]:=fun a b=>by
  rw[List.set_append_right _ _ (by simp)]
  simp
 obtain⟨s0,s1,s2⟩:=fo w.params
 have h1:az (aa w) 0 (.ref (os.length + 1)) "node" (.str x) (tB os) (pI os x):=by
  have:=az.slot (g:=aa w) (D:=0) (v:=.str x) (at1' []) (at0' _) s0
  rw[st] at this
  exact this
 have h2:az (aa w) 0 (.ref (os.length + 1)) "npredecessors" (.int 0) (pI os x) (jk os x):=by
  have:=az.slot (g:=aa w) (D:=0) (v:=.int 0) (at1' [some (.str x)]) (at0' _) s1
  rw[st] at this
  exact this
 have lB:(jk os x).length=os.length + 2:=by simp[jk]
 have h3:az (aa w) 0 (.ref (os.length + 1)) "successors" (.ref (jk os x).length) (C5 os x) (niO os x):=by
  have:=az.slot (g:=aa w) (D:=0) (v:=.ref (jk os x).length) (at1 [some (.str x),some (.int 0)] [.list []]) (at0 _ [.list []]) s2
  have e:(os++[O.dict [] 0]++[O.slots 77 os.length [some (.str x),some (.int 0)]]++[O.list []]).set (os.length + 1) (.slots 77 os.length (CC [some (.str x),some (.int 0)] 2 (.ref (jk os x).length)))=niO os x:=by
   rw[List.set_append_left _ _ (by simp),st,lB]
   rfl
  rw[e] at this
  exact this
 have c:=Co.def_ (Hj w) (bf.of2 JL (a:=.ref (os.length + 1)) (b:=.str x) (os:=tB os)) (fun y hy=>by
  simp only[Ka,Kf,or_false] at hy
  rcases hy with rfl | rfl <;> exact .inl ∅) nd_sn (ni_run w x os h1 h2 h3) rfl ⟨nofun,nofun⟩
 obtain⟨m1,m2,m3⟩:=CR w.params
 exact(Co.makeS (g:=aa w) m1 m2 m3 c).cl
structure ci where
 si:Nat
 di:Nat
 mi:Nat
 ns:List Nat
 ix:Nat->Nat
 dx:Nat->Nat
 jx:Nat->Nat
 np:Nat->Int
 su:Nat->List Nat
 rd:V
 po:Int
 nf:Int
variable {t t1:ci}
noncomputable def cQ (mi:Nat) (rd:V) (po nf:Int):List (Str×V):=[("_node2info",.ref mi),("_ready_nodes",rd),("_npassedout",.int po),("_nfinished",.int nf)]
noncomputable def CN (ns:List Nat) (ix:Nat->Nat):O:=.map (ns.map fun m=>(wdN m,V.ref (ix m)))
structure SA (os:List O) (t:ci):Prop where
 s:os[t.si]?=some (.inst 174 t.di)
 d:∃n,os[t.di]?=some (.dict (cQ t.mi t.rd t.po t.nf) n)
 m:os[t.mi]?=some (CN t.ns t.ix)
 x:∀m∈t.ns,os[t.ix m]?=some (gK (t.dx m) (wdN m) (t.np m) (t.jx m))
 y:∀m∈t.ns,os[t.dx m]?=some (.dict [] 0)
 z:∀m∈t.ns,os[t.jx m]?=some (.list (mkW (t.su m)))
 inj:∀m∈t.ns,∀k∈t.ns,t.jx m=t.jx k->m=k
 n8:∀m∈t.ns,m < 8
 nd:t.ns.Nodup
 out:∀m,m∉t.ns->t.np m=0/\t.su m=[]
noncomputable def Ow (t:ci) (i:Nat):Prop:=i=t.si\/i=t.di\/i=t.mi\/∃m∈t.ns,i=t.ix m\/i=t.dx m\/i=t.jx m
noncomputable def cw (os:List O) (t:ci) (os':List O) (t':ci):Prop:=∀i o,os[i]?=some o->¬ Ow t i->os'[i]?=some o/\¬ Ow t' i
theorem cw.trans {os1 os2:List O} {t2:ci} (h:cw os t os1 t1) (k:cw os1 t1 os2 t2):cw os t os2 t2:=fun i o e f=>let⟨a,b⟩:=h i o e f;k i o a b
theorem SA.mono (h:SA os t) (k:∀i o,os[i]?=some o->Ow t i->os'[i]?=some o):SA os' t:=
 ⟨k _ _ h.s (.inl rfl),let⟨n,e⟩:=h.d;⟨n,k _ _ e (.inr (.inl rfl))⟩,k _ _ h.m (.inr (.inr (.inl rfl))),fun m hm=>k _ _ (h.x m hm) (.inr (.inr (.inr ⟨m,hm,.inl rfl⟩))),
  fun m hm=>k _ _ (h.y m hm) (.inr (.inr (.inr ⟨m,hm,.inr (.inl rfl)⟩))),fun m hm=>k _ _ (h.z m hm) (.inr (.inr (.inr ⟨m,hm,.inr (.inr rfl)⟩))),h.inj,h.n8,h.nd,h.out⟩
theorem SA.app (h:SA os t) (tl:List O):SA (os++tl) t:=h.mono fun i o e _=>ab e
theorem SA.lt (h:SA os t) (k:Ow t i):i < os.length:=by
 rcases k with rfl | rfl | rfl | ⟨m,hm,rfl | rfl | rfl⟩
 .exact(List.getElem?_eq_some_iff.mp h.s).1
 .obtain⟨n,e⟩:=h.d;exact(List.getElem?_eq_some_iff.mp e).1
 .exact(List.getElem?_eq_some_iff.mp h.m).1
 .exact(List.getElem?_eq_some_iff.mp (h.x m hm)).1
 .exact(List.getElem?_eq_some_iff.mp (h.y m hm)).1
 .exact(List.getElem?_eq_some_iff.mp (h.z m hm)).1
theorem gu:∀m,m < 8->∀k,k < 8->wdN m=wdN k->m=k:=fun m hm k hk e=>by
 have:=xe m hm k hk
 rw[e,ca,beq_self_eq_true] at this
 exact MB this.symm
theorem i7 (n8:∀m∈ns,m < 8) (hk:k < 8):(ns.map fun m=>(wdN m,V.ref (ix m))).lookup (wdN k)=if k∈ns then some (.ref (ix k)) else none:=by
 induction ns with
 | nil=>rfl
 | cons a r ih=>
  rw[K6,K1,ih fun m hm=>n8 m (KO _ hm)]
  have h8:=n8 a (LV ..)
  by_cases e:k=a
  .subst e;simp
  .have:(wdN k==wdN a)=false:=by rw[beq_eq_false_iff_ne];exact fun q=>e (gu k hk a h8 q)
   rw[this]
   simp[e]
theorem cE (P:K5):ow 174 "_node2info"=true/\ow 174 "_ready_nodes"=true/\ow 174 "_npassedout"=true/\ow 174 "_nfinished"=true:=⟨∅,∅,∅,∅⟩
theorem SA.get (h:SA os t) {name:Str} (hn:ow 174 name=true) (hv:(cQ t.mi t.rd t.po t.nf).lookup name=some v) (hh:gd v=true):aj (aa w) D (.ref t.si) name os v os:=by
 obtain⟨n,e⟩:=h.d
 exact aj.own (g:=aa w) h.s e hv (bP w.params _ _ hn).1.1 (bP w.params _ _ hn).1.2 hh
theorem SA.node (h:SA os t):aj (aa w) D (.ref t.si) "_node2info" os (.ref t.mi) os:=h.get (cE w.params).1 rfl rfl
theorem SA.ready (h:SA os t) {r:Nat} (hr:t.rd=.ref r):aj (aa w) D (.ref t.si) "_ready_nodes" os (.ref r) os:=h.get (cE w.params).2.1 (by rw[<- hr];rfl) rfl
theorem SA.ready0 (h:SA os t) (hr:t.rd=.none):aj (aa w) D (.ref t.si) "_ready_nodes" os .none os:=h.get (cE w.params).2.1 (by rw[<- hr];rfl) rfl
theorem SA.passed (h:SA os t):aj (aa w) D (.ref t.si) "_npassedout" os (.int t.po) os:=h.get (cE w.params).2.2.1 rfl rfl
theorem SA.fin (h:SA os t):aj (aa w) D (.ref t.si) "_nfinished" os (.int t.nf) os:=h.get (cE w.params).2.2.2 rfl rfl
theorem an.mapM {name:Str} {id:String} (ho:os[i]?=some (.map es)) (slot:Slot "dict" name id) (ty:typeOf (.builtin id)=pure (.type "method_descriptor")):an g (.ref i) name os (.top (.builtin id)):=fun A ρ s y pl Q E hy hh hk q=>by
 obtain⟨a,rfl,ha,kvs,hd,b⟩:=hh.mapOf ho hy
 obtain⟨o,es,ep,e1,⟨c1,c2,c3⟩,e2,_⟩:=hd
 exact NA ⟨_,e1,c1⟩ F.plainAttrs_dict slot ty (fun b hb=>by cases hb;exact⟨_,e1,c2⟩) (q _ s.toks rfl)
noncomputable def xv:List Kz:=(aM 14 1).2.1
theorem DF:∀x y,K2 lu ⟨[x,y],[]⟩=pure [(J8 "self",x),(J8 "node",y)]:=fun x y=>∅
noncomputable def cG (w:J9) (si mi:Nat) (x:Str) (os:List O) (v:V):List de:=[.p (aj (aa w) 2 (.ref si) "_node2info" os (.ref mi) os),.p (an (aa w) (.ref mi) "get" os (.top (.builtin "dict.get"))),.p (Cl (aa w) 2 (.top (.builtin "dict.get")) [.ref mi,.str x] [] os v os)]
noncomputable def lG (si:Nat) (x:Str):List (Str×V):=[("self",.ref si),("node",.str x)]
noncomputable def lG2 (si:Nat) (x:Str) (v:V):List (Str×V):=[("self",.ref si),("node",.str x),("result",v)]
theorem uo (w:J9) (si mi i:Nat) (x:Str) (os:List O) (h1:aj (aa w) 2 (.ref si) "_node2info" os (.ref mi) os) (h2:an (aa w) (.ref mi) "get" os (.top (.builtin "dict.get"))) (h3:Cl (aa w) 2 (.top (.builtin "dict.get")) [.ref mi,.str x] [] os (.ref i) os) :
  Exs (aa w) 2 lu.scope ⟨os,lG si x⟩ xv (.ret (.ref i)) ⟨os,lG2 si x (.ref i)⟩:=
 bq (hk:={ m:=[(78,22,78,47,.top (.builtin "dict.get"))],c:=[(78,22,78,47,fun _ _ os=>(.ref i,os))] }) (X:=XU w 2 [("_node2info",.ref mi)]) (c:=cG w si mi x os (.ref i)) ∅ ⟨h1,h2,h3,trivial⟩
theorem sY (w:J9) (si mi n:Nat) (x:Str) (os os1 os2:List O) (h1:aj (aa w) 2 (.ref si) "_node2info" os (.ref mi) os) (h2:an (aa w) (.ref mi) "get" os (.top (.builtin "dict.get"))) (h3:Cl (aa w) 2 (.top (.builtin "dict.get")) [.ref mi,.str x] [] os .none os)
  (h4:Cl (aa w) 2 (.top (.ref 77)) [.str x] [] os (.ref n) os1) (h5:aj (aa w) 2 (.ref si) "_node2info" os1 (.ref mi) os1) (h6:dG (aa w) 2 (.ref mi) (.str x) (.ref n) os1 os2) :
  Exs (aa w) 2 lu.scope ⟨os,lG si x⟩ xv (.ret (.ref n)) ⟨os2,lG2 si x (.ref n)⟩:=
 bq (hk:={ m:=[(78,22,78,47,.top (.builtin "dict.get"))],c:=[(78,22,78,47,fun _ _ os=>(.none,os)),(79,45,79,60,fun _ _ _=>(.ref n,os1))] }) (X:={ XU w 2 [("_node2info",.ref mi)] with xi:=FP fun _ _ _ _=>os2 })
  (c:=[.p (aj (aa w) 2 (.ref si) "_node2info" os (.ref mi) os),.p (an (aa w) (.ref mi) "get" os (.top (.builtin "dict.get"))),.p (Cl (aa w) 2 (.top (.builtin "dict.get")) [.ref mi,.str x] [] os .none os),
   .p (Cl (aa w) 2 (.top (.ref 77)) [.str x] [] os (.ref n) os1),.p (aj (aa w) 2 (.ref si) "_node2info" os1 (.ref mi) os1),.p (dG (aa w) 2 (.ref mi) (.str x) (.ref n) os1 os2)]) ∅ ⟨h1,h2,h3,h4,h5,h6,trivial⟩
noncomputable def ins (ns:List Nat) (m:Nat):List Nat:=if m∈ns then ns else ns++[m]
noncomputable def bw (f:Nat->β) (m:Nat) (v:β):Nat->β:=fun k=>if k=m then v else f k
theorem bX (f:Nat->β) (m:Nat) (v:β):bw f m v m=v:=if_pos rfl
theorem bg (f:Nat->β) (v:β) (h:k≠m):bw f m v k=f k:=if_neg h
theorem zQ (n8:∀k∈ns,k < 8) (hm:m < 8) (h:m∉ns):put (ns.map fun k=>(wdN k,V.ref (ix k))) (wdN m) (.ref n)=(ns++[m]).map fun k=>(wdN k,V.ref (bw ix m n k)):=by
 induction ns with
 | nil=>simp[put,bw]
 | cons a r ih=>
  have ne:m≠a:=fun e=>h (e▸LV ..)
  have e1:(wdN m==wdN a)=false:=by rw[beq_eq_false_iff_ne];exact fun q=>ne (gu m hm a (n8 a (LV ..)) q)
  rw[K6,List.cons_append,K6]
  have p1:put ((wdN a,V.ref (ix a))::r.map fun k=>(wdN k,V.ref (ix k))) (wdN m) (.ref n)=(wdN a,V.ref (ix a))::put (r.map fun k=>(wdN k,V.ref (ix k))) (wdN m) (.ref n):=by
   show(if(wdN m==wdN a)=true then _ else _)=_
   rw[e1];rfl
  rw[p1,ih (fun k hk=>n8 k (KO _ hk)) fun hm=>h (KO _ hm),bg _ _ (MK ne)]
theorem me (w:J9) (h:SA os t) (hm:m < 8):∃os' ix dx jx,Cl (aa w) 3 (.top (.ref 117)) [.ref t.si,.str (wdN m)] [] os (.ref (ix m)) os'/\
  SA os' { t with ns:=ins t.ns m,ix:=ix,dx:=dx,jx:=jx }/\cw os t os' { t with ns:=ins t.ns m,ix:=ix,dx:=dx,jx:=jx }:=by
 have hg:=Cl.dictGet (g:=aa w) (D:=2) (k:=wdN m) (os:=os) h.m
 rw[i7 h.n8 hm] at hg
 have hm1:=an.mapM (g:=aa w) (os:=os) h.m NP F.type_dict_get
 by_cases hin:m∈t.ns
 .rw[if_pos hin] at hg
  have run:=uo w t.si t.mi (t.ix m) (wdN m) os h.node hm1 hg
  have c:=Cl.def_ (xj w) (bf.of2 DF (a:=.ref t.si) (b:=.str (wdN m)) (os:=os)) (fun y hy=>by
   simp only[Ka,Kf,or_false] at hy
   rcases hy with rfl | rfl <;> exact .inl ∅) nd_sn run rfl ⟨nofun,nofun⟩
  refine⟨os,t.ix,t.dx,t.jx,c,?_,?_⟩
  .unfold ins;rw[if_pos hin];exact h
  .unfold ins;rw[if_pos hin];exact fun i o e f=>⟨e,f⟩
 .rw[if_neg hin] at hg
  have hn:=Cl.nodeInfo w (wdN m) os
  have l1:(niO os (wdN m)).length=os.length + 3:=by simp[niO]
  have up:∀{i:Nat} {o:O},os[i]?=some o->(niO os (wdN m))[i]?=some o:=fun e=>ab (ab (ab e))
  have A1:SA (niO os (wdN m)) t:=h.mono fun i o e _=>up e
  have mil:t.mi < os.length:=h.lt (.inr (.inr (.inl rfl)))
  have n8l:t.ns.length <=8:=by
   have:=h.nd.length_le_of_subset (l₂:=K0 8) fun x hx=>List.mem_range.mpr (h.n8 x hx)
   simpa using this
  have hs:=dG.mapPut (g:=aa w) (D:=2) (k:=wdN m) (v:=.ref (os.length + 1)) A1.m (by rw[KU];lia)
  rw[zQ h.n8 hm hin] at hs
  have run:=sY w t.si t.mi (os.length + 1) (wdN m) os _ _ h.node hm1 hg hn A1.node hs
  have c:=Cl.def_ (xj w) (bf.of2 DF (a:=.ref t.si) (b:=.str (wdN m)) (os:=os)) (fun y hy=>by
   simp only[Ka,Kf,or_false] at hy
   rcases hy with rfl | rfl <;> exact .inl ∅) nd_sn run rfl ⟨nofun,nofun⟩
  generalize hO:(niO os (wdN m)).set t.mi (.map ((t.ns++[m]).map fun k=>(wdN k,V.ref (bw t.ix m (os.length + 1) k))))=os' at c
  have g':∀{i:Nat} {o:O},i≠t.mi->(niO os (wdN m))[i]?=some o->os'[i]?=some o:=fun q e=>by rw[<- hO,ay q];exact e
  have nx:∀k∈t.ns,k≠m:=fun k hk e=>hin (e▸hk)
  have i0:(niO os (wdN m))[os.length]?=some (.dict [] 0):=ab (ab (am _ _))
  have i1:(niO os (wdN m))[os.length + 1]?=some (gK os.length (wdN m) 0 (os.length + 2)):=by
   refine ab ?_
   rw[show os.length + 1=(os++[O.dict [] 0]).length by simp]
   exact am _ _
  have i2:(niO os (wdN m))[os.length + 2]?=some (.list []):=by
   have:=am (os++[O.dict [] 0]++[gK os.length (wdN m) 0 (os.length + 2)]) (.list [])
   rw[show(os++[O.dict [] 0]++[gK os.length (wdN m) 0 (os.length + 2)]).length=os.length + 2 by simp] at this
   exact this
  have nmi:∀{i:Nat} {o:O},os[i]?=some o->o≠CN t.ns t.ix->i≠t.mi:=fun e q e2=>q (by rw[e2,h.m] at e;exact(Lu e).symm)
  obtain⟨o1,o2⟩:=h.out m hin
  have mem':∀{k:Nat},k∈t.ns++[m]->k∈t.ns\/k=m:=fun hk=>by simpa using hk
  refine⟨os',bw t.ix m (os.length + 1),bw t.dx m os.length,bw t.jx m (os.length + 2),by rw[bX];exact c,?_,?_⟩
  .unfold ins
   rw[if_neg hin]
   refine⟨g' (nmi h.s (by intro e;cases e)) (up h.s),?_,?_,fun k hk=>?_,fun k hk=>?_,fun k hk=>?_,fun a ha b hb e=>?_,fun k hk=>?_,?_,fun k hk=>?_⟩
   .obtain⟨n,e⟩:=h.d
    exact⟨n,g' (nmi e (by intro q;cases q)) (up e)⟩
   .show os'[t.mi]?=_
    rw[<- hO,aT (by rw[l1];lia)];rfl
   .rcases mem' hk with hk | rfl
    .dsimp only
     rw[bg _ _ (nx k hk),bg _ _ (nx k hk),bg _ _ (nx k hk)]
     exact g' (nmi (h.x k hk) (by intro e;cases e)) (up (h.x k hk))
    .dsimp only
     rw[bX,bX,bX,o1]
     exact g' (by lia) i1
   .rcases mem' hk with hk | rfl
    .dsimp only
     rw[bg _ _ (nx k hk)]
     exact g' (nmi (h.y k hk) (by intro e;cases e)) (up (h.y k hk))
    .dsimp only
     rw[bX]
     exact g' (by lia) i0
   .rcases mem' hk with hk | rfl
    .dsimp only
     rw[bg _ _ (nx k hk)]
     exact g' (nmi (h.z k hk) (by intro e;cases e)) (up (h.z k hk))
    .dsimp only
     rw[bX,o2]
     exact g' (by lia) i2
   .have lt:∀k∈t.ns,t.jx k < os.length:=fun k hk=>h.lt (.inr (.inr (.inr ⟨k,hk,.inr (.inr rfl)⟩)))
    dsimp only at e
    rcases mem' ha with ha1 | ha1 <;> rcases mem' hb with hb1 | hb1
    .rw[bg _ _ (nx a ha1),bg _ _ (nx b hb1)] at e
     exact h.inj a ha1 b hb1 e
    .rw[hb1,bg _ _ (nx a ha1),bX] at e
     have:=lt a ha1;lia
    .rw[ha1,bg _ _ (nx b hb1),bX] at e
     have:=lt b hb1;lia
    .rw[ha1,hb1]
   .rcases mem' hk with hk | rfl
    .exact h.n8 k hk
    .exact hm
   .rw[LQ]
    exact⟨h.nd,by simp,fun a ha b hb=>by simp at hb;subst hb;exact nx a ha⟩
   .exact h.out k fun q=>hk (KD _ q)
  .intro i o e f
   refine⟨g' (fun q=>f (.inr (.inr (.inl q)))) (up e),?_⟩
   have li:=(List.getElem?_eq_some_iff.mp e).1
   rintro(q | q | q | ⟨k,hk,q⟩)
   .exact f (.inl q)
   .exact f (.inr (.inl q))
   .exact f (.inr (.inr (.inl q)))
   .unfold ins at hk
    dsimp only at hk q
    rw[if_neg hin] at hk
    rcases mem' hk with hk | rfl
    .rw[bg _ _ (nx k hk),bg _ _ (nx k hk),bg _ _ (nx k hk)] at q
     exact f (.inr (.inr (.inr ⟨k,hk,q⟩)))
    .rw[bX,bX,bX] at q
     lia
theorem a9 {a b:O} (h:os[i]?=some a) (k:os[j]?=some b) (ne:a≠b):i≠j:=fun e=>ne (by subst e;rw[h] at k;exact Lu k)
theorem Cw {d':Nat} {x':Str} {n n':Int} {j':Nat} (h:gK d x n j=gK d' x' n' j'):x=x':=by
 unfold gK at h
 injection h with _ _ h
 injection h with h _
 injection h with h
 injection h
theorem SA.ixne (h:SA os t) (hm:m∈t.ns) (hk:k∈t.ns) (ne:k≠m):t.ix k≠t.ix m:=
 a9 (h.x k hk) (h.x m hm) fun e=>ne (gu k (h.n8 k hk) m (h.n8 m hm) (Cw e))
theorem SA.gnp (h:SA os t) (hm:m∈t.ns):aj (aa w) D (.ref (t.ix m)) "npredecessors" os (.int (t.np m)) os:=aj.slot (g:=aa w) (h.x m hm) (h.y m hm) rfl (fo w.params).2.1 rfl
theorem SA.gsu (h:SA os t) (hm:m∈t.ns):aj (aa w) D (.ref (t.ix m)) "successors" os (.ref (t.jx m)) os:=aj.slot (g:=aa w) (h.x m hm) (h.y m hm) rfl (fo w.params).2.2 rfl
theorem SA.snp (h:SA os t) (hm:m∈t.ns) (v:Int):az (aa w) D (.ref (t.ix m)) "npredecessors" (.int v) os (os.set (t.ix m) (gK (t.dx m) (wdN m) v (t.jx m))):=
 az.slot (g:=aa w) (v:=.int v) (h.x m hm) (h.y m hm) (fo w.params).2.1
theorem SA.mth (h:SA os t) {name:Str} {f:Kj} (hm:mt 174 name=some f) (hl:(cQ t.mi t.rd t.po t.nf).lookup name=none):an (aa w) (.ref t.si) name os (.top (.ref f)):=by
 obtain⟨n,e⟩:=h.d
 exact an.own (g:=aa w) h.s e hl (mt_ok w.params _ _ _ hm).1 (mt_ok w.params _ _ _ hm).2
theorem SA.setNp (h:SA os t) (hm:m∈t.ns) (v:Int):SA (os.set (t.ix m) (gK (t.dx m) (wdN m) v (t.jx m))) { t with np:=bw t.np m v }/\cw os t (os.set (t.ix m) (gK (t.dx m) (wdN m) v (t.jx m))) { t with np:=bw t.np m v }:=by
 have il:t.ix m < os.length:=h.lt (.inr (.inr (.inr ⟨m,hm,.inl rfl⟩)))
 have hx:=h.x m hm
 have k:∀{i:Nat} {o:O},os[i]?=some o->i≠t.ix m->(os.set (t.ix m) (gK (t.dx m) (wdN m) v (t.jx m)))[i]?=some o:=fun e q=>by rw[ay q];exact e
 refine⟨⟨k h.s (a9 h.s hx nofun),?_,k h.m (a9 h.m hx nofun),fun a ha=>?_,fun a ha=>k (h.y a ha) (a9 (h.y a ha) hx nofun),fun a ha=>k (h.z a ha) (a9 (h.z a ha) hx nofun),h.inj,h.n8,h.nd,fun a ha=>?_⟩,fun i o e f=>⟨k e fun q=>f (.inr (.inr (.inr ⟨m,hm,.inl q⟩))),f⟩⟩
 .obtain⟨n,e⟩:=h.d
  exact⟨n,k e (a9 e hx nofun)⟩
 .dsimp only
  by_cases q:a=m
  .subst q
   rw[bX]
   exact aT il
  .rw[bg _ _ q]
   exact k (h.x a ha) (h.ixne hm ha q)
 .obtain⟨q1,q2⟩:=h.out a ha
  exact⟨by dsimp only;rw[bg _ _ fun q=>ha (by rw[q];exact hm)];exact q1,q2⟩
theorem SA.setSu (h:SA os t) (hm:m∈t.ns) (l:List Nat):SA (os.set (t.jx m) (.list (mkW l))) { t with su:=bw t.su m l }/\cw os t (os.set (t.jx m) (.list (mkW l))) { t with su:=bw t.su m l }:=by
 have il:t.jx m < os.length:=h.lt (.inr (.inr (.inr ⟨m,hm,.inr (.inr rfl)⟩)))
 have hx:=h.z m hm
 have k:∀{i:Nat} {o:O},os[i]?=some o->i≠t.jx m->(os.set (t.jx m) (.list (mkW l)))[i]?=some o:=fun e q=>by rw[ay q];exact e
 refine⟨⟨k h.s (a9 h.s hx nofun),?_,k h.m (a9 h.m hx nofun),fun a ha=>k (h.x a ha) (a9 (h.x a ha) hx nofun),fun a ha=>k (h.y a ha) (a9 (h.y a ha) hx nofun),fun a ha=>?_,h.inj,h.n8,h.nd,fun a ha=>?_⟩,fun i o e f=>⟨k e fun q=>f (.inr (.inr (.inr ⟨m,hm,.inr (.inr q)⟩))),f⟩⟩
 .obtain⟨n,e⟩:=h.d
  exact⟨n,k e (a9 e hx nofun)⟩
 .dsimp only
  by_cases q:a=m
  .subst q
   rw[bX]
   exact aT il
  .rw[bg _ _ q]
   exact k (h.z a ha) fun e=>q (h.inj a ha m hm e)
 .obtain⟨q1,q2⟩:=h.out a ha
  exact⟨q1,by dsimp only;rw[bg _ _ fun q=>ha (by rw[q];exact hm)];exact q2⟩
theorem oQ {vs:List V} {xs:List Kd} {n:Str} (hv:ae (RelV ρ) vs xs) (hb:ae (ch ρ) bs cs) (hz:xs.length <=1000) :
  Lf g D os ρ (newTuple xs >>=fun t=>pure (cs++[(n,t)])) (fun ρ' z=>ae (ch ρ') (bs++[(n,.ref os.length)]) z) (os++[.tuple vs]):=fun A s hr hh hK=>by
 refine J7 (wpAny_newTuple (Kb ?_) (by rw[K4];lia))
 obtain⟨ρ',r,h1,go⟩:=oW (tk:=s.toks) hh hK (Km _) (fun b o e=>Ki _ e) (Ku _ rfl) (o:=.tuple vs) ⟨xs.toArray,0,rfl,hv.mono fun _ _=>RelV.mono⟩
 obtain⟨ν,e,_⟩:=go.pre
 exact⟨ρ',ae.append (.cons ⟨rfl,r⟩ .nil) (hb.mono fun _ _ q=>⟨q.1,e▸q.2.mono⟩),h1,go⟩
noncomputable def nC:List Kz:=(aM 14 2).2.1
theorem FA:∀x y,K2 dM ⟨[x,y],[]⟩=(newTuple [] >>=fun t=>pure ([(J8 "self",x),(J8 "node",y)]++[(J8 "predecessors",t)])):=fun x y=>∅
theorem DU:∀x y z,K2 dM ⟨[x,y,z],[]⟩=(newTuple [z] >>=fun t=>pure ([(J8 "self",x),(J8 "node",y)]++[(J8 "predecessors",t)])):=fun x y z=>∅
noncomputable def lA (si:Nat) (x:Str) (ti:Nat):List (Str×V):=[("self",.ref si),("node",.str x),("predecessors",.ref ti)]
theorem zm:bf g D dM [.ref si,.str x] [] os (lA si x os.length) (os++[.tuple []]):=fun ρ xs ks hx hk=>by
 cases hk
 cases hx with
 | cons r rs=>cases rs with
  | cons r' rs=>
   cases rs
   show Lf g D os ρ (K2 dM ⟨[_,_],[]⟩) _ _
   rw[FA]
   exact oQ (vs:=[]) .nil (.cons ⟨rfl,r⟩ (.cons ⟨rfl,r'⟩ .nil)) (by simp)
theorem Ag {y:Str}:bf g D dM [.ref si,.str x,.str y] [] os (lA si x os.length) (os++[.tuple [.str y]]):=fun ρ xs ks hx hk=>by
 cases hk
 cases hx with
 | cons r rs=>cases rs with
  | cons r' rs=>cases rs with
   | cons r2 rs=>
    cases rs
    show Lf g D os ρ (K2 dM ⟨[_,_,_],[]⟩) _ _
    rw[DU]
    exact oQ (vs:=[.str y]) (.cons r2 .nil) (.cons ⟨rfl,r⟩ (.cons ⟨rfl,r'⟩ .nil)) (by simp)
noncomputable def lA2 (si:Nat) (x:Str) (ti i:Nat) (tl:List (Str×V)):List (Str×V):=("self",.ref si)::("node",.str x)::("predecessors",.ref ti)::("nodeinfo",.ref i)::tl
noncomputable def ia:V:=.top (.ref 117)
theorem qt (w:J9) (si ti i k:Nat) (x:Str) (np:Int) (os os1 os2:List O) (h0:aj (aa w) 3 (.ref si) "_ready_nodes" os .none os) (h1:an (aa w) (.ref si) "_get_nodeinfo" os ia) (h2:Cl (aa w) 3 ia [.ref si,.str x] [] os (.ref i) os1)
  (h3:aj (aa w) 3 (.ref i) "npredecessors" os1 (.int np) os1) (h4:Cl (aa w) 3 (.top (.builtin "len")) [.ref ti] [] os1 (.int k) os1) (h5:az (aa w) 3 (.ref i) "npredecessors" (.int (np + k)) os1 os2) :
  Exs (aa w) 3 dM.scope ⟨os,lA si x ti⟩ (nC.take 3) .next ⟨os2,lA2 si x ti i []⟩:=
 bq (hk:={ m:=[(85,19,85,43,ia)],c:=[(85,19,85,43,fun _ _ _=>(.ref i,os1)),(86,34,86,51,fun _ _ os=>(.int k,os))] }) (X:={ XU w 3 [("_ready_nodes",.none),("npredecessors",.int np)] with ys:=jv [("npredecessors",fun _ _ _=>os2)] })
  (c:=[.p (aj (aa w) 3 (.ref si) "_ready_nodes" os .none os),.p (an (aa w) (.ref si) "_get_nodeinfo" os ia),.p (Cl (aa w) 3 ia [.ref si,.str x] [] os (.ref i) os1),.p (aj (aa w) 3 (.ref i) "npredecessors" os1 (.int np) os1),
   .p (Cl (aa w) 3 (.top (.builtin "len")) [.ref ti] [] os1 (.int k) os1),.p (az (aa w) 3 (.ref i) "npredecessors" (.int (np + k)) os1 os2)]) ∅ ⟨h0,h1,h2,h3,h4,h5,trivial⟩
noncomputable def gH:Kz:=ah nC 3
theorem ou:nC=nC.take 3++[gH]:=∅
theorem s8:gH=.For (sN 1 gH) (sN 0 gH) (af gH) [] (sP gH):=∅
theorem qH (w:J9) (si ti i:Nat) (x:Str) (os:List O):Ev (aa w) 3 dM.scope ⟨os,lA2 si x ti i []⟩ (sN 0 gH) (.ref ti) ⟨os,lA2 si x ti i []⟩:=aC (X:=X0 w 3 aq) ∅
theorem zf (w:J9) (si ti i j l:Nat) (x y:Str) (os os1 os2:List O) (h1:an (aa w) (.ref si) "_get_nodeinfo" os ia) (h2:Cl (aa w) 3 ia [.ref si,.str y] [] os (.ref j) os1) (h3:aj (aa w) 3 (.ref j) "successors" os1 (.ref l) os1)
  (h4:an (aa w) (.ref l) "append" os1 bL) (h5:Cl (aa w) 3 bL [.ref l,.str x] [] os1 .none os2) :
  Exs (aa w) 3 dM.scope ⟨os,lA2 si x ti i [("pred",.str y)]⟩ (af gH) .next ⟨os2,lA2 si x ti i [("pred",.str y),("pred_info",.ref j)]⟩:=
 bq (hk:={ m:=[(88,24,88,48,ia),(89,12,89,45,bL)],c:=[(88,24,88,48,fun _ _ _=>(.ref j,os1)),(89,12,89,45,fun _ _ _=>(.none,os2))] }) (X:=XU w 3 [("successors",.ref l)])
  (c:=[.p (an (aa w) (.ref si) "_get_nodeinfo" os ia),.p (Cl (aa w) 3 ia [.ref si,.str y] [] os (.ref j) os1),.p (aj (aa w) 3 (.ref j) "successors" os1 (.ref l) os1),.p (an (aa w) (.ref l) "append" os1 bL),.p (Cl (aa w) 3 bL [.ref l,.str x] [] os1 .none os2)]) ∅ ⟨h1,h2,h3,h4,h5,trivial⟩
theorem Bi:([J8 "self",J8 "node",J8 "predecessors"]:List Str).Nodup:=by decide +kernel
theorem rI:mt 174 "_get_nodeinfo"=some 117:=∅
theorem pE (x:Str) (si ti:Nat):(∀y∈lA si x ti,dM.scope.names.lookup y.1=some .local\/dM.scope.names.lookup y.1=some .cell)/\((lA si x ti).map (·.1)).Nodup:=⟨fun y hy=>by
 simp only[lA,Ka,Kf,or_false] at hy
 rcases hy with rfl | rfl | rfl <;> exact .inl ∅,Bi⟩
theorem j3:m∈ins ns m:=by
 unfold ins
 split
 .assumption
 .exact Kt _ (Kw.mpr rfl)
theorem mx (h:k∈ns):k∈ins ns m:=by
 unfold ins
 split
 .exact h
 .exact KD _ h
theorem ec (tl:List O):cw os t (os++tl) t:=fun i o e f=>⟨ab e,f⟩
set_option tactic.hygienic true in
theorem vp (f:Nat->β) (m:Nat):bw f m (f m)=f:=by
 funext k
 unfold bw
 split
 .rename_i h;rw[h]
 .rfl
theorem ze (w:J9) (h:SA os t) (h0:t.rd=.none) (hm:m < 8):∃os' ix dx jx,Cl (aa w) 4 (.top (.ref 124)) [.ref t.si,.str (wdN m)] [] os .none os'/\
  SA os' { t with ns:=ins t.ns m,ix:=ix,dx:=dx,jx:=jx }/\cw os t os' { t with ns:=ins t.ns m,ix:=ix,dx:=dx,jx:=jx }:=by
 have A0:=h.app [.tuple []]
 obtain⟨os1,ix,dx,jx,c,A1,k1⟩:=me w A0 hm
 have hmn:m∈ins t.ns m:=j3
 have tup0:(os++[O.tuple []])[os.length]?=some (.tuple []):=am _ _
 obtain⟨tup1,tw⟩:=k1 _ _ tup0 fun q=>KM _ (h.lt q)
 have hs:=A1.snp (w:=w) (D:=3) (m:=m) hmn (t.np m + ((0:Nat):Int))
 obtain⟨A2,k2⟩:=A1.setNp (m:=m) hmn (t.np m + ((0:Nat):Int))
 have e0:bw t.np m (t.np m + ((0:Nat):Int))=t.np:=by rw[Int.natCast_zero,Int.add_zero];exact vp _ _
 have run:=qt w t.si os.length (ix m) 0 (wdN m) (t.np m) _ _ _ (A0.ready0 h0) (A0.mth rI (by rw[h0];rfl)) c (A1.gnp hmn) (Cl.lenT (g:=aa w) tup1 (by simp)) hs
 have tup2:=(k2 _ _ tup1 tw).1
 have lp:=Ex.forRun (g:=aa w) (pos:=sP gH) (t:=sN 1 gH) (body:=af gH) (orelse:=[]) (fin:=.next) (qH w t.si os.length (ix m) (wdN m) _) (aZ.tuple tup2) (.stop (by unfold cj;rw[tup2];rfl) Exs.nil) (aD ∅)
 rw[<- s8] at lp
 obtain⟨q1,q2⟩:=pE (wdN m) t.si os.length
 have all:=Exs.app run (Exs.cons lp Exs.nil)
 rw[<- ou] at all
 have cc:=Cl.def_ (xD w) zm q1 q2 all rfl ⟨nofun,nofun⟩
 dsimp only at A2 k2
 rw[e0] at A2 k2
 exact⟨_,ix,dx,jx,cc,A2,((ec _).trans k1).trans k2⟩
theorem zW (w:J9) (h:SA os t) (h0:t.rd=.none) {o:Nat} (hm:m < 8) (ho:o < 8) (hl:(t.su o).length <=100):∃os' ix dx jx,Cl (aa w) 4 (.top (.ref 124)) [.ref t.si,.str (wdN m),.str (wdN o)] [] os .none os'/\
  SA os' { t with ns:=ins (ins t.ns m) o,ix:=ix,dx:=dx,jx:=jx,np:=bw t.np m (t.np m + 1),su:=bw t.su o (t.su o++[m]) }/\
  cw os t os' { t with ns:=ins (ins t.ns m) o,ix:=ix,dx:=dx,jx:=jx,np:=bw t.np m (t.np m + 1),su:=bw t.su o (t.su o++[m]) }:=by
 have A0:=h.app [.tuple [.str (wdN o)]]
 obtain⟨os1,ix,dx,jx,c,A1,k1⟩:=me w A0 hm
 have hmn:m∈ins t.ns m:=j3
 have tup0:(os++[O.tuple [.str (wdN o)]])[os.length]?=some (.tuple [.str (wdN o)]):=am _ _
 obtain⟨tup1,tw⟩:=k1 _ _ tup0 fun q=>KM _ (h.lt q)
 have hs:=A1.snp (w:=w) (D:=3) (m:=m) hmn (t.np m + ((1:Nat):Int))
 obtain⟨A2,k2⟩:=A1.setNp (m:=m) hmn (t.np m + ((1:Nat):Int))
 have run:=qt w t.si os.length (ix m) 1 (wdN m) (t.np m) _ _ _ (A0.ready0 h0) (A0.mth rI (by rw[h0];rfl)) c (A1.gnp hmn) (Cl.lenT (g:=aa w) tup1 (by simp)) hs
 obtain⟨tup2,tw2⟩:=k2 _ _ tup1 tw
 obtain⟨os3,ix3,dx3,jx3,c3,A3,k3⟩:=me w A2 ho
 have hon:o∈ins (ins t.ns m) o:=j3
 have hz:=A3.z o hon
 have ap:=Cl.append (g:=aa w) (D:=3) (v:=.str (wdN m)) hz (by rw[aG];exact Lh hl (by decide))
 have e2:mkW (t.su o++[m])=mkW (t.su o)++[.str (wdN m)]:=by simp[mkW]
 dsimp only at ap
 rw[<- e2] at ap
 obtain⟨A4,k4⟩:=A3.setSu hon (t.su o++[m])
 obtain⟨tup3,tw3⟩:=k3 _ _ tup2 tw2
 obtain⟨tup4,tw4⟩:=k4 _ _ tup3 tw3
 have body:=zf w t.si os.length (ix m) (ix3 o) (jx3 o) (wdN m) (wdN o) _ _ _ (A2.mth rI (by rw[h0];rfl)) c3 (A3.gsu hon) (an.listM hz Md Mc) ap
 have n0:cj os.length 0 (os1.set (ix m) (gK (dx m) (wdN m) (t.np m + ((1:Nat):Int)) (jx m)))=some (some (.str (wdN o))):=by unfold cj;rw[tup2];rfl
 have lp:=Ex.forRun (g:=aa w) (pos:=sP gH) (t:=sN 1 gH) (body:=af gH) (orelse:=[]) (fin:=.next) (qH w t.si os.length (ix m) (wdN m) _) (aZ.tuple tup2)
  (.turn n0 (aX.nameE (x:="pred") ⟨eP (sN 1 gH),∅⟩ (.inl ∅)) body (.inl rfl) (.stop (by unfold cj;rw[tup4];rfl) Exs.nil)) (aD ∅)
 rw[<- s8] at lp
 obtain⟨q1,q2⟩:=pE (wdN m) t.si os.length
 have all:=Exs.app run (Exs.cons lp Exs.nil)
 rw[<- ou] at all
 have cc:=Cl.def_ (xD w) Ag q1 q2 all rfl ⟨nofun,nofun⟩
 exact⟨_,ix3,dx3,jx3,cc,A4,(((ec _).trans k1).trans k2).trans (k3.trans k4)⟩
theorem Ev.rev {st:Expr} {p:Pos} {xs:List V} (h1:Ev g D sc σ value (.ref i) σ₁) (h2:Ev g D sc σ₁ st (.int (-1)) σ₁) (ho:σ₁.os[i]?=some (.list xs)) (hz:xs.length <=1000) :
  Ev g D sc σ (.Subscript value (.Slice none none (some st) p) pos) (.ref σ₁.os.length) ⟨σ₁.os++[.list xs.reverse],σ₁.loc⟩:=fun A env ρ s he hr hs=>by
 refine MQ (h1.use he hr hs fun x s1 ρ1 rx st1 g1=>?_)
 show J6 _ _ (do
  let l <- LF (Mr none env)
  let u <- K3 [l] (LF (Mr none env))
  let s <- K3 [l,u] (LF (Mr (some st) env))
  newFields "slice" [l,u,s]) _ _ _
 refine J7 (Kb (J7 (KQ (Kb ?_))))
 refine J7 (KQ ((qO h2).use he hr st1 fun z s3 ρ3 rz st₃ g3=>?_))
 obtain⟨tk,rfl⟩:=rz
 obtain⟨a,vs,n,rfl,ha,e,r⟩:=st₃.hr.list ho (rx.go g3)
 have len:vs.size=xs.length:=by rw[<- KH];exact r.length
 refine L7 ?_
 have hL:({ s3 with heap:=s3.heap.push { cls:=.type "slice",data:=.fields #[.none,.none,.int (-1) tk] } }:Kl).heap.IsList a vs:=(ax e).push _
 refine LB (ops:=[.ref a,.ref s3.heap.objs.size]) hL.typeIs slot_list_getitem.lookup (Nk hL (NZ ..) .none .none (.int (-1) tk) (by simp) ?_ (by rw[len,K4];lia)) rfl
 rw[krv_pick]
 obtain⟨ρ',q1,q2,q3⟩:=rC (tk:=s3.toks) (a:=(s3.heap.push { cls:=.type "slice",data:=.fields #[.none,.none,.int (-1) tk] }).objs.size) (o:=.list xs.reverse) st₃.hr st₃.k
  (fun b o eb=>KJ (Ki _ eb)) (fun b o eb=>Ki _ (Ki _ eb)) (Ku _ rfl) ⟨vs.toList.reverse.toArray,0,rfl,by
   rw[List.toList_toArray]
   exact(ae.reverse r).mono fun _ _=>RelV.mono⟩
 exact⟨ρ',q1,⟨q2,st₃.er.go q3,bY (ow:=[]) st₃.k st₃.hr (fun _ h=>(nomatch h)) q3⟩,(g1.trans g3).trans q3.nil⟩
noncomputable def fB:List Kz:=(bt 45).2.1
noncomputable def dj:Kz:=ah fB 1
noncomputable def v0:Kz:=ah (af dj) 0
noncomputable def d8:Kz:=ah (af dj) 1
noncomputable def fO:Kz:=ah (af d8) 0
noncomputable def rM:Kz:=ah (af d8) 1
theorem Cp:dj=.For (sN 1 dj) (sN 0 dj) (af dj) [] (sP dj):=∅
theorem y6:d8=.For (sN 1 d8) (sN 0 d8) (af d8) [] (sP d8):=∅
theorem CZ:af dj=[v0,d8]:=∅
theorem y8:af d8=[fO,rM]:=∅
noncomputable def lT (ui si ai ti:Nat) (tl:List (Str×V)):List (Str×V):=("words",.ref ui)::("sorter",.ref si)::("waiting",.ref ai)::("told",.ref ti)::tl
noncomputable def lT2 (ui si ai ti m:Nat) (tl:List (Str×V)):List (Str×V):=lT ui si ai ti (("word",.str (wdN m))::tl)
noncomputable def JY:Expr:=eN 0 (sN 0 fO)
noncomputable def IC:Expr:=eN 1 (sN 0 fO)
noncomputable def pt:Expr:=eN 1 JY
noncomputable def pJ:Expr:=eN 1 IC
noncomputable def nR (x:Str) (k:Nat):Str:=⟨#[x.cps.getD k 0]⟩
noncomputable def upL (x:Str):List V:=((K0 x.cps.size).filter fun k=>NY (nR x k)).map fun k=>.str (nR x k)
theorem tV:∀m,m < 8->((upL (wdN m)).length:Int)=szN m:=by decide +kernel
theorem Bx:pt=fb ar.scope pt:=∅
theorem Dx:pJ=fb ar.scope pJ:=∅
set_option tactic.hygienic true in
theorem Bo (x:Str) (k:Nat) (os:List O):gJ x k os=some (if k < x.cps.size then some (.str (nR x k)) else none):=by
 unfold gJ nR
 split
 .rename_i h
  rw[MG h];rfl
 .rename_i h
  rw[Array.getElem?_eq_none (Lv h)];rfl
theorem qM {ift:Expr} {loc:List (Str×V)} (he:e=fb ar.scope e) (hi:Ev (aa w) D ar.scope ⟨os,loc⟩ (ag e).iter (.str x) ⟨os,loc⟩) (h1:fP ar.scope (cSc ar.scope e) (ag e).iter=true)
  (h2:∃q,(ag e).target=.Name "sign" q) (h3:aK (compSc (cSc ar.scope e) ar.scope) "sign") (h4:kY (cSc ar.scope e).names=true) (h5:cl0 loc (cSc ar.scope e).names=[]) (h6:(ag e).ifs=[ift]) (hz:x.cps.size <=100)
  (t1:∀c os,Tr (aa w) D (compSc (cSc ar.scope e) ar.scope) ⟨os,[("sign",.str c)]⟩ ift (NY c) ⟨os,[("sign",.str c)]⟩)
  (t2:∀c os,Ev (aa w) D (compSc (cSc ar.scope e) ar.scope) ⟨os,[("sign",.str c)]⟩ (eN 0 e) (.str c) ⟨os,[("sign",.str c)]⟩) :
  Ev (aa w) D ar.scope ⟨os,loc⟩ e (.ref os.length) ⟨os++[.list (upL x)],loc⟩:=by
 obtain⟨l,hl,run⟩:=ba.fm (g:=aa w) (D:=D) (sc:=compSc (cSc ar.scope e) ar.scope) (t:=(ag e).target) (elt:=eN 0 e) (ifs:=(ag e).ifs) (x:="sign") (nx:=gJ x) (os:=os) (l0:=[]) (n:=x.cps.size) (w:=fun k=>.str (nR x k))
  (fun k=>NY (nR x k)) (fun k=>.str (nR x k)) h2 h3 (by rw[K4];lia) (fun k acc=>Bo x k _) (fun v u=>rfl)
  (fun k acc hk=>by rw[h6];exact .one (t1 _ _)) (fun k acc hk _=>t2 _ _)
 have:=Ev.compI (σ₁:=⟨os,loc⟩) (pos:=eP e) hi aZ.str h1 (by rw[h5];exact run) (fun y hy=>(dz h4 hy).elim)
 rw[he]
 exact this
noncomputable def tlG (m o:Nat) (tl:List (Str×V)):List (Str×V):=("word",.str (wdN m))::("other",.str (wdN o))::tl
theorem H8 (w:J9) (ui si ai ti m o:Nat) (tl:List (Str×V)) (os:List O) (ho:o < 8):Ev (aa w) 4 ar.scope ⟨os,lT ui si ai ti (tlG m o tl)⟩ pt (.ref os.length) ⟨os++[.list (upL (wdN o))],lT ui si ai ti (tlG m o tl)⟩:=
 qM (ift:=(ag pt).ifs.getD 0 default) Bx (aC (X:=X0 w 4 aq) ∅) ∅ ⟨eP (ag pt).target,∅⟩ (.inl ∅) ∅ ∅ ∅
  ((by decide +kernel:∀o,o < 8->(wdN o).cps.size <=100) o ho)
  (fun c os=>pA (X:=X0 w 4 aq) ∅) (fun c os=>aC (X:=X0 w 4 aq) ∅)
theorem Gs (w:J9) (ui si ai ti m o:Nat) (tl:List (Str×V)) (os:List O) (hm:m < 8):Ev (aa w) 4 ar.scope ⟨os,lT ui si ai ti (tlG m o tl)⟩ pJ (.ref os.length) ⟨os++[.list (upL (wdN m))],lT ui si ai ti (tlG m o tl)⟩:=
 qM (ift:=(ag pJ).ifs.getD 0 default) Dx (aC (X:=X0 w 4 aq) ∅) ∅ ⟨eP (ag pJ).target,∅⟩ (.inl ∅) ∅ ∅ ∅
  ((by decide +kernel:∀o,o < 8->(wdN o).cps.size <=100) m hm)
  (fun c os=>pA (X:=X0 w 4 aq) ∅) (fun c os=>aC (X:=X0 w 4 aq) ∅)
noncomputable def dH (os:List O) (o:Nat):List O:=os++[.list (upL (wdN o))]
noncomputable def osF2 (os:List O) (m o:Nat):List O:=dH os o++[.list (upL (wdN m))]
noncomputable def eO:V:=.top (.builtin "len")
theorem uB (w:J9) (ui si ai ti m o:Nat) (tl:List (Str×V)) (os:List O) (h1:Ev (aa w) 4 ar.scope ⟨os,lT ui si ai ti (tlG m o tl)⟩ pt (.ref os.length) ⟨dH os o,lT ui si ai ti (tlG m o tl)⟩)
  (h2:Cl (aa w) 4 eO [.ref os.length] [] (dH os o) (.int (szN o)) (dH os o)) (h3:Ev (aa w) 4 ar.scope ⟨dH os o,lT ui si ai ti (tlG m o tl)⟩ pJ (.ref (dH os o).length) ⟨osF2 os m o,lT ui si ai ti (tlG m o tl)⟩)
  (h4:Cl (aa w) 4 eO [.ref (dH os o).length] [] (osF2 os m o) (.int (szN m)) (osF2 os m o)) :
  Ev (aa w) 4 ar.scope ⟨os,lT ui si ai ti (tlG m o tl)⟩ (sN 0 fO) (.bool (decide (szN o < szN m))) ⟨osF2 os m o,lT ui si ai ti (tlG m o tl)⟩:=
 dp (hk:={ e:=[(939,24,939,66,fun σ=>(.ref σ.os.length,⟨dH σ.os o,σ.loc⟩)),(939,74,939,115,fun σ=>(.ref σ.os.length,⟨osF2 os m o,σ.loc⟩))],c:=[(939,20,939,67,fun _ _ os=>(.int (szN o),os)),(939,70,939,116,fun _ _ os=>(.int (szN m),os))] }) (X:=X0 w 4 aq)
  (c:=[.p (Ev (aa w) 4 ar.scope ⟨os,lT ui si ai ti (tlG m o tl)⟩ pt (.ref os.length) ⟨dH os o,lT ui si ai ti (tlG m o tl)⟩),.p (Cl (aa w) 4 eO [.ref os.length] [] (dH os o) (.int (szN o)) (dH os o)),
   .p (Ev (aa w) 4 ar.scope ⟨dH os o,lT ui si ai ti (tlG m o tl)⟩ pJ (.ref (dH os o).length) ⟨osF2 os m o,lT ui si ai ti (tlG m o tl)⟩),.p (Cl (aa w) 4 eO [.ref (dH os o).length] [] (osF2 os m o) (.int (szN m)) (osF2 os m o))]) ∅ ⟨h1,h2,h3,h4,trivial⟩
theorem v4 (w:J9) (ui si ai ti m o:Nat) (tl:List (Str×V)) (os:List O) (hm:m < 8) (ho:o < 8) :
  Ev (aa w) 4 ar.scope ⟨os,lT ui si ai ti (tlG m o tl)⟩ (sN 0 fO) (.bool (decide (szN o < szN m))) ⟨osF2 os m o,lT ui si ai ti (tlG m o tl)⟩:=by
 have u8:∀m,m < 8->((upL (wdN m)).length:Int) < 2 ^ 63:=by decide +kernel
 have l1:=Cl.lenL (g:=aa w) (D:=4) (os:=dH os o) (am os (.list (upL (wdN o)))) (u8 o ho)
 have l2:=Cl.lenL (g:=aa w) (D:=4) (os:=osF2 os m o) (am (dH os o) (.list (upL (wdN m)))) (u8 m hm)
 rw[tV o ho] at l1
 rw[tV m hm] at l2
 exact uB w ui si ai ti m o tl os (H8 w ui si ai ti m o tl os ho) l1 (Gs w ui si ai ti m o tl _ hm) l2
theorem Eo {ai:Nat} {tl:List (Str×V)} (h1:ui < n) (h2:si < n) (h3:ai < n) (h4:ti < n) (h5:∀p∈tl,bi n p.2=true):∀p∈lT ui si ai ti tl,bi n p.2=true:=fun q hq=>by
 simp only[lT,Ka] at hq
 rcases hq with rfl | rfl | rfl | rfl | hq
 .simp[bi,Lx];lia
 .simp[bi,Lx];lia
 .simp[bi,Lx];lia
 .simp[bi,Lx];lia
 .exact h5 q hq
noncomputable def fewT (b:Bool):List (Str×V):=[("fewer",.bool b)]
noncomputable def xx (tl:List (Str×V)):Prop:=tl=[]\/∃b,tl=fewT b
theorem CO {o:Nat} {tl:List (Str×V)} (h:xx tl):∀p∈tlG m o tl,bi n p.2=true:=fun q hq=>by
 simp only[tlG,Ka] at hq
 rcases hq with rfl | rfl | hq
 .rfl
 .rfl
 .rcases h with rfl | ⟨b,rfl⟩
  .cases hq
  .simp only[fewT,Ka,Kf,or_false] at hq
   subst hq
   rfl
theorem Au:fO=.Assign [.Name "fewer" (tG fO)] (sN 0 fO) (sP fO):=∅
theorem z5 (w:J9) (ui si ai ti m o:Nat) (tl:List (Str×V)) (os:List O) (hm:m < 8) (ho:o < 8) (htl:xx tl) (h1:ui < os.length) (h2:si < os.length) (h3:ai < os.length) (h4:ti < os.length) :
  Ex (aa w) 4 ar.scope ⟨os,lT ui si ai ti (tlG m o tl)⟩ fO .next ⟨os,lT ui si ai ti (tlG m o (fewT (decide (szN o < szN m))))⟩:=by
 have h:=v4 w ui si ai ti m o tl os hm ho
 have e:osF2 os m o=os++[.list (upL (wdN o)),.list (upL (wdN m))]:=by unfold osF2 dH;rw[KG];rfl
 rw[e] at h
 have h':=Ev.drop h (Eo h1 h2 h3 h4 (CO htl)) rfl
 rw[Au]
 have:=Ex.assign (px:=tG fO) (pos:=sP fO) (x:="fewer") h' (.inl ∅) ∅
 have el:put (lT ui si ai ti (tlG m o tl)) "fewer" (.bool (decide (szN o < szN m)))=lT ui si ai ti (tlG m o (fewT (decide (szN o < szN m)))):=by
  rcases htl with rfl | ⟨b,rfl⟩ <;> rfl
 rw[el] at this
 exact this
noncomputable def ij:V:=.top (.ref 124)
noncomputable def uQ (w:J9) (m o:Nat) (os:List O):Prop:=Cl (aa w) 4 (.top (.ref 58)) [.str (wdN m),.str (wdN o),.int 1] [] os (.int (levV m o 1)) os
theorem Dm (w:J9) (ui si ai ti m o:Nat) (os:List O):Exs (aa w) 4 ar.scope ⟨os,lT ui si ai ti (tlG m o (fewT false))⟩ [rM] .next ⟨os,lT ui si ai ti (tlG m o (fewT false))⟩:=
 jp (X:=X0 w 4 aq) ∅
theorem Do (w:J9) (ui si ai ti m o:Nat) (os:List O) (h1:(levV m o 1==1)=false) (h2:uQ w m o os):Exs (aa w) 4 ar.scope ⟨os,lT ui si ai ti (tlG m o (fewT true))⟩ [rM] .next ⟨os,lT ui si ai ti (tlG m o (fewT true))⟩:=
 iO (hk:={ c:=[(940,25,940,62,fun _ _ os=>(.int (levV m o 1),os))] }) (X:=X0 w 4 aq) (n:=12) (o:={ ts:=[(940,25,false)] }) (c:=[.b (levV m o 1==1) false,.p (uQ w m o os)]) ∅ ⟨h1,h2,trivial⟩
theorem B1 (w:J9) (ui si ai ti m o:Nat) (os os':List O) (h1:(levV m o 1==1)=true) (h2:uQ w m o os) (h3:an (aa w) (.ref si) "add" os ij) (h4:Cl (aa w) 4 ij [.ref si,.str (wdN m),.str (wdN o)] [] os .none os') :
  Exs (aa w) 4 ar.scope ⟨os,lT ui si ai ti (tlG m o (fewT true))⟩ [rM] .next ⟨os',lT ui si ai ti (tlG m o (fewT true))⟩:=
 iO (hk:={ m:=[(941,16,941,39,ij)],c:=[(940,25,940,62,fun _ _ os=>(.int (levV m o 1),os)),(941,16,941,39,fun _ _ _=>(.none,os'))] }) (X:=X0 w 4 aq) (n:=12) (o:={ ts:=[(940,25,true)] })
  (c:=[.b (levV m o 1==1) true,.p (uQ w m o os),.p (an (aa w) (.ref si) "add" os ij),.p (Cl (aa w) 4 ij [.ref si,.str (wdN m),.str (wdN o)] [] os .none os')]) ∅ ⟨h1,h2,h3,h4,trivial⟩
theorem yJ:∀m,m < 8->∀o,o < 8->(decide (szN o < szN m)&&(levV m o 1==1))=bK m o:=by decide +kernel
noncomputable def wM (t t':ci):Prop:=t'.si=t.si/\t'.di=t.di/\t'.mi=t.mi/\t'.rd=t.rd/\t'.po=t.po/\t'.nf=t.nf
theorem xy:mt 174 "add"=some 124:=∅
theorem D7 (w:J9) (ui ai ti m o:Nat) (tl:List (Str×V)) (os:List O) (t:ci) (A:SA os t) (h0:t.rd=.none) (hm:m < 8) (ho:o < 8) (htl:xx tl) (h1:ui < os.length) (h3:ai < os.length) (h4:ti < os.length) (hl:(t.su o).length <=100) (hmn:m∈t.ns) :
  ∃os' t' b,Exs (aa w) 4 ar.scope ⟨os,lT ui t.si ai ti (tlG m o tl)⟩ (af d8) .next ⟨os',lT ui t.si ai ti (tlG m o (fewT b))⟩/\SA os' t'/\cw os t os' t'/\wM t t'/\
   t'.ns=(if bK m o then ins t.ns o else t.ns)/\t'.np=(if bK m o then bw t.np m (t.np m + 1) else t.np)/\t'.su=(if bK m o then bw t.su o (t.su o++[m]) else t.su):=by
 have e3:=z5 w ui t.si ai ti m o tl os hm ho htl h1 (A.lt (.inl rfl)) h3 h4
 have hb:=yJ m hm o ho
 have lv:uQ w m o os:=(gC w m o 1 hm ho (by simp) os).up (by lia)
 rw[y8]
 cases hf:decide (szN o < szN m) with
 | false=>
  rw[hf] at e3 hb
  rw[<- hb]
  exact⟨os,t,false,Exs.cons e3 (Dm w ui t.si ai ti m o os),A,fun i o e f=>⟨e,f⟩,⟨rfl,rfl,rfl,rfl,rfl,rfl⟩,rfl,rfl,rfl⟩
 | true=>
  rw[hf,Bool.true_and] at hb
  rw[hf] at e3
  cases hq:(levV m o 1==1) with
  | false=>
   rw[hq] at hb
   rw[<- hb]
   exact⟨os,t,true,Exs.cons e3 (Do w ui t.si ai ti m o os hq lv),A,fun i o e f=>⟨e,f⟩,⟨rfl,rfl,rfl,rfl,rfl,rfl⟩,rfl,rfl,rfl⟩
  | true=>
   rw[hq] at hb
   rw[<- hb]
   obtain⟨os',ix,dx,jx,c,A',k⟩:=zW w A h0 hm ho hl
   refine⟨os',_,true,Exs.cons e3 (B1 w ui t.si ai ti m o os os' hq lv (A.mth xy (by rw[h0];rfl)) c),A',k,⟨rfl,rfl,rfl,rfl,rfl,rfl⟩,?_,rfl,rfl⟩
   show ins (ins t.ns m) o=ins t.ns o
   unfold ins
   rw[if_pos hmn]
noncomputable def mU (ms P:List Nat):Nat->Int:=fun x=>if x∈P then((bel ms x).length:Int) else 0
noncomputable def mH (ms P:List Nat):Nat->List Nat:=fun o=>if o∈ms then P.filter (fun x=>bK x o) else[]
noncomputable def kg (ms P:List Nat) (m:Nat) (Q:List Nat):Nat->Int:=fun x=>if x∈P then((bel ms x).length:Int) else if x=m then((Q.filter (bK m)).length:Int) else 0
noncomputable def jN (ms P:List Nat) (m:Nat) (Q:List Nat):Nat->List Nat:=fun o=>if o∈ms then P.filter (fun x=>bK x o)++(if Q.contains o&&bK m o then[m] else[]) else[]
theorem D4 {P:List Nat}:kg ms P m []=mU ms P:=by
 funext x
 unfold kg mU
 split
 .rfl
 .split <;> rfl
theorem DW {P:List Nat}:jN ms P m []=mH ms P:=by
 funext o
 unfold jN mH
 split
 .simp
 .rfl
theorem zD {P:List Nat}:kg ms P m ms=mU ms (P++[m]):=by
 funext x
 unfold kg mU
 by_cases h:x∈P
 .simp[h]
 .by_cases e:x=m
  .subst e;simp[h,bel]
  .simp[h,e]
theorem z9 {P:List Nat}:jN ms P m ms=mH ms (P++[m]):=by
 funext o
 unfold jN mH
 by_cases h:o∈ms
 .rw[if_pos h,if_pos h,Mw]
  have:ms.contains o=true:=by simpa using h
  rw[this,Bool.true_and]
  cases hb:bK m o <;> simp[hb]
 .rw[if_neg h,if_neg h]
theorem wN {P Q:List Nat} {o:Nat} (hm:m∉P):(if bK m o then bw (kg ms P m Q) m (kg ms P m Q m + 1) else kg ms P m Q)=kg ms P m (Q++[o]):=by
 funext x
 unfold kg
 rw[Mw]
 cases hb:bK m o with
 | false=>simp[hb]
 | true=>
  simp only[if_true]
  by_cases e:x=m
  .subst e
   rw[bX,if_neg hm,if_pos rfl,if_neg hm]
   simp[hb]
  .rw[bg _ _ e]
   simp[e]
theorem wq {P Q:List Nat} {o:Nat} (ho:o∈ms) (hq:o∉Q):(if bK m o then bw (jN ms P m Q) o (jN ms P m Q o++[m]) else jN ms P m Q)=jN ms P m (Q++[o]):=by
 funext x
 unfold jN
 cases hb:bK m o with
 | false=>
  simp only[LJ,if_false]
  by_cases e:x=o
  .subst e;simp[hb]
  .simp[e]
 | true=>
  simp only[if_true]
  by_cases e:x=o
  .subst e
   rw[bX,if_pos ho,if_pos ho]
   simp[hq,hb]
  .rw[bg _ _ e]
   simp[e]
theorem cn (hk:k < ms.length):ms.take (k + 1)=ms.take k++[ms.getD k 0]:=by
 rw[List.take_add_one,Kc hk,Kh,Kc hk];rfl
theorem iX (nd:ms.Nodup) (hk:k < ms.length):ms.getD k 0∉ms.take k:=fun h=>by
 have h2:(ms.take (k + 1)).Nodup:=nd.sublist (List.take_sublist _ _)
 rw[cn hk,LQ] at h2
 exact h2.2.2 _ h _ (Kw.mpr rfl) rfl
noncomputable def Dn (rest:List (Str×V)):Prop:=rest=[]\/∃(o:Nat) (b:Bool),rest=((J8 "other"),V.str (wdN o))::fewT b
structure GI (os0:List O) (t0:ci) (ui ai ti:Nat) (ms P:List Nat) (m:Nat) (Q:List Nat) (σ:S):Prop where
 ex:∃(t:ci) (rest:List (Str×V)),σ.loc=lT2 ui t.si ai ti m rest/\Dn rest/\SA σ.os t/\cw os0 t0 σ.os t/\wM t0 t/\t.np=kg ms P m Q/\t.su=jN ms P m Q/\(∀x∈t.ns,x∈ms)/\(∀x∈P,x∈t.ns)/\m∈t.ns
theorem vJ (w:J9) (h8:∀m∈ms,m < 8) (nd:ms.Nodup) (hn:ms.length <=60) {P:List Nat} (hP:P.length <=60) (hm:m∈ms) (hmP:m∉P) (ui ai ti:Nat) (os0:List O) (t0:ci) (hr:t0.rd=.none) (f1:¬ Ow t0 ui) (hu:os0[ui]?=some (.list (mkW ms)))
  (h3:∃o,os0[ai]?=some o) (f3:¬ Ow t0 ai) (h4:∃o,os0[ti]?=some o) (f4:¬ Ow t0 ti) (σ:S) (I:GI os0 t0 ui ai ti ms P m [] σ) :
  ∃σe,GI os0 t0 ui ai ti ms P m ms σe/\Ex (aa w) 4 ar.scope σ d8 .next σe:=by
 have mem:∀k,k < ms.length->ms.getD k 0∈ms:=fun k hk=>by rw[Kh,Kc hk];exact Lk hk
 have hget:∀k,k < ms.length->ms[k]?=some (ms.getD k 0):=fun k hk=>by rw[Kh,Kc hk];rfl
 obtain⟨σe,he,run⟩:=bH.inv (g:=aa w) (D:=4) (sc:=ar.scope) (t:=sN 1 d8) (body:=af d8) (nx:=cg ui) (n:=ms.length) (fun k σ=>GI os0 t0 ui ai ti ms P m (ms.take k) σ)
  (fun k σ hk I=>by
   obtain⟨os,loc⟩:=σ
   obtain⟨t,rest,hloc,hrest,A,kp,sm,hO'⟩:=I.ex
   obtain⟨hnp,hsu,hsub,hPn,hmn⟩:=hO'
   dsimp only at hloc A kp
   subst hloc
   obtain⟨hu',_⟩:=kp _ _ hu f1
   obtain⟨oa,ha⟩:=h3
   obtain⟨ot,ht⟩:=h4
   have l1:=(List.getElem?_eq_some_iff.mp hu').1
   have l3:=(List.getElem?_eq_some_iff.mp (kp _ _ ha f3).1).1
   have l4:=(List.getElem?_eq_some_iff.mp (kp _ _ ht f4).1).1
   have ob':∃tl,xx tl/\put (lT2 ui t.si ai ti m rest) "other" (.str (wdN (ms.getD k 0)))=lT ui t.si ai ti (tlG m (ms.getD k 0) tl):=by
    rcases hrest with rfl | ⟨o,b,rfl⟩
    .exact⟨[],.inl rfl,rfl⟩
    .exact⟨fewT b,.inr ⟨b,rfl⟩,rfl⟩
   obtain⟨tl,htl,hput⟩:=ob'
   have hlen:(t.su (ms.getD k 0)).length <=100:=by
    rw[hsu]
    unfold jN
    rw[if_pos (mem k hk),KC]
    have h1:=LC (fun x=>bK x (ms.getD k 0)) P
    split
    .rw[Mm];lia
    .rw[Mp];lia
   obtain⟨os',t',b,ex,A',k',sm',hO'⟩:=D7 w ui ai ti m (ms.getD k 0) tl os t A (sm.2.2.2.1.trans hr) (h8 m hm) (h8 _ (mem k hk)) htl l1 l3 l4 hlen hmn
   obtain⟨e1,e2,e3⟩:=hO'
   refine⟨.str (wdN (ms.getD k 0)),⟨os,lT ui t.si ai ti (tlG m (ms.getD k 0) tl)⟩,⟨os',lT ui t.si ai ti (tlG m (ms.getD k 0) (fewT b))⟩,?_,?_,ex,⟨t',_,?_,.inr ⟨ms.getD k 0,b,rfl⟩,A',kp.trans k',?_,?_,?_,fun x hx=>?_,fun x hx=>?_,?_⟩⟩
   .rw[bv hu',cL (hget k hk)]
   .rw[<- hput]
    exact aX.nameE ⟨eP (sN 1 d8),∅⟩ (.inl ∅)
   .show lT ui t.si ai ti _=lT2 ui t'.si ai ti m _
    rw[sm'.1];rfl
   .obtain⟨a1,a2,a3,a4,a5,a6⟩:=sm
    obtain⟨b1,b2,b3,b4,b5,b6⟩:=sm'
    exact⟨b1.trans a1,b2.trans a2,b3.trans a3,b4.trans a4,b5.trans a5,b6.trans a6⟩
   .rw[e2,hnp,cn hk];exact wN hmP
   .rw[e3,hsu,cn hk];exact wq (mem k hk) (iX nd hk)
   .rw[e1] at hx
    split at hx
    .unfold ins at hx
     split at hx
     .exact hsub x hx
     .rcases List.mem_append.mp hx with q | q
      .exact hsub x q
      .rw[Kw.mp q];exact mem k hk
    .exact hsub x hx
   .rw[e1]
    split
    .exact mx (hPn x hx)
    .exact hPn x hx
   .rw[e1]
    split
    .exact mx hmn
    .exact hmn)
  (fun σ I=>by
   obtain⟨t,rest,hloc,hrest,A,kp,_⟩:=I.ex
   rw[bv (kp _ _ hu f1).1]
   exact congrArg some (Kv (by rw[aG];exact Km _)))
  ms.length 0 σ (by lia) I
 rw[M4] at he
 refine⟨σe,he,?_⟩
 obtain⟨os,loc⟩:=σ
 obtain⟨t,rest,hloc,hrest,A,kp,_⟩:=I.ex
 dsimp only at hloc kp
 subst hloc
 have it:Ev (aa w) 4 ar.scope ⟨os,lT2 ui t.si ai ti m rest⟩ (sN 0 d8) (.ref ui) ⟨os,lT2 ui t.si ai ti m rest⟩:=aC (X:=X0 w 4 aq) ∅
 rw[y6]
 exact Ex.forRun it (aZ.list (kp _ _ hu f1).1) run (aD ∅)
theorem uS (w:J9) (ui si ai ti m:Nat) (rest:List (Str×V)) (os os':List O) (h3:an (aa w) (.ref si) "add" os ij) (h4:Cl (aa w) 4 ij [.ref si,.str (wdN m)] [] os .none os') :
  Exs (aa w) 4 ar.scope ⟨os,lT2 ui si ai ti m rest⟩ [v0] .next ⟨os',lT2 ui si ai ti m rest⟩:=
 bq (hk:={ m:=[(937,8,937,24,ij)],c:=[(937,8,937,24,fun _ _ _=>(.none,os'))] }) (X:=X0 w 4 aq)
  (c:=[.p (an (aa w) (.ref si) "add" os ij),.p (Cl (aa w) 4 ij [.ref si,.str (wdN m)] [] os .none os')]) ∅ ⟨h3,h4,trivial⟩
structure GO (os0:List O) (t0:ci) (ui ai ti:Nat) (ms P:List Nat) (σ:S):Prop where
 ex:∃(t:ci) (rest:List (Str×V)),σ.loc=lT ui t.si ai ti rest/\(rest=[]\/∃(m:Nat) (r:List (Str×V)),rest=((J8 "word"),V.str (wdN m))::r/\Dn r)/\SA σ.os t/\cw os0 t0 σ.os t/\wM t0 t/\t.np=mU ms P/\t.su=mH ms P/\(∀x∈t.ns,x∈ms)/\(∀x∈P,x∈t.ns)
theorem rH (w:J9) (h8:∀m∈ms,m < 8) (nd:ms.Nodup) (hn:ms.length <=60) {P:List Nat} (hP:P.length <=60) (hm:m∈ms) (hmP:m∉P) (ui ai ti:Nat) (os0:List O) (t0:ci) (hr:t0.rd=.none) (f1:¬ Ow t0 ui) (hu:os0[ui]?=some (.list (mkW ms)))
  (h3:∃o,os0[ai]?=some o) (f3:¬ Ow t0 ai) (h4:∃o,os0[ti]?=some o) (f4:¬ Ow t0 ti) (σ:S) (I:GO os0 t0 ui ai ti ms P σ) :
  ∃σ₁ σe,aX (aa w) 4 ar.scope σ (sN 1 dj) (.str (wdN m)) σ₁/\Exs (aa w) 4 ar.scope σ₁ (af dj) .next σe/\GO os0 t0 ui ai ti ms (P++[m]) σe:=by
 obtain⟨os,loc⟩:=σ
 obtain⟨t,rest,hloc,hrest,A,kp,sm,hO'⟩:=I.ex
 obtain⟨hnp,hsu,hsub,hPn⟩:=hO'
 dsimp only at hloc A kp
 subst hloc
 have ob':∃r,Dn r/\put (lT ui t.si ai ti rest) "word" (.str (wdN m))=lT2 ui t.si ai ti m r:=by
  rcases hrest with rfl | ⟨m',r,rfl,h⟩
  .exact⟨[],.inl rfl,rfl⟩
  .exact⟨r,h,rfl⟩
 obtain⟨r,hr2,hput⟩:=ob'
 have trd:t.rd=.none:=sm.2.2.2.1.trans hr
 obtain⟨os1,ix,dx,jx,c,A1,k1⟩:=ze w A trd (h8 m hm)
 have e1:=uS w ui t.si ai ti m r os os1 (A.mth xy (by rw[trd];rfl)) c
 have J:GI os0 t0 ui ai ti ms P m [] ⟨os1,lT2 ui t.si ai ti m r⟩:=by
  refine⟨{ t with ns:=ins t.ns m,ix:=ix,dx:=dx,jx:=jx },r,rfl,hr2,A1,kp.trans k1,sm,?_,?_,fun x hx=>?_,fun x hx=>mx (hPn x hx),j3⟩
  .rw[D4];exact hnp
  .rw[DW];exact hsu
  .dsimp only at hx
   unfold ins at hx
   split at hx
   .exact hsub x hx
   .rcases List.mem_append.mp hx with q | q
    .exact hsub x q
    .rw[Kw.mp q];exact hm
 obtain⟨σe,Je,e2⟩:=vJ w h8 nd hn hP hm hmP ui ai ti os0 t0 hr f1 hu h3 f3 h4 f4 _ J
 refine⟨⟨os,lT2 ui t.si ai ti m r⟩,σe,?_,by rw[CZ];exact Exs.app (l₁:=[v0]) e1 (Exs.cons e2 Exs.nil),?_⟩
 .rw[<- hput]
  exact aX.nameE ⟨eP (sN 1 dj),∅⟩ (.inl ∅)
 .obtain⟨t',rest',hloc',hrest',A',kp',sm',hO'⟩:=Je.ex
  obtain⟨hnp',hsu',hsub',hPn',hmn'⟩:=hO'
  refine⟨t',_,hloc',.inr ⟨m,rest',rfl,hrest'⟩,A',kp',sm',?_,?_,hsub',fun x hx=>?_⟩
  .rw[hnp',zD]
  .rw[hsu',z9]
  .rcases List.mem_append.mp hx with q | q
   .exact hPn' x q
   .rw[Kw.mp q];exact hmn'
theorem mO {l:List Nat} (h:l.Nodup):l.reverse.Nodup:=(List.reverse_perm l).nodup_iff.mpr h
theorem yo (ms:List Nat):(mkW ms).reverse=mkW ms.reverse:=by simp[mkW]
theorem Ck:sN 0 dj=.Subscript (eN 0 (sN 0 dj)) (.Slice none none (some (Db (sN 0 dj))) (Ga (sN 0 dj))) (eP (sN 0 dj)):=∅
theorem vP (w:J9) (h8:∀m∈ms,m < 8) (nd:ms.Nodup) (hn:ms.length <=60) (ui ai ti:Nat) (os0:List O) (t0:ci) (A0:SA os0 t0) (hr:t0.rd=.none) (h0:t0.ns=[]) (f1:¬ Ow t0 ui) (hu:os0[ui]?=some (.list (mkW ms)))
  (h3:∃o,os0[ai]?=some o) (f3:¬ Ow t0 ai) (h4:∃o,os0[ti]?=some o) (f4:¬ Ow t0 ti) :
  ∃σe,GO os0 t0 ui ai ti ms ms.reverse σe/\Ex (aa w) 4 ar.scope ⟨os0,lT ui t0.si ai ti []⟩ dj .next σe:=by
 have mem:∀k,k < ms.reverse.length->ms.reverse.getD k 0∈ms:=fun k hk=>by
  have:ms.reverse.getD k 0∈ms.reverse:=by rw[Kh,Kc hk];exact Lk hk
  exact List.mem_reverse.mp this
 have hget:∀k,k < ms.reverse.length->ms.reverse[k]?=some (ms.reverse.getD k 0):=fun k hk=>by rw[Kh,Kc hk];rfl
 have hv:Ev (aa w) 4 ar.scope ⟨os0,lT ui t0.si ai ti []⟩ (eN 0 (sN 0 dj)) (.ref ui) ⟨os0,lT ui t0.si ai ti []⟩:=aC (X:=X0 w 4 aq) ∅
 have hs:Ev (aa w) 4 ar.scope ⟨os0,lT ui t0.si ai ti []⟩ (Db (sN 0 dj)) (.int (-1)) ⟨os0,lT ui t0.si ai ti []⟩:=aC (X:=X0 w 4 aq) ∅
 have it:=Ev.rev (p:=Ga (sN 0 dj)) (pos:=eP (sN 0 dj)) hv hs hu (by rw[aG];lia)
 rw[<- Ck,yo] at it
 dsimp only at it
 have kA:cw os0 t0 (os0++[.list (mkW ms.reverse)]) t0:=ec _
 have fr:¬ Ow t0 os0.length:=fun q=>KM _ (A0.lt q)
 have out0:t0.np=mU ms []/\t0.su=mH ms []:=by
  constructor
  .funext x
   rw[(A0.out x (by rw[h0];exact Kf)).1]
   simp[mU]
  .funext x
   rw[(A0.out x (by rw[h0];exact Kf)).2]
   simp[mH]
 obtain⟨σe,he,run⟩:=bH.inv (g:=aa w) (D:=4) (sc:=ar.scope) (t:=sN 1 dj) (body:=af dj) (nx:=cg os0.length) (n:=ms.reverse.length) (fun k σ=>GO (os0++[.list (mkW ms.reverse)]) t0 ui ai ti ms (ms.reverse.take k) σ)
  (fun k σ hk I=>by
   obtain⟨oa,ha⟩:=h3
   obtain⟨ot,ht⟩:=h4
   have rn:ms.reverse.Nodup:=mO nd
   obtain⟨σ₁,σ₂,a,b,J⟩:=rH w h8 nd hn (P:=ms.reverse.take k) (by rw[M9,List.length_reverse];lia) (mem k hk) (iX rn hk) ui ai ti (os0++[.list (mkW ms.reverse)]) t0 hr f1 (ab hu) ⟨oa,ab ha⟩ f3 ⟨ot,ab ht⟩ f4 σ I
   obtain⟨t,rest,hloc,hrest,A,kp,_⟩:=I.ex
   refine⟨_,σ₁,σ₂,?_,a,b,?_⟩
   .rw[bv (kp _ _ (am _ _) fr).1,cL (hget k hk)]
   .rw[cn hk];exact J)
  (fun σ I=>by
   obtain⟨t,rest,hloc,hrest,A,kp,_⟩:=I.ex
   rw[bv (kp _ _ (am _ _) fr).1]
   exact congrArg some (Kv (by rw[aG];exact Km _)))
  ms.reverse.length 0 ⟨os0++[.list (mkW ms.reverse)],lT ui t0.si ai ti []⟩ (by lia)
  ⟨⟨t0,[],rfl,.inl rfl,A0.app _,fun i o e f=>⟨e,f⟩,⟨rfl,rfl,rfl,rfl,rfl,rfl⟩,out0.1,out0.2,(fun x hx=>by rw[h0] at hx;cases hx),(fun x hx=>by cases hx)⟩⟩
 rw[M4] at he
 obtain⟨t,rest,hloc,hrest,A,kp,sm,hO'⟩:=he.ex
 obtain⟨e1,e2,e3,e4⟩:=hO'
 refine⟨σe,⟨t,rest,hloc,hrest,A,kA.trans kp,sm,e1,e2,e3,e4⟩,?_⟩
 rw[Cp]
 exact Ex.forRun it (aZ.list (am _ _)) run (aD ∅)
theorem SA.setD (h:SA os t) (rd:V) (po nf:Int) (n:Nat):SA (os.set t.di (.dict (cQ t.mi rd po nf) n)) { t with rd:=rd,po:=po,nf:=nf }/\cw os t (os.set t.di (.dict (cQ t.mi rd po nf) n)) { t with rd:=rd,po:=po,nf:=nf }:=by
 have il:t.di < os.length:=h.lt (.inr (.inl rfl))
 obtain⟨n0,hx⟩:=h.d
 have k:∀{i:Nat} {o:O},os[i]?=some o->i≠t.di->(os.set t.di (.dict (cQ t.mi rd po nf) n))[i]?=some o:=fun e q=>by rw[ay q];exact e
 refine⟨⟨k h.s (a9 h.s hx nofun),⟨n,aT il⟩,k h.m (a9 h.m hx nofun),fun a ha=>k (h.x a ha) (a9 (h.x a ha) hx nofun),fun a ha=>k (h.y a ha) (a9 (h.y a ha) hx nofun),fun a ha=>k (h.z a ha) (a9 (h.z a ha) hx nofun),h.inj,h.n8,h.nd,h.out⟩,fun i o e f=>⟨k e fun q=>f (.inr (.inl q)),f⟩⟩
theorem SA.setF (h:SA os t) {r:Nat} (hr:¬ Ow t r) (o:O):SA (os.set r o) t:=h.mono fun i o' e f=>by rw[ay (fun q:i=r=>hr (q▸f))];exact e
theorem SA.setP (h:SA os t) (v:Int):∃n,az (aa w) D (.ref t.si) "_npassedout" (.int v) os (os.set t.di (.dict (cQ t.mi t.rd v t.nf) n)):=by
 obtain⟨n,e⟩:=h.d
 exact⟨_,az.own (g:=aa w) (v:=.int v) h.s e (bP w.params _ _ (cE w.params).2.2.1).2 (by simp[cQ])⟩
theorem SA.setN (h:SA os t) (v:Int):∃n,az (aa w) D (.ref t.si) "_nfinished" (.int v) os (os.set t.di (.dict (cQ t.mi t.rd t.po v) n)):=by
 obtain⟨n,e⟩:=h.d
 exact⟨_,az.own (g:=aa w) (v:=.int v) h.s e (bP w.params _ _ (cE w.params).2.2.2).2 (by simp[cQ])⟩
theorem SA.sub (h:SA os t) (hm:m∈t.ns):au (aa w) D (.ref t.mi) (.str (wdN m)) os (.ref (t.ix m)) os:=fun value slice hs=>
 dm.mapItem h.m (by rw[i7 h.n8 (h.n8 m hm),if_pos hm]) hs
noncomputable def f7 (r:Nat) (os:List O) (t:ci) (os':List O) (t':ci):Prop:=∀i o,os[i]?=some o->¬ Ow t i->i≠r->os'[i]?=some o/\¬ Ow t' i
theorem cw.b {r:Nat} {t':ci} (h:cw os t os' t'):f7 r os t os' t':=fun i o e f _=>h i o e f
theorem f7.trans {r:Nat} {os1 os2:List O} {t2:ci} (h:f7 r os t os1 t1) (k:f7 r os1 t1 os2 t2):f7 r os t os2 t2:=fun i o e f q=>let⟨a,b⟩:=h i o e f q;k i o a b q
theorem mX {r:Nat} (o:O):f7 r os t (os.set r o) t:=fun i o e f q=>⟨by rw[ay q];exact e,f⟩
noncomputable def jY:List Kz:=(aM 14 4).2.1
noncomputable def ji:Kz:=ah jY 3
theorem uZ:jY=jY.take 3++(ji::jY.drop 4):=∅
theorem BN:ji=.For (sN 1 ji) (sN 0 ji) (af ji) [] (sP ji):=∅
noncomputable def lR (si q mi:Nat) (tl:List (Str×V)):List (Str×V):=("self",.ref si)::("result",.ref q)::("n2i",.ref mi)::tl
noncomputable def Cq:V:=.top (.type "tuple")
theorem so (w:J9) (si r q mi:Nat) (os os1:List O) (h1:aj (aa w) 3 (.ref si) "_ready_nodes" os (.ref r) os) (h2:Cl (aa w) 3 Cq [.ref r] [] os (.ref q) os1) (h3:aj (aa w) 3 (.ref si) "_node2info" os1 (.ref mi) os1) :
  Exs (aa w) 3 g8.scope ⟨os,[("self",.ref si)]⟩ (jY.take 3) .next ⟨os1,lR si q mi []⟩:=
 bq (hk:={ c:=[(102,17,102,41,fun _ _ _=>(.ref q,os1))] }) (X:=XU w 3 [("_ready_nodes",.ref r),("_node2info",.ref mi)])
  (c:=[.p (aj (aa w) 3 (.ref si) "_ready_nodes" os (.ref r) os),.p (aj (aa w) 3 (.ref si) "_ready_nodes" os (.ref r) os),.p (Cl (aa w) 3 Cq [.ref r] [] os (.ref q) os1),.p (aj (aa w) 3 (.ref si) "_node2info" os1 (.ref mi) os1)]) ∅ ⟨h1,h1,h2,h3,trivial⟩
theorem rL (w:J9) (si q mi i:Nat) (x:Str) (os os1:List O) (h1:au (aa w) 3 (.ref mi) (.str x) os (.ref i) os) (h2:az (aa w) 3 (.ref i) "npredecessors" (.int (-1)) os os1) :
  Exs (aa w) 3 g8.scope ⟨os,lR si q mi [("node",.str x)]⟩ (af ji) .next ⟨os1,lR si q mi [("node",.str x)]⟩:=
 bq (hk:={ u:=[(105,12,105,21,fun _ _ _=>.ref i)] }) (X:={ X0 w 3 aq with ys:=jv [("npredecessors",fun _ _ _=>os1)] })
  (c:=[.p (au (aa w) 3 (.ref mi) (.str x) os (.ref i) os),.p (az (aa w) 3 (.ref i) "npredecessors" (.int (-1)) os os1)]) ∅ ⟨h1,h2,trivial⟩
noncomputable def nO:V:=.top (.builtin "list.clear")
theorem rj (w:J9) (si r q mi k:Nat) (po:Int) (tl:List (Str×V)) (os os1 os2:List O) (h1:aj (aa w) 3 (.ref si) "_ready_nodes" os (.ref r) os) (h2:an (aa w) (.ref r) "clear" os nO) (h3:Cl (aa w) 3 nO [.ref r] [] os .none os1)
  (h4:aj (aa w) 3 (.ref si) "_npassedout" os1 (.int po) os1) (h5:Cl (aa w) 3 eO [.ref q] [] os1 (.int k) os1) (h6:az (aa w) 3 (.ref si) "_npassedout" (.int (po + k)) os1 os2) :
  Exs (aa w) 3 g8.scope ⟨os,lR si q mi tl⟩ (jY.drop 4) (.ret (.ref q)) ⟨os2,lR si q mi tl⟩:=
 bq (hk:={ m:=[(106,8,106,33,nO)],c:=[(106,8,106,33,fun _ _ _=>(.none,os1)),(107,28,107,39,fun _ _ os=>(.int k,os))] }) (X:={ XU w 3 [("_ready_nodes",.ref r),("_npassedout",.int po)] with ys:=jv [("_npassedout",fun _ _ _=>os2)] })
  (c:=[.p (aj (aa w) 3 (.ref si) "_ready_nodes" os (.ref r) os),.p (an (aa w) (.ref r) "clear" os nO),.p (Cl (aa w) 3 nO [.ref r] [] os .none os1),.p (aj (aa w) 3 (.ref si) "_npassedout" os1 (.int po) os1),.p (Cl (aa w) 3 eO [.ref q] [] os1 (.int k) os1),.p (az (aa w) 3 (.ref si) "_npassedout" (.int (po + k)) os1 os2)]) ∅ ⟨h1,h2,h3,h4,h5,h6,trivial⟩
theorem G5:∀x,K2 g8 ⟨[x],[]⟩=pure [(J8 "self",x)]:=fun x=>∅
noncomputable def cC (np:Nat->Int) (l:List Nat):Nat->Int:=fun x=>if x∈l then -1 else np x
theorem qu (np:Nat->Int):cC np []=np:=by funext x;simp[cC]
theorem qW (np:Nat->Int) (l:List Nat) (m:Nat):bw (cC np l) m (-1)=cC np (l++[m]):=by
 funext x
 unfold bw cC
 by_cases e:x=m
 .simp[e]
 .simp[e]
theorem oj (w:J9) (A:SA os t) {r:Nat} {l:List Nat} (hr:t.rd=.ref r) (hl:os[r]?=some (.list (mkW l))) (fr:¬ Ow t r) (hs:∀m∈l,m∈t.ns) (hn:l.length <=100) :
  ∃os' t',Cl (aa w) 4 (.top (.ref 136)) [.ref t.si] [] os (.ref os.length) os'/\SA os' t'/\f7 r os t os' t'/\os'[os.length]?=some (.tuple (mkW l))/\¬ Ow t' os.length/\os'[r]?=some (.list [])/\¬ Ow t' r/\
   t'.si=t.si/\t'.rd=t.rd/\t'.ns=t.ns/\t'.su=t.su/\t'.np=cC t.np l/\t'.po=t.po + l.length/\t'.nf=t.nf:=by
 have A1:=A.app [.tuple (mkW l)]
 have fq:¬ Ow t os.length:=fun q=>KM _ (A.lt q)
 have c1:=Cl.tupleL (g:=aa w) (D:=3) hl (by rw[aG];lia)
 have e1:=so w t.si r os.length t.mi os _ (A.ready hr) c1 A1.node
 have hget:∀k,k < l.length->l[k]?=some (l.getD k 0):=fun k hk=>by rw[Kh,Kc hk];rfl
 have mem:∀k,k < l.length->l.getD k 0∈l:=fun k hk=>by rw[Kh,Kc hk];exact Lk hk
 obtain⟨σe,he,run⟩:=bH.inv (g:=aa w) (D:=3) (sc:=g8.scope) (t:=sN 1 ji) (body:=af ji) (nx:=cj os.length) (n:=l.length)
  (fun k σ=>SA σ.os { t with np:=cC t.np (l.take k) }/\cw (os++[.tuple (mkW l)]) t σ.os { t with np:=cC t.np (l.take k) }/\∃tl,σ.loc=lR t.si os.length t.mi tl/\(tl=[]\/∃x,tl=[((J8 "node"),V.str x)]))
  (fun k σ hk I=>by
   obtain⟨os2,loc⟩:=σ
   obtain⟨B,kp,tl,hloc,htl⟩:=I
   dsimp only at B kp hloc
   subst hloc
   have hm:=hs _ (mem k hk)
   have hput:put (lR t.si os.length t.mi tl) "node" (.str (wdN (l.getD k 0)))=lR t.si os.length t.mi [("node",.str (wdN (l.getD k 0)))]:=by
    rcases htl with rfl | ⟨x,rfl⟩ <;> rfl
   have sb:=B.sub (w:=w) (D:=3) (m:=l.getD k 0) hm
   have st:=B.snp (w:=w) (D:=3) (m:=l.getD k 0) hm (-1)
   obtain⟨B2,k2⟩:=B.setNp (m:=l.getD k 0) hm (-1)
   dsimp only at B2 k2
   rw[qW,<- cn hk] at B2 k2
   refine⟨.str (wdN (l.getD k 0)),⟨os2,lR t.si os.length t.mi [("node",.str (wdN (l.getD k 0)))]⟩,_,?_,?_,rL w t.si os.length t.mi _ _ _ _ sb st,B2,kp.trans k2,_,rfl,.inr ⟨_,rfl⟩⟩
   .unfold cj
    rw[(kp _ _ (am _ _) fq).1]
    exact congrArg some (cL (hget k hk))
   .rw[<- hput]
    exact aX.nameE ⟨eP (sN 1 ji),∅⟩ (.inl ∅))
  (fun σ ⟨B,kp,_⟩=>by
   unfold cj
   rw[(kp _ _ (am _ _) fq).1]
   exact congrArg some (Kv (by rw[aG];exact Km _)))
  l.length 0 ⟨os++[.tuple (mkW l)],lR t.si os.length t.mi []⟩ (by lia) ⟨by rw[List.take_zero,qu];exact A1,by rw[List.take_zero,qu];exact fun i o e f=>⟨e,f⟩,[],rfl,.inl rfl⟩
 rw[M4] at he
 obtain⟨os2,loc⟩:=σe
 obtain⟨B,kp,tl,hloc,htl⟩:=he
 dsimp only at B kp hloc
 subst hloc
 have it:Ev (aa w) 3 g8.scope ⟨os++[.tuple (mkW l)],lR t.si os.length t.mi []⟩ (sN 0 ji) (.ref os.length) ⟨os++[.tuple (mkW l)],lR t.si os.length t.mi []⟩:=aC (X:=X0 w 3 aq) ∅
 have e2:=Ex.forRun (pos:=sP ji) it (aZ.tuple (am _ _)) run (aD ∅)
 rw[<- BN] at e2
 -- the end
 have rq:r≠os.length:=M1 (List.getElem?_eq_some_iff.mp hl).1
 obtain⟨hr2,fr2⟩:=kp _ _ (ab hl) fr
 obtain⟨hq2,fq2⟩:=kp _ _ (am _ _) fq
 have rl:r < os2.length:=(List.getElem?_eq_some_iff.mp hr2).1
 have c2:=Cl.listClear (g:=aa w) (D:=3) hr2 (by rw[aG];lia)
 have B3:=B.setF fr2 (.list [])
 have hq3:(os2.set r (.list []))[os.length]?=some (.tuple (mkW l)):=by rw[ay (MK rq)];exact hq2
 have c3:=Cl.lenT (g:=aa w) (D:=3) hq3 (by rw[aG];lia)
 rw[aG] at c3
 obtain⟨n,sp⟩:=B3.setP (w:=w) (D:=3) (t.po + (l.length:Nat))
 obtain⟨B4,k4⟩:=B3.setD t.rd (t.po + (l.length:Nat)) t.nf n
 have e3:=rj w t.si r os.length t.mi l.length t.po tl os2 _ _ (B.ready hr) (an.listM hr2 F.slot_list_clear F.type_list_clear) c2 B3.passed c3 sp
 have all:=Exs.app e1 (Exs.cons e2 e3)
 rw[<- uZ] at all
 have cc:=Cl.def_ (Ek w) (bf.of1 G5 (a:=.ref t.si) (os:=os)) (fun x hx=>by
  simp only[Ka,Kf,or_false] at hx
  rcases hx with rfl
  exact .inl ∅) (KW.mpr ⟨Kf,KY⟩) all rfl ⟨nofun,nofun⟩
 have hr3:(os2.set r (.list []))[r]?=some (.list []):=aT rl
 obtain⟨hq4,fq4⟩:=k4 _ _ hq3 fq2
 obtain⟨hr4,fr4⟩:=k4 _ _ hr3 fr2
 refine⟨_,_,cc,B4,?_,hq4,fq4,hr4,fr4,rfl,rfl,rfl,rfl,rfl,rfl,rfl⟩
 have kk:cw os t os2 _:=(ec _).trans kp
 exact(kk.b.trans (mX (.list []))).trans k4.b
noncomputable def xG:List Kz:=(aM 14 5).2.1
theorem AU:∀x,K2 iZ ⟨[x],[]⟩=pure [(J8 "self",x)]:=fun x=>∅
noncomputable def rR:V:=.top (.type "bool")
noncomputable def xS (w:J9) (nf po:Int) (b:Bool) (os:List O):Prop:=ak (aa w) 3 .Lt (.int nf) (.int po) os (.bool b) os
theorem pT (w:J9) (si r:Nat) (nf po:Int) (os:List O) (h1:aj (aa w) 3 (.ref si) "_ready_nodes" os (.ref r) os) (h2:aj (aa w) 3 (.ref si) "_nfinished" os (.int nf) os) (h3:aj (aa w) 3 (.ref si) "_npassedout" os (.int po) os) (h4:xS w nf po true os) :
  Exs (aa w) 3 iZ.scope ⟨os,[("self",.ref si)]⟩ xG (.ret (.bool true)) ⟨os,[("self",.ref si)]⟩:=
 bq (hk:={ k:=[(113,15,113,49,fun _ _ _=>.bool true)] }) (X:=XU w 3 [("_ready_nodes",.ref r),("_nfinished",.int nf),("_npassedout",.int po)])
  (c:=[.p (aj (aa w) 3 (.ref si) "_ready_nodes" os (.ref r) os),.p (aj (aa w) 3 (.ref si) "_nfinished" os (.int nf) os),.p (aj (aa w) 3 (.ref si) "_npassedout" os (.int po) os),.p (xS w nf po true os)]) ∅ ⟨h1,h2,h3,h4,trivial⟩
theorem p8 (w:J9) (si r:Nat) (nf po:Int) (os:List O) (h1:aj (aa w) 3 (.ref si) "_ready_nodes" os (.ref r) os) (h2:aj (aa w) 3 (.ref si) "_nfinished" os (.int nf) os) (h3:aj (aa w) 3 (.ref si) "_npassedout" os (.int po) os) (h4:xS w nf po false os)
  (h5:Cl (aa w) 3 rR [.ref r] [] os (.bool false) os) :
  Exs (aa w) 3 iZ.scope ⟨os,[("self",.ref si)]⟩ xG (.ret (.bool false)) ⟨os,[("self",.ref si)]⟩:=
 bq (hk:={ k:=[(113,15,113,49,fun _ _ _=>.bool false)],c:=[(113,53,113,76,fun _ _ os=>(.bool false,os))] }) (X:=XU w 3 [("_ready_nodes",.ref r),("_nfinished",.int nf),("_npassedout",.int po)])
  (c:=[.p (aj (aa w) 3 (.ref si) "_ready_nodes" os (.ref r) os),.p (aj (aa w) 3 (.ref si) "_nfinished" os (.int nf) os),.p (aj (aa w) 3 (.ref si) "_npassedout" os (.int po) os),.p (xS w nf po false os),.p (aj (aa w) 3 (.ref si) "_ready_nodes" os (.ref r) os),.p (Cl (aa w) 3 rR [.ref r] [] os (.bool false) os)]) ∅ ⟨h1,h2,h3,h4,h1,h5,trivial⟩
theorem lz (l:Kj) (items:Array Kd) (hfit:(items.size:Int) < 2 ^ 63):Meets (Builtin.«bool.__new__» ⟨[.type "bool",.ref l],[]⟩) (fun A R s=>s.heap.IsList l items/\R (.ok (.ret (.bool (!items.isEmpty)))) { s with toks:=s.toks + 1 + 1 }):=
 Meets.of_wp fun prog w A R s hs=>by
  obtain⟨hp,g,d,tk,os⟩:=s
  obtain⟨hl,hs⟩:=hs
  have f1:=F.conv_sub_bool
  repeat (any_goals (first | assumption | with_reducible apply wpAny_truthy_list | wp_step))
  all_goals first | exact⟨_,rfl,hs⟩ | skip
theorem mq {prog:Np} {w:J9} {A:Lj} {E:Kd->Kl->Prop} {l:Kj} (hl:s.heap.IsList l items) (hfit:(items.size:Int) < 2 ^ 63) (h:Q (.bool (!items.isEmpty)) { s with toks:=s.toks + 1 + 1 }) :
  J6 (Kx prog w) A (call (.type "bool") [.ref l]) Q E s:=call_bool_1 (lz l items hfit) ⟨hl,rfl,h⟩
theorem Cl.boolL {vs:List V} (ho:os[i]?=some (.list vs)) (hz:vs.length <=1000):Cl g D rR [.ref i] [] os (.bool (!vs.isEmpty)) os:=fk fun ρ f y hf r=>by
 obtain rfl:f=.type "bool":=hf
 refine Lf.pure fun A s hr hh hK=>?_
 obtain⟨a,ys,n,rfl,ha,e,q⟩:=hh.list ho r
 have len:ys.size=vs.length:=by rw[<- KH,q.length]
 have he:ys.isEmpty=vs.isEmpty:=by
  rw[<- Array.isEmpty_toList]
  cases vs with
  | nil=>cases h:ys.toList with
   | nil=>rfl
   | cons a b=>rw[h] at q;cases q
  | cons x xs=>cases h:ys.toList with
   | nil=>rw[h] at q;cases q
   | cons a b=>rfl
 refine mq (ax e) (by rw[len];lia) ⟨by rw[he];rfl,rfl,rfl,rfl⟩
theorem tL (w:J9) (A:SA os t) {r:Nat} (hr:t.rd=.ref r) (hl:os[r]?=some (.list [])):Cl (aa w) 4 (.top (.ref 143)) [.ref t.si] [] os (.bool (decide (t.nf < t.po))) os:=by
 have lt:ak (aa w) 3 .Lt (.int t.nf) (.int t.po) os (.bool (decide (t.nf < t.po))) os:=ak.ltI
 have nd1:([J8 "self"]:List Str).Nodup:=KW.mpr ⟨Kf,KY⟩
 have lk1:∀x∈[((J8 "self"),V.ref t.si)],iZ.scope.names.lookup x.1=some .local\/iZ.scope.names.lookup x.1=some .cell:=fun x hx=>by
  simp only[Ka,Kf,or_false] at hx
  rcases hx with rfl
  exact .inl ∅
 cases h:decide (t.nf < t.po) with
 | true=>
  rw[h] at lt
  exact Cl.def_ (xa w) (bf.of1 AU (a:=.ref t.si) (os:=os)) lk1 nd1 (pT w t.si r t.nf t.po os (A.ready hr) A.fin A.passed lt) rfl ⟨nofun,nofun⟩
 | false=>
  rw[h] at lt
  exact Cl.def_ (xa w) (bf.of1 AU (a:=.ref t.si) (os:=os)) lk1 nd1 (p8 w t.si r t.nf t.po os (A.ready hr) A.fin A.passed lt (Cl.boolL (g:=aa w) hl (by simp))) rfl ⟨nofun,nofun⟩
noncomputable def nF:List Kz:=(aM 14 7).2.1
noncomputable def dB:Kz:=ah nF 2
noncomputable def cH:Kz:=ah (af dB) 4
theorem vX:nF=nF.take 2++[dB]:=∅
theorem yX:dB=.For (sN 1 dB) (sN 0 dB) (af dB) [] (sP dB):=∅
theorem zV:cH=.For (sN 1 cH) (sN 0 cH) (af cH) [] (sP cH):=∅
theorem zy:af dB=(af dB).take 4++(cH::(af dB).drop 5):=∅
theorem qd:af cH=(af cH).take 2++(af cH).drop 2:=∅
theorem GS:∀x z,K2 cq ⟨[x,z],[]⟩=(newTuple [z] >>=fun t=>pure ([(J8 "self",x)]++[(J8 "nodes",t)])):=fun x z=>∅
noncomputable def lN (si q:Nat):List (Str×V):=[("self",.ref si),("nodes",.ref q)]
theorem Dr {y:Str}:bf g D cq [.ref si,.str y] [] os (lN si os.length) (os++[.tuple [.str y]]):=fun ρ xs ks hx hk=>by
 cases hk
 cases hx with
 | cons r rs=>cases rs with
  | cons r' rs=>
   cases rs
   show Lf g D os ρ (K2 cq ⟨[_,_],[]⟩) _ _
   rw[GS]
   exact oQ (vs:=[.str y]) (.cons r' .nil) (.cons ⟨rfl,r⟩ .nil) (by simp)
noncomputable def lN2 (si q mi:Nat) (tl:List (Str×V)):List (Str×V):=("self",.ref si)::("nodes",.ref q)::("n2i",.ref mi)::tl
theorem uv (w:J9) (si q r mi:Nat) (os:List O) (h1:aj (aa w) 3 (.ref si) "_ready_nodes" os (.ref r) os) (h2:aj (aa w) 3 (.ref si) "_node2info" os (.ref mi) os) :
  Exs (aa w) 3 cq.scope ⟨os,lN si q⟩ (nF.take 2) .next ⟨os,lN2 si q mi []⟩:=
 mV (X:=XU w 3 [("_ready_nodes",.ref r),("_node2info",.ref mi)]) (c:=[.p (aj (aa w) 3 (.ref si) "_ready_nodes" os (.ref r) os),.p (aj (aa w) 3 (.ref si) "_node2info" os (.ref mi) os)]) ∅ ⟨h1,h2,trivial⟩
noncomputable def jP:V:=.top (.builtin "dict.get")
noncomputable def lN3 (x:Str) (i:Nat) (tl:List (Str×V)):List (Str×V):=("node",.str x)::("nodeinfo",.ref i)::("stat",.int (-1))::tl
theorem tz (w:J9) (si q mi i:Nat) (x:Str) (os os1:List O) (h1:an (aa w) (.ref mi) "get" os jP) (h2:Cl (aa w) 3 jP [.ref mi,.str x] [] os (.ref i) os) (h3:aj (aa w) 3 (.ref i) "npredecessors" os (.int (-1)) os) (h4:az (aa w) 3 (.ref i) "npredecessors" (.int (-2)) os os1) :
  Exs (aa w) 3 cq.scope ⟨os,lN2 si q mi [("node",.str x)]⟩ ((af dB).take 4) .next ⟨os1,lN2 si q mi (lN3 x i [])⟩:=
 bq (hk:={ m:=[(123,28,123,41,jP)],c:=[(123,28,123,41,fun _ _ os=>(.ref i,os))] }) (X:={ XU w 3 [("npredecessors",.int (-1))] with ys:=jv [("npredecessors",fun _ _ _=>os1)] })
  (c:=[.p (an (aa w) (.ref mi) "get" os jP),.p (Cl (aa w) 3 jP [.ref mi,.str x] [] os (.ref i) os),.p (aj (aa w) 3 (.ref i) "npredecessors" os (.int (-1)) os),.p (az (aa w) 3 (.ref i) "npredecessors" (.int (-2)) os os1)]) ∅ ⟨h1,h2,h3,h4,trivial⟩
noncomputable def lN4 (y:Str) (j:Nat):List (Str×V):=[("successor",.str y),("successor_info",.ref j)]
noncomputable def IY (tl:List (Str×V)):Prop:=tl=[]\/∃y j,tl=lN4 y j
theorem vF (w:J9) (si q mi i j:Nat) (x:Str) (os:List O) (h:aj (aa w) 3 (.ref i) "successors" os (.ref j) os):Ev (aa w) 3 cq.scope ⟨os,lN2 si q mi (lN3 x i [])⟩ (sN 0 cH) (.ref j) ⟨os,lN2 si q mi (lN3 x i [])⟩:=
 pm (X:=XU w 3 [("successors",.ref j)]) (c:=[.p (aj (aa w) 3 (.ref i) "successors" os (.ref j) os)]) ∅ ⟨h,trivial⟩
noncomputable def sucL (y:Str) (tl:List (Str×V)):List (Str×V):=("successor",.str y)::tl
theorem Ao (w:J9) (si q mi i j:Nat) (x y:Str) (n:Int) (tl:List (Str×V)) (htl:tl=[]\/∃k,tl=[((J8 "successor_info"),V.ref k)]) (os os1:List O) (h1:au (aa w) 3 (.ref mi) (.str y) os (.ref j) os) (h2:aj (aa w) 3 (.ref j) "npredecessors" os (.int n) os) (h3:az (aa w) 3 (.ref j) "npredecessors" (.int (n - 1)) os os1) :
  Exs (aa w) 3 cq.scope ⟨os,lN2 si q mi (lN3 x i (sucL y tl))⟩ ((af cH).take 2) .next ⟨os1,lN2 si q mi (lN3 x i (lN4 y j))⟩:=by
 rcases htl with rfl | ⟨k,rfl⟩
 .exact(bq (hk:={ u:=[(135,33,135,47,fun _ _ _=>.ref j)] }) (X:={ XU w 3 [("npredecessors",.int n)] with ys:=jv [("npredecessors",fun _ _ _=>os1)] })
   (c:=[.p (au (aa w) 3 (.ref mi) (.str y) os (.ref j) os),.p (aj (aa w) 3 (.ref j) "npredecessors" os (.int n) os),.p (az (aa w) 3 (.ref j) "npredecessors" (.int (n - 1)) os os1)]) ∅ ⟨h1,h2,h3,trivial⟩)
 .exact(bq (hk:={ u:=[(135,33,135,47,fun _ _ _=>.ref j)] }) (X:={ XU w 3 [("npredecessors",.int n)] with ys:=jv [("npredecessors",fun _ _ _=>os1)] })
   (c:=[.p (au (aa w) 3 (.ref mi) (.str y) os (.ref j) os),.p (aj (aa w) 3 (.ref j) "npredecessors" os (.int n) os),.p (az (aa w) 3 (.ref j) "npredecessors" (.int (n - 1)) os os1)]) ∅ ⟨h1,h2,h3,trivial⟩)
theorem zX (w:J9) (si q mi i j:Nat) (x y:Str) (n:Int) (os:List O) (h0:(n==0)=false) (h1:aj (aa w) 3 (.ref j) "npredecessors" os (.int n) os) :
  Exs (aa w) 3 cq.scope ⟨os,lN2 si q mi (lN3 x i (lN4 y j))⟩ ((af cH).drop 2) .next ⟨os,lN2 si q mi (lN3 x i (lN4 y j))⟩:=
 iO (hk:={}) (X:=XU w 3 [("npredecessors",.int n)]) (n:=12) (o:={ ts:=[(137,19,false)] }) (c:=[.b (n==0) false,.p (aj (aa w) 3 (.ref j) "npredecessors" os (.int n) os)]) ∅ ⟨h0,h1,trivial⟩
theorem Ab (w:J9) (si q mi i j r:Nat) (x y:Str) (n:Int) (os os1:List O) (h0:(n==0)=true) (h1:aj (aa w) 3 (.ref j) "npredecessors" os (.int n) os) (h2:aj (aa w) 3 (.ref si) "_ready_nodes" os (.ref r) os) (h3:an (aa w) (.ref r) "append" os bL) (h4:Cl (aa w) 3 bL [.ref r,.str y] [] os .none os1) :
  Exs (aa w) 3 cq.scope ⟨os,lN2 si q mi (lN3 x i (lN4 y j))⟩ ((af cH).drop 2) .next ⟨os1,lN2 si q mi (lN3 x i (lN4 y j))⟩:=
 iO (hk:={ m:=[(138,20,138,55,bL)],c:=[(138,20,138,55,fun _ _ _=>(.none,os1))] }) (X:=XU w 3 [("npredecessors",.int n),("_ready_nodes",.ref r)]) (n:=12) (o:={ ts:=[(137,19,true)] })
  (c:=[.b (n==0) true,.p (aj (aa w) 3 (.ref j) "npredecessors" os (.int n) os),.p (aj (aa w) 3 (.ref si) "_ready_nodes" os (.ref r) os),.p (an (aa w) (.ref r) "append" os bL),.p (Cl (aa w) 3 bL [.ref r,.str y] [] os .none os1)]) ∅ ⟨h0,h1,h2,h3,h4,trivial⟩
theorem wT (w:J9) (si q mi:Nat) (nf:Int) (tl:List (Str×V)) (os os1:List O) (h1:aj (aa w) 3 (.ref si) "_nfinished" os (.int nf) os) (h2:az (aa w) 3 (.ref si) "_nfinished" (.int (nf + 1)) os os1) :
  Exs (aa w) 3 cq.scope ⟨os,lN2 si q mi tl⟩ ((af dB).drop 5) .next ⟨os1,lN2 si q mi tl⟩:=
 mV (X:={ XU w 3 [("_nfinished",.int nf)] with ys:=jv [("_nfinished",fun _ _ _=>os1)] }) (c:=[.p (aj (aa w) 3 (.ref si) "_nfinished" os (.int nf) os),.p (az (aa w) 3 (.ref si) "_nfinished" (.int (nf + 1)) os os1)]) ∅ ⟨h1,h2,trivial⟩
noncomputable def eZ (np:Nat->Int) (Q:List Nat):Nat->Int:=fun x=>if x∈Q then np x - 1 else np x
noncomputable def fM (np:Nat->Int) (l0 Q:List Nat):List Nat:=l0++Q.filter fun k=>np k - 1==0
theorem r5 (np:Nat->Int):eZ np []=np:=by funext x;simp[eZ]
theorem wK (np:Nat->Int) {Q:List Nat} (h:k∉Q):bw (eZ np Q) k (np k - 1)=eZ np (Q++[k]):=by
 funext x
 unfold bw eZ
 by_cases e:x=k
 .subst e;simp
 .simp[e]
theorem oo (np:Nat->Int) (l0 Q:List Nat) (k:Nat):fM np l0 (Q++[k])=if(np k - 1==0) then fM np l0 Q++[k] else fM np l0 Q:=by
 unfold fM
 rw[Mw,Ml]
 split
 .simp
 .simp
theorem qR (l:List Nat) (k:Nat):mkW (l++[k])=mkW l++[.str (wdN k)]:=by simp[mkW]
structure DI (r:Nat) (os0:List O) (t:ci) (np1:Nat->Int) (l0:List Nat) (q:Nat) (x:Str) (i:Nat) (Q:List Nat) (σ:S):Prop where
 A:SA σ.os { t with np:=eZ np1 Q }
 k:f7 r os0 t σ.os { t with np:=eZ np1 Q }
 rd:σ.os[r]?=some (.list (mkW (fM np1 l0 Q)))
 fr:¬ Ow { t with np:=eZ np1 Q } r
 loc:∃tl,σ.loc=lN2 t.si q t.mi (lN3 x i tl)/\IY tl
theorem tE (w:J9) {r q:Nat} {np1:Nat->Int} {l0 Q:List Nat} (I:DI r os0 t np1 l0 q x i Q σ) (hr:t.rd=.ref r) (hk:k∈t.ns) (hQ:k∉Q) (hl:(fM np1 l0 Q).length <=100) :
  ∃σ₁ σ₂,aX (aa w) 3 cq.scope σ (sN 1 cH) (.str (wdN k)) σ₁/\Exs (aa w) 3 cq.scope σ₁ (af cH) .next σ₂/\DI r os0 t np1 l0 q x i (Q++[k]) σ₂:=by
 obtain⟨os,loc⟩:=σ
 obtain⟨A,kp,rd,fr,tl,hloc,htl⟩:=I
 dsimp only at A kp rd hloc
 subst hloc
 have ob':∃tl',(tl'=[]\/∃j,tl'=[((J8 "successor_info"),V.ref j)])/\put (lN2 t.si q t.mi (lN3 x i tl)) "successor" (.str (wdN k))=lN2 t.si q t.mi (lN3 x i (sucL (wdN k) tl')):=by
  rcases htl with rfl | ⟨y,j,rfl⟩
  .exact⟨[],.inl rfl,rfl⟩
  .exact⟨_,.inr ⟨j,rfl⟩,rfl⟩
 obtain⟨tl',htl',hput⟩:=ob'
 have hn:eZ np1 Q k=np1 k:=by unfold eZ;rw[if_neg hQ]
 have g1:=A.gnp (w:=w) (D:=3) (m:=k) hk
 have s1:=A.snp (w:=w) (D:=3) (m:=k) hk (np1 k - 1)
 obtain⟨B,k2⟩:=A.setNp (m:=k) hk (np1 k - 1)
 dsimp only at g1 s1 B k2
 rw[hn] at g1
 rw[wK np1 hQ] at B k2
 have b1:=Ao w t.si q t.mi i (t.ix k) x (wdN k) (np1 k) tl' htl' os _ (A.sub (m:=k) hk) g1 s1
 have g2:=B.gnp (w:=w) (D:=3) (m:=k) hk
 have hn2:eZ np1 (Q++[k]) k=np1 k - 1:=by unfold eZ;rw[if_pos (Kt _ (Kw.mpr rfl))]
 dsimp only at g2
 rw[hn2] at g2
 obtain⟨rd2,fr2⟩:=k2 _ _ rd fr
 have asg:aX (aa w) 3 cq.scope ⟨os,lN2 t.si q t.mi (lN3 x i tl)⟩ (sN 1 cH) (.str (wdN k)) ⟨os,lN2 t.si q t.mi (lN3 x i (sucL (wdN k) tl'))⟩:=by
  rw[<- hput]
  exact aX.nameE ⟨eP (sN 1 cH),∅⟩ (.inl ∅)
 cases h:(np1 k - 1==0) with
 | false=>
  have b2:=zX w t.si q t.mi i (t.ix k) x (wdN k) (np1 k - 1) _ h g2
  refine⟨_,_,asg,by rw[qd];exact Exs.app b1 b2,B,kp.trans k2.b,?_,fr2,_,rfl,.inr ⟨_,_,rfl⟩⟩
  rw[oo,h]
  exact rd2
 | true=>
  have ap:=Cl.append (g:=aa w) (D:=3) (v:=.str (wdN k)) rd2 (by rw[aG];exact Lh hl (by decide))
  rw[<- qR] at ap
  have b3:=Ab w t.si q t.mi i (t.ix k) r x (wdN k) (np1 k - 1) _ _ h g2 (B.ready hr) (an.listM rd2 Md Mc) ap
  refine⟨_,_,asg,by rw[qd];exact Exs.app b1 b3,B.setF fr2 _,(kp.trans k2.b).trans (mX _),?_,fr2,_,rfl,.inr ⟨_,_,rfl⟩⟩
  rw[oo,h]
  exact aT (List.getElem?_eq_some_iff.mp rd2).1
theorem zt (w:J9) (A:SA os t) {r a:Nat} {l0:List Nat} (hr:t.rd=.ref r) (hl:os[r]?=some (.list (mkW l0))) (fr:¬ Ow t r) (ha:a∈t.ns) (hp:t.np a=-1) (hs:∀m∈t.su a,m∈t.ns) (nd:(t.su a).Nodup)
  (hn:l0.length + (t.su a).length <=100) :
  ∃os' t',Cl (aa w) 4 (.top (.ref 157)) [.ref t.si,.str (wdN a)] [] os .none os'/\SA os' t'/\f7 r os t os' t'/\os'[r]?=some (.list (mkW (fM (bw t.np a (-2)) l0 (t.su a))))/\¬ Ow t' r/\
   t'.si=t.si/\t'.rd=t.rd/\t'.ns=t.ns/\t'.su=t.su/\t'.np=eZ (bw t.np a (-2)) (t.su a)/\t'.po=t.po/\t'.nf=t.nf + 1:=by
 have A1:=A.app [.tuple [.str (wdN a)]]
 have fq:¬ Ow t os.length:=fun q=>KM _ (A.lt q)
 have rl:r < os.length:=(List.getElem?_eq_some_iff.mp hl).1
 have tq:(os++[O.tuple [.str (wdN a)]])[os.length]?=some (.tuple [.str (wdN a)]):=am _ _
 have e1:=uv w t.si os.length r t.mi _ (A1.ready hr) A1.node
 have hg:=Cl.dictGet (g:=aa w) (D:=3) (k:=wdN a) A1.m
 rw[i7 A.n8 (A.n8 a ha),if_pos ha] at hg
 have g1:=A1.gnp (w:=w) (D:=3) ha
 rw[hp] at g1
 have s1:=A1.snp (w:=w) (D:=3) ha (-2)
 obtain⟨B,k1⟩:=A1.setNp ha (-2)
 have e2:=tz w t.si os.length t.mi (t.ix a) (wdN a) _ _ (an.mapM A1.m NP F.type_dict_get) hg g1 s1
 obtain⟨r1,fr1⟩:=k1 _ _ (ab hl) fr
 have hgt:∀k,k < (t.su a).length->(t.su a)[k]?=some ((t.su a).getD k 0):=fun k hk=>by rw[Kh,Kc hk];rfl
 have mem:∀k,k < (t.su a).length->(t.su a).getD k 0∈t.su a:=fun k hk=>by rw[Kh,Kc hk];exact Lk hk
 have I0:DI r (os++[.tuple [.str (wdN a)]]) t (bw t.np a (-2)) l0 os.length (wdN a) (t.ix a) [] ⟨_,lN2 t.si os.length t.mi (lN3 (wdN a) (t.ix a) [])⟩:=
  ⟨by rw[r5];exact B,by rw[r5];exact k1.b,by show _=some (O.list (mkW (l0++[])));rw[KZ];exact r1,by rw[r5];exact fr1,[],rfl,.inl rfl⟩
 obtain⟨σe,Ie,run⟩:=bH.inv (g:=aa w) (D:=3) (sc:=cq.scope) (t:=sN 1 cH) (body:=af cH) (nx:=cg (t.jx a)) (n:=(t.su a).length) (fun k σ=>DI r (os++[.tuple [.str (wdN a)]]) t (bw t.np a (-2)) l0 os.length (wdN a) (t.ix a) ((t.su a).take k) σ)
  (fun k σ hk I=>by
   have lf:=LC (fun j=>bw t.np a (-2) j - 1==0) ((t.su a).take k)
   have lt:=List.length_take_le k (t.su a)
   have lt2:((t.su a).take k).length <=(t.su a).length:=by rw[M9];lia
   obtain⟨σ₁,σ₂,h1,h2,h3⟩:=tE w I hr (hs _ (mem k hk)) (iX nd hk) (by unfold fM;rw[KC];lia)
   refine⟨_,σ₁,σ₂,?_,h1,h2,by rw[cn hk];exact h3⟩
   rw[bv (I.A.z a ha)]
   exact congrArg some (cL (hgt k hk)))
  (fun σ I=>by
   rw[bv (I.A.z a ha)]
   exact congrArg some (Kv (by rw[aG];exact Km _)))
  (t.su a).length 0 _ (by lia) I0
 rw[M4] at Ie
 have e3:=Ex.forRun (pos:=sP cH) (vF w t.si os.length t.mi (t.ix a) (t.jx a) (wdN a) _ (B.gsu ha)) (aZ.list (B.z a ha)) run (aD ∅)
 rw[<- zV] at e3
 obtain⟨os2,loc⟩:=σe
 obtain⟨C,k2,r2,fr2,tl,hloc,htl⟩:=Ie
 dsimp only at C k2 r2 hloc
 subst hloc
 obtain⟨n,sp⟩:=C.setN (w:=w) (D:=3) (t.nf + 1)
 obtain⟨E,k3⟩:=C.setD t.rd t.po (t.nf + 1) n
 have e4:=wT w t.si os.length t.mi t.nf (lN3 (wdN a) (t.ix a) tl) os2 _ C.fin sp
 have body:=Exs.app e2 (Exs.cons e3 e4)
 rw[<- zy] at body
 obtain⟨tq2,fq2⟩:=k2 _ _ tq fq (Nat.ne_of_gt rl)
 obtain⟨tq3,fq3⟩:=k3 _ _ tq2 fq2
 obtain⟨r3,fr3⟩:=k3 _ _ r2 fr2
 have it:Ev (aa w) 3 cq.scope ⟨os++[.tuple [.str (wdN a)]],lN2 t.si os.length t.mi []⟩ (sN 0 dB) (.ref os.length) ⟨os++[.tuple [.str (wdN a)]],lN2 t.si os.length t.mi []⟩:=aC (X:=X0 w 3 aq) ∅
 have n0:cj os.length 0 (os++[.tuple [.str (wdN a)]])=some (some (.str (wdN a))):=by unfold cj;rw[tq];rfl
 have e5:=Ex.forRun (g:=aa w) (pos:=sP dB) (t:=sN 1 dB) (body:=af dB) (orelse:=[]) (fin:=.next) it (aZ.tuple tq)
  (.turn n0 (aX.nameE (x:="node") ⟨eP (sN 1 dB),∅⟩ (.inl ∅)) body (.inl rfl) (.stop (by unfold cj;rw[tq3];rfl) Exs.nil)) (aD ∅)
 rw[<- yX] at e5
 have all:=Exs.app e1 (Exs.cons e5 Exs.nil)
 rw[<- vX] at all
 have cc:=Cl.def_ (EO w) Dr (fun y hy=>by
  simp only[lN,Ka,Kf,or_false] at hy
  rcases hy with rfl | rfl <;> exact .inl ∅) (by
   have:([J8 "self",J8 "nodes"]:List Str).Nodup:=by decide +kernel
   exact this) all rfl ⟨nofun,nofun⟩
 exact⟨_,_,cc,E,(((ec _).b.trans k2)).trans k3.b,r3,fr3,rfl,rfl,rfl,rfl,rfl,rfl,rfl⟩
noncomputable def aH (l:List Env):List Kj:=l.filterMap (·.frame)
structure cJ (l:List Env) (ρ:List Kj) (h:Heap):Prop where
 all:∀e∈l,e.scope.kind≠.module/\∃L o,e.frame=some L/\h.get? L=some o/\L∉ρ/\N0 <=L
noncomputable def aS (fs:List Kj) (h h':Heap):Prop:=∀L∈fs,∀o,h.get? L=some o->∃sl,h'.get? L=some { o with slots:=sl }
theorem Ei {o:Obj} (e:h.get? a=some o):o.isFreed=false:=(Heap.get?_some_iff.mp e).2
theorem fg {l:List Env}:L∈aH l↔∃e∈l,e.frame=some L:=by
 unfold aH
 rw[List.mem_filterMap]
theorem aS.refl (fs:List Kj) (h:Heap):aS fs h h:=fun L _ o e=>⟨o.slots,e⟩
theorem aS.trans {h1 h2:Heap} (x:aS fs h h1) (y:aS fs h1 h2):aS fs h h2:=fun L hL o e=>by
 obtain⟨s1,e1⟩:=x L hL o e
 obtain⟨s2,e2⟩:=y L hL _ e1
 exact⟨s2,e2⟩
theorem aS.kept (k:∀L∈fs,∀o,h.get? L=some o->h'.get? L=some o):aS fs h h':=fun L hL o e=>⟨o.slots,k L hL o e⟩
theorem aS.sub {gs:List Kj} (x:aS fs h h') (k:∀L∈gs,L∈fs):aS gs h h':=fun L hL o e=>x L (k L hL) o e
theorem cJ.go {l:List Env} {ow:List Kj} (x:cJ l ρ s.heap) (g:Go ow ρ s ρ' s'):cJ l ρ' s'.heap:=by
 obtain⟨ν,e,hν⟩:=g.pre
 refine⟨fun en he=>?_⟩
 obtain⟨h1,L,o,h2,h3,h4,h5⟩:=x.all en he
 obtain⟨o',h6⟩:=g.alive _ _ h3
 refine⟨h1,L,o',h2,h6,fun hm=>?_,h5⟩
 rw[e] at hm
 rcases List.mem_append.mp hm with q | q
 .exact h4 q
 .rw[hν L q] at h3;exact nS h3
theorem pF (l:List Env) (h:∀v,Q v s):J6 M A (keptBack env false l) Q E s:=by
 cases l with
 | nil=>exact wpAny_keptBack_nil h
 | cons c r=>exact Kb (h _)
theorem sM {M:Model} {A:Lj} {E:Kd->Kl->Prop} (l:List Env) {Q:Unit->Kl->Prop} (hl:∀e∈l,e.scope.kind≠.module/\∃L o,e.frame=some L/\s.heap.get? L=some o)
  (q:∀h',h'.objs.size=s.heap.objs.size->(∀b,b∉aH l->h'.get? b=s.heap.get? b)->aS (aH l) s.heap h'->Q () { s with heap:=h' }):J6 M A (readyFrames l) Q E s:=by
 induction l generalizing s with
 | nil=>exact Kb (q s.heap rfl (fun _ _=>rfl) (aS.refl _ _))
 | cons env outer ih=>
  obtain⟨hk,L,o,hf,ho⟩:=hl env (LV ..)
  simp only[readyFrames,hf]
  refine J7 (LA ho ?_)
  by_cases hr:((o.slots.getD 3 none).isSome)=true
  .rw[if_pos hr]
   exact Kb (q s.heap rfl (fun _ _=>rfl) (aS.refl _ _))
  .rw[if_neg hr]
   refine J7 (Nb (a:=false) (by simp[behindIsImport,hk]) ?_)
   refine J7 (pF outer fun v=>?_)
   refine J7 (wpAny_update ho ?_)
   generalize hF:(fun o:Obj=>({ o with slots:=#[some env.code,some (.ref env.globals),o.slots.getD 2 none,some v,o.slots.getD 4 none,env.func.map Value.ref,some (.ref env.builtins)]++(env.cells.map fun c=>some (.ref c.2)).toArray }:Obj))=F
   have hFo:∀o,∃sl,F o={ o with slots:=sl }:=fun o=>by rw[<- hF];exact⟨_,rfl⟩
   have nf:(F o).isFreed=false:=by
    obtain⟨sl,e⟩:=hFo o
    rw[e]
    have:=Ei ho
    obtain⟨c,d,dt,s0⟩:=o
    cases dt <;> first | rfl | exact this
   have hself:(s.heap.update L F).get? L=some (F o):=Lr _ ho nf
   have hsame:=Lc s.heap L F
   refine ih (fun e he=>?_) fun h' z1 z2 z3=>q h' (z1.trans hsame.1) (fun b hb=>?_) fun M hM o' eo=>?_
   .obtain⟨a1,M,om,a2,a3⟩:=hl e (KO _ he)
    by_cases eq:M=L
    .subst eq;exact⟨a1,_,_,a2,hself⟩
    .exact⟨a1,M,om,a2,(hsame.2 M eq).trans a3⟩
   .have hbL:b≠L:=fun e=>hb (by rw[e];exact fg.mpr ⟨env,LV ..,hf⟩)
    have hbo:b∉aH outer:=fun h=>hb (by obtain⟨e,e1,e2⟩:=fg.mp h;exact fg.mpr ⟨e,KO _ e1,e2⟩)
    exact(z2 b hbo).trans (hsame.2 b hbL)
   .have mid:∃sl,(s.heap.update L F).get? M=some { o' with slots:=sl }:=by
     by_cases eq:M=L
     .subst eq
      rw[ho] at eo
      cases eo
      obtain⟨sl,e⟩:=hFo o
      exact⟨sl,by rw[hself,e]⟩
     .exact⟨o'.slots,(hsame.2 M eq).trans eo⟩
    obtain⟨sl,e⟩:=mid
    by_cases hm:M∈aH outer
    .obtain⟨sl2,e2⟩:=z3 M hm _ e
     exact⟨sl2,e2⟩
    .exact⟨sl,(z2 M hm).trans e⟩
structure cF (env:Env) (outer:List Env) (ρ:List Kj) (h:Heap):Prop where
 fr:cJ (env::outer) ρ h
 frm:env.frame=some env.locals
 apart:∀L∈aH outer,L∉own env
noncomputable def bS (env:Env) (outer:List Env):List Kj:=own env++aH outer
theorem cF.go {ow:List Kj} (x:cF env outer ρ s.heap) (y:Go ow ρ s ρ' s'):cF env outer ρ' s'.heap:=⟨x.fr.go y,x.frm,x.apart⟩
theorem cJ.at_ {l:List Env} (x:cJ l ρ h) (hL:L∈aH l):∃o,h.get? L=some o/\L∉ρ/\N0 <=L:=by
 obtain⟨e,he,hf⟩:=fg.mp hL
 obtain⟨_,M,o,h1,h2,h3,h4⟩:=x.all e he
 rw[hf] at h1
 cases h1
 exact⟨o,h2,h3,h4⟩
theorem cJ.tail {e:Env} {l:List Env} (x:cJ (e::l) ρ h):cJ l ρ h:=⟨fun a ha=>x.all a (KO _ ha)⟩
theorem dD (h:env.frame=some env.locals):aH (env::outer)=env.locals::aH outer:=by
 unfold aH
 rw[List.filterMap_cons,h]
theorem ka (h:env.frame=some env.locals):∀a∈aH (env::outer),a∈bS env outer:=fun a ha=>by
 rw[dD h] at ha
 rcases Ka.mp ha with rfl | q
 .exact KD _ (.head _)
 .exact Kt _ q
theorem aS.go {ow:List Kj} (y:Go ow ρ s ρ' s') (h1:∀L∈fs,L∉ρ) (h2:∀L∈fs,L∉ow):aS fs s.heap s'.heap:=.kept fun L hL o e=>y.kept L o e (h1 L hL) (h2 L hL)
theorem ER.goW {loc:List (Str×V)} (x:ER ρ s.heap env loc) (fe:cF env outer ρ s.heap) (y:Go (aH (env::outer)) ρ s ρ' s') (u:aS (aH (env::outer)) s.heap s'.heap):ER ρ' s'.heap env loc:=by
 obtain⟨ν,e,hν⟩:=y.pre
 obtain⟨m,hm,hl⟩:=x.loc
 have nin:∀{a:Kj} {o:Obj},s.heap.get? a=some o->a∉ρ->a∉ρ':=fun h1 h2 h3=>by
  rw[e] at h3
  rcases List.mem_append.mp h3 with h | h
  .exact h2 h
  .rw[hν _ h] at h1;exact nS h1
 obtain⟨oL,es,ep,hoL,r⟩:=hm
 have hL:env.locals∈aH (env::outer):=by rw[dD fe.frm];exact .head _
 obtain⟨sl,hoL'⟩:=u _ hL _ hoL
 have ncell:∀p∈env.cells,p.2∉aH (env::outer):=fun p hp hm=>by
  rw[dD fe.frm] at hm
  rcases Ka.mp hm with q | q
  .exact(x.clow p hp).2.2.2 q
  .exact fe.apart _ q (KO _ (List.mem_map.mpr ⟨p,hp,rfl⟩))
 refine⟨x.glob,x.blt,x.kind,⟨m,⟨_,es,ep,hoL',r⟩,fun z hz=>e▸aL.mono (hl z hz)⟩,fun z hz=>?_,⟨x.low.1,nin hoL x.low.2⟩,fun p hp=>?_,x.capart⟩
 .obtain⟨c,o,h1,⟨ob,h2,h3⟩,h4⟩:=x.cell z hz
  have hp:=mem_of_lookup h1
  exact⟨c,o,h1,⟨ob,y.keep _ _ h2 (x.clow _ hp).2.2.1 (ncell _ hp) (dg (x.clow _ hp).1),h3⟩,e▸aL.mono h4⟩
 .obtain⟨a1,⟨ob,a2⟩,a3,a4⟩:=x.clow p hp
  exact⟨a1,y.alive _ _ a2,nin a2 a3,a4⟩
noncomputable def bm (g:G) (D:Nat) (sc:Scope) (σ:S) (t:Env->Sem α) (R:List Kj->α->Prop) (σ':S):Prop:=
 ∀(A:Lj) (env:Env) (ρ:List Kj) (s:Kl) (outer:List Env),env.scope=sc->aB D A->A.frames=some (env::outer)->cF env outer ρ s.heap->St g env σ ρ s->
  J6 (Kx PW g.w) A (t env) (fun x s'=>∃ρ',R ρ' x/\St g env σ' ρ' s'/\Go (bS env outer) ρ s ρ' s'/\aS (aH outer) s.heap s'.heap) (fun _ _=>False) s
noncomputable def qS (g:G) (D:Nat) (os:List O) (ρ:List Kj) (t:Sem α) (R:List Kj->α->Prop) (os':List O):Prop:=
 ∀(A:Lj) (s:Kl) (l:List Env),aB D A->A.frames=some l->cJ l ρ s.heap->HR g.w.params ρ os s.heap->g.K.In s.heap->
  J6 (Kx PW g.w) A t (fun x s'=>∃ρ',R ρ' x/\HR g.w.params ρ' os' s'.heap/\Go (aH l) ρ s ρ' s'/\aS (aH l) s.heap s'.heap) (fun _ _=>False) s
noncomputable def cY (g:G) (D:Nat) (f:V) (args:List V) (kw:List (Str×V)) (os:List O) (v:V) (os':List O):Prop:=
 ∀ρ x xs ks,RelV ρ f x->ae (RelV ρ) args xs->ae (RelV ρ) (kw.map (·.2)) ks->qS g D os ρ (call x xs ((kw.map (·.1)).zip ks)) (fun ρ' z=>RelV ρ' v z) os'
noncomputable def jD (g:G) (D:Nat) (f:V) (args:List V) (kw:List (Str×V)) (os:List O) (v:V) (os':List O):Prop:=
 ∀ρ x xs ks,RelV ρ f x->ae (RelV ρ) args xs->ae (RelV ρ) (kw.map (·.2)) ks->∀(A:Lj) (s:Kl) (l:List Env) (R:Mo->Kl->Prop),aB D A->A.frames=some l->cJ l ρ s.heap->HR g.w.params ρ os s.heap->g.K.In s.heap->
  (∀z s' ρ',RelV ρ' v z->HR g.w.params ρ' os' s'.heap->Go (aH l) ρ s ρ' s'->aS (aH l) s.heap s'.heap->R (.ok (.ret z)) s')->Ky (Kx PW g.w) A (.call x ⟨xs,(kw.map (·.1)).zip ks⟩) R s
theorem jD.cl {f:V} (h:jD g D f args kw os v os'):cY g D f args kw os v os':=fun ρ x xs ks hx hxs hks A s l hr fa fl hh hK=>
 Ll (h ρ x xs ks hx hxs hks A s l _ hr fa fl hh hK fun z s' ρ' h1 h2 h3 h4=>⟨ρ',h1,h2,h3,h4⟩)
theorem bm.ofS {t:Env->Sem α} (h:aP g D sc σ t R σ₁):bm g D sc σ t R σ₁:=fun A env ρ s outer he hr fa fe st=>
 Kr (h A env ρ s he hr st) (fun x s' ⟨ρ',r,st',g'⟩=>⟨ρ',r,st',g'.weak (fun _ q=>KD _ q),.go g' (fun L hL=>(fe.fr.tail.at_ hL).choose_spec.2.1) fe.apart⟩) fun _ _ z=>z
theorem qS.ofS {t:Sem α} (h:Lf g D os ρ t R os'):qS g D os ρ t R os':=fun A s l hr fa fl hh hK=>
 Kr (h A s hr hh hK) (fun x s' ⟨ρ',r,st',g'⟩=>⟨ρ',r,st',g'.nil,.go g' (fun L hL=>(fl.at_ hL).choose_spec.2.1) (fun _ _ q=>nomatch q)⟩) fun _ _ z=>z
theorem bm.use {t:Env->Sem α} (h:bm g D sc σ t R σ₁) (he:env.scope=sc) (hr:aB D A) (fa:A.frames=some (env::outer)) (fe:cF env outer ρ s.heap) (hs:St g env σ ρ s)
  {Q:α->Kl->Prop} (k:∀x s1 ρ1,R ρ1 x->St g env σ₁ ρ1 s1->cF env outer ρ1 s1.heap->Go (bS env outer) ρ s ρ1 s1->aS (aH outer) s.heap s1.heap->Q x s1):J6 (Kx PW g.w) A (t env) Q E s:=
 Kr (h A env ρ s outer he hr fa fe hs) (fun x s1 ⟨ρ1,a,b,c,d⟩=>k x s1 ρ1 a b (fe.go c) c d) (fun _ _ z=>z.elim)
theorem qS.use {t:Sem α} (h:qS g D os ρ t R os') {loc:List (Str×V)} (hr:aB D A) (fa:A.frames=some (env::outer)) (fe:cF env outer ρ s.heap) (hs:St g env ⟨os,loc⟩ ρ s)
  {Q:α->Kl->Prop} (k:∀x s1 ρ1,R ρ1 x->St g env ⟨os',loc⟩ ρ1 s1->cF env outer ρ1 s1.heap->Go (bS env outer) ρ s ρ1 s1->aS (aH outer) s.heap s1.heap->Q x s1):J6 (Kx PW g.w) A t Q E s:=
 Kr (h A s (env::outer) hr fa fe.fr hs.hr hs.k) (fun x s1 ⟨ρ1,a,b,c,d⟩=>k x s1 ρ1 a ⟨b,hs.er.goW fe c d,bY hs.k hs.hr (fun L hL=>(fe.fr.at_ hL).choose_spec.2.2) c⟩ (fe.go c) (c.weak (ka fe.frm)) (d.sub fun L hL=>by rw[dD fe.frm];exact .tail _ hL)) (fun _ _ z=>z.elim)
noncomputable def dQ (g:G) (D:Nat) (sc:Scope) (σ:S) (e:Expr) (v:V) (σ':S):Prop:=bm g D sc σ (fun env=>KP e env) (fun ρ x=>RelV ρ v x) σ'
noncomputable def xJ (g:G) (D:Nat) (sc:Scope) (σ:S) (e:Expr) (b:Bool) (σ':S):Prop:=bm g D sc σ (fun env=>isTrue e env (KP e env)) (fun _ x=>x=b) σ'
noncomputable def cy (g:G) (D:Nat) (sc:Scope) (σ:S) (st:Kz) (f:F) (σ':S):Prop:=bm g D sc σ (fun env=>exec st env) (fun ρ x=>dU ρ f x) σ'
noncomputable def aQ (g:G) (D:Nat) (sc:Scope) (σ:S) (st:List Kz) (f:F) (σ':S):Prop:=bm g D sc σ (fun env=>Lq st env) (fun ρ x=>dU ρ f x) σ'
theorem aQ.nil:aQ g D sc σ [] .next σ:=bm.ofS Exs.nil
theorem aQ.cons {st:Kz} {r:List Kz} (h:cy g D sc σ st .next σ₁) (k:aQ g D sc σ₁ r f σ₂):aQ g D sc σ (st::r) f σ₂:=fun A env ρ s outer he hr fa fe hs=>
 LN (h.use he hr fa fe hs fun x s1 ρ1 e st1 fe1 g1 u1=>by
  obtain rfl:x=.next:=e
  exact k.use he hr fa fe1 st1 fun y s2 ρ2 r2 st2 fe2 g2 u2=>⟨ρ2,r2,st2,g1.trans g2,u1.trans u2⟩)
theorem aQ.stop {st:Kz} {r:List Kz} (h:cy g D sc σ st f σ₁) (hf:f≠.next):aQ g D sc σ (st::r) f σ₁:=fun A env ρ s outer he hr fa fe hs=>
 LN (h.use he hr fa fe hs fun x s1 ρ1 e st1 fe1 g1 u1=>by
  cases f with
  | next=>exact absurd rfl hf
  | brk=>obtain rfl:x=.brk:=e;exact⟨ρ1,rfl,st1,g1,u1⟩
  | cont=>obtain rfl:x=.cont:=e;exact⟨ρ1,rfl,st1,g1,u1⟩
  | ret v=>obtain⟨y,rfl,hy⟩:=e;exact⟨ρ1,⟨y,rfl,hy⟩,st1,g1,u1⟩)
theorem aQ.app (h:aQ g D sc σ l₁ .next σ₁) (k:aQ g D sc σ₁ l₂ f σ₂):aQ g D sc σ (l₁++l₂) f σ₂:=fun A env ρ s outer he hr fa fe hs=>by
 show J6 _ _ (Lq (l₁++l₂) env) _ _ _
 rw[dv]
 refine J7 (h.use he hr fa fe hs fun x s1 ρ1 r1 st1 fe1 g1 u1=>?_)
 obtain rfl:x=.next:=r1
 exact k.use he hr fa fe1 st1 fun y s2 ρ2 r2 st2 fe2 g2 u2=>⟨ρ2,r2,st2,g1.trans g2,u1.trans u2⟩
theorem cy.expr {pos:Pos} (h:dQ g D sc σ e v σ₁) (hp:cX e=true:=by rfl):cy g D sc σ (.Expr e pos) .next σ₁:=fun A env ρ s outer he hr fa fe hs=>
 wpAny_Expr_any (h.use he hr fa fe hs fun x s1 ρ1 r st1 fe1 g1 u1=>⟨ρ1,rfl,st1,g1,u1⟩) (by unfold interactive;rw[hs.er.kind];rfl) (ce hp _ _ _)
theorem St.low (st:St g env σ ρ s):∀a∈own env,N0 <=a:=fun a ha=>by
 rcases Ka.mp ha with rfl | q
 .exact st.er.low.1
 .obtain⟨p,hp,rfl⟩:=List.mem_map.mp q
  exact(st.er.clow p hp).1
theorem fT (fe:cF env outer ρ1 s1.heap) (g1:Go (bS env outer) ρ s ρ1 s1) (u1:aS (aH outer) s.heap s1.heap) (g2:Go (own env) ρ1 s1 ρ2 s2):Go (bS env outer) ρ s ρ2 s2/\aS (aH outer) s.heap s2.heap:=
 ⟨g1.trans (g2.weak fun _ q=>KD _ q),u1.trans (.go g2 (fun L hL=>(fe.fr.tail.at_ hL).choose_spec.2.1) fe.apart)⟩
theorem cy.assign {px pos:Pos} (h:dQ g D sc σ e v σ₁) (hx:aK sc x) (hp:cX e=true:=by rfl):cy g D sc σ (.Assign [.Name x px] e pos) .next ⟨σ₁.os,put σ₁.loc x v⟩:=fun A env ρ s outer he hr fa fe hs=>by
 subst he
 exact Nz (h.use rfl hr fa fe hs fun y s1 ρ1 r st1 fe1 g1 u1=>dI st1 hx r fun s' st' g'=>⟨ρ1,rfl,st',(fT fe1 g1 u1 g').1,(fT fe1 g1 u1 g').2⟩) (ce hp _ _ _)
theorem cy.ret (h:dQ g D sc σ e v σ₁):cy g D sc σ (.Return (some e) pos) (.ret v) σ₁:=fun A env ρ s outer he hr fa fe hs=>
 Ny (h.use he hr fa fe hs fun x s1 ρ1 r st1 fe1 g1 u1=>⟨ρ1,⟨x,rfl,r⟩,st1,g1,u1⟩)
theorem dQ.call {args:List Expr} {f:V} {vs:List V} (hf:Ev g D sc σ func f σ₁) (ha:bU g D sc σ₁ args vs σ₂) (hk:dC g D sc σ₂ pos kws kvs σ₃) (kp:Kp g σ₃.os f)
  (c:cY g D f vs ((kwNames kws).zip kvs) σ₃.os v os') (h1:gm func=true:=by rfl) (h2:aW args=true:=by rfl) (h3:bO kws=true:=by rfl) (h4:(kwNames kws).length=kvs.length:=by rfl) :
  dQ g D sc σ (.Call func args kws pos) v ⟨os',σ₃.loc⟩:=fun A env ρ s outer he hr fa fe hs=>by
 show J6 _ _ (KP (.Call func args kws pos) env) _ _ _
 rw[fK h1,aF h2,aO]
 refine J7 (hf.use he hr hs fun x s1 ρ1 rx st1 g1=>bd (bc (bM _) (bD h3) (ha.use he hr st1 fun xs s2 ρ2 rs st2 g2=>hk.use he hr st2 fun ys s3 ρ3 ry st₃ g3=>?_)))
 refine kp A ρ3 s3 x _ _ ((rx.go g2).go g3) st₃.hr st₃.k fun k=>?_
 have z:=c ρ3 x xs ys ((rx.go g2).go g3) (rs.go g3) (by rw[(da h4).2];exact ry)
 rw[(da h4).1] at z
 rw[cV,Ng]
 have gg:=(g1.trans g2).trans g3
 obtain⟨gW,uW⟩:=fT fe (Go.refl _ ρ s) (aS.refl _ _) gg
 exact z.use hr fa (fe.go gg) st₃ fun w s4 ρ4 rw st4 fe4 g4 u4=>⟨ρ4,rw,st4,gW.trans g4,uW.trans u4⟩
theorem dQ.meth {o:Expr} {name:Str} {args:List Expr} {apos:Pos} {a f:V} {vs:List V} (ho:Ev g D sc σ o a σ₁) (hm:an g a name σ₁.os f) (ha:bU g D sc σ₁ args vs σ₂) (hk:dC g D sc σ₂ pos kws kvs σ₃) (kp:Kp g σ₃.os f)
  (c:cY g D f (a::vs) ((kwNames kws).zip kvs) σ₃.os v os') (h1:cI o=true:=by rfl) (h2:aW args=true:=by rfl) (h3:bO kws=true:=by rfl) (h4:(kwNames kws).length=kvs.length:=by rfl) (h5:bJ apos pos (args.length + kws.length)=true:=by rfl) :
  dQ g D sc σ (.Call (.Attribute o name apos) args kws pos) v ⟨os',σ₃.loc⟩:=fun A env ρ s outer he hr fa fe hs=>by
 show J6 _ _ (KP (.Call (.Attribute o name apos) args kws pos) env) _ _ _
 rw[eA h1 h5 h2 h3,aF h2,aO]
 refine J7 (ho.use he hr hs fun x s1 ρ1 rx st1 g1=>J7 (KT (J7 (KQ (hm A ρ1 s1 x _ _ _ rx st1.hr st1.k fun y tk ry=>?_)))))
 have st1':=st1.toks tk
 refine bd (bc (bM _) (bD h3) (ha.use he hr st1' fun xs s2 ρ2 rs st2 g2=>hk.use he hr st2 fun ys s3 ρ3 rys st₃ g3=>?_))
 refine kp A ρ3 s3 y _ _ ((ry.go g2).go g3) st₃.hr st₃.k fun k=>?_
 have z:=c ρ3 y (x::xs) ys ((ry.go g2).go g3) (.cons ((rx.go g2).go g3) (rs.go g3)) (by rw[(da h4).2];exact rys)
 rw[(da h4).1] at z
 rw[cV]
 have gg:Go (own env) ρ s ρ3 s3:=(g1.trans ((Go.toks ..).trans g2)).trans g3
 obtain⟨gW,uW⟩:=fT fe (Go.refl _ ρ s) (aS.refl _ _) gg
 exact z.use hr fa (fe.go gg) st₃ fun w s4 ρ4 rw st4 fe4 g4 u4=>⟨ρ4,rw,st4,gW.trans g4,uW.trans u4⟩
theorem jD.def_ {fd:KN} (fn:Fn g a fd body) (hb:bf g D fd args kw os bs os₁)
  (hk:∀x∈bs,fd.scope.names.lookup x.1=some .local\/fd.scope.names.lookup x.1=some .cell) (nd:(bs.map (·.1)).Nodup)
  (h:aQ g D fd.scope ⟨os₁,bs⟩ body f σ₁) (hv:rU f=v) (hf:f≠.brk/\f≠.cont):jD g (D + 1) (.top (.ref a)) args kw os v σ₁.os:=fun ρ x xs ks hx hxs hks A s l R hr fa fl hh hK hR=>by
 obtain rfl:x=.ref a:=hx
 obtain⟨oc,od,sl,hat⟩:=fn.at_
 refine ME (by have:=hr.depth;lia) (hK _ _ hat) rfl fn.co fn.gen fn.body (codeRec_of hK fn.code) ?_
 refine Kr (hb ρ xs ks hxs hks A.in1 s hr.in1 hh hK) (fun cs s1 ⟨ρ1,hbs,hr1,g1⟩=>?_) (fun _ _ z=>z.elim)
 have hK1:g.K.In s1.heap:=bY (ow:=[]) hK hh (fun _ h=>(nomatch h)) g1
 have hN1:N0 <=s1.heap.objs.size:=aV hK1
 rw[fn.clo]
 refine Mi fn.kind (fun c hc=>?_) fun env he s2 ic=>?_
 .obtain⟨b,h1,h2⟩:=iS hbs hc
  rw[<- h2]
  exact(hk b h1).imp id fun q=>⟨q,fn.cells _ (.inl q) _⟩
 .have hsc:env.scope=fd.scope:=by rw[he];rfl
  have hloc:env.locals=s1.heap.objs.size:=by rw[he];rfl
  have hcel:env.cells=K7 (s1.heap.objs.size + 1) fd.scope.names []:=by rw[he];rfl
  have hglo:env.globals=K9:=by rw[he];exact fn.glob
  have hblt:env.builtins=LL:=by rw[he];exact fn.blt
  have hfrm:env.frame=some env.locals:=by rw[he];rfl
  have keep:=ic.toInCall.keep
  obtain⟨h₂,tk,es₂,_⟩:=ic.done
  have hK2:g.K.In s2.heap:=fun b o e=>keep _ _ (hK1 b o e)
  have hns:=ic.toInCall.ns
  have sz:s1.heap.objs.size <=s2.heap.objs.size:=by
   have:=hns.lt
   rw[hloc] at this
   exact Nat.le_of_lt this
  have old:∀{b:Kj},b∈ρ1->b < s1.heap.objs.size:=fun hb=>hr1.lt hb
  have clow:∀p∈env.cells,s1.heap.objs.size + 1 <=p.2:=by rw[hcel];exact dZ _ _ _ _ (fun _ h=>(nomatch h)) (Km _)
  have er:ER ρ1 s2.heap env bs:=by
   refine⟨hglo,hblt,by rw[hsc];exact fn.kind,⟨_,hns,fun z hz=>et (gY hbs nd _ z hz) rfl⟩,fun z hz=>?_,⟨by rw[hloc];exact hN1,fun hm=>?_⟩,fun p hp=>?_,fun z z' c h1 h2=>name_of_addr ic.apart h1 h2⟩
   .have hz':fd.scope.names.lookup z=some .cell\/fd.scope.names.lookup z=some .free:=by rw[<- hsc];exact hz
    obtain⟨c,hc⟩:=Option.isSome_iff_exists.mp (fn.cells z hz' (s1.heap.objs.size + 1))
    rw[<- hcel] at hc
    refine⟨c,_,hc,ic.cell z c hc,et (gM hbs nd _ z fun q=>?_) rfl⟩
    rcases hz with q' | q' <;> (rw[q] at q';cases q')
   .have:=old hm
    rw[hloc] at this
    exact KM _ this
   .have lo:=clow _ hp
    have hc:env.cells.lookup p.1=some p.2:=Nf (by rw[hcel];exact NT fd.scope.names 0 (s1.heap.objs.size + 1) [] [] rfl▸fn.cnd) hp
    refine⟨Lh hN1 (Lo lo),let⟨ob,e,_⟩:=ic.cell p.1 p.2 hc;⟨ob,e⟩,fun hm=>?_,fun q=>?_⟩
    .have:=old hm
     exact absurd this (Nat.not_lt.mpr (Lo lo))
    .rw[hloc] at q
     have:s1.heap.objs.size + 1 <=p.2:=lo
     rw[q] at this
     exact KM _ this
  have st:St g env ⟨os₁,bs⟩ ρ1 s2:=⟨hr1.keeps keep,er,hK2⟩
  have ownNew:∀b∈own env,s1.heap.objs.size <=b:=fun b hm=>by
   rcases Ka.mp hm with q | q
   .rw[q,hloc];exact Km _
   .obtain⟨p,hp,rfl⟩:=List.mem_map.mp q
    exact Lo (clow p hp)
  have fl1:cJ l ρ1 s1.heap:=fl.go g1
  have fl2:cJ l ρ1 s2.heap:=⟨fun e he=>let⟨a1,L,o,a2,a3,a4,a5⟩:=fl1.all e he;⟨a1,L,o,a2,keep _ _ a3,a4,a5⟩⟩
  have fe2:cF env l ρ1 s2.heap:=by
   refine⟨⟨fun e he=>?_⟩,hfrm,fun L hL hm=>?_⟩
   .rcases Ka.mp he with rfl | q
    .obtain⟨oL,es,ep,hoL,_⟩:=hns
     refine⟨by rw[hsc,fn.kind];decide,e.locals,oL,hfrm,hoL,er.low.2,er.low.1⟩
    .exact fl2.all e q
   .obtain⟨o,e,_⟩:=fl1.at_ hL
    exact absurd (KJ e) (Nat.not_lt.mpr (ownNew L hm))
  refine⟨g.lim _ hK2,NS ?_⟩
  refine h.use hsc hr.deeper (outer:=l) (by show A.frames.map (env::·)=_;rw[fa];rfl) fe2 st fun fl s3 ρ3 rf st₃ fe3 g3 u3=>?_
  have gens2:s2.gens=s1.gens:=by rw[es₂]
  have os₂:s2.os=s1.os:=by rw[es₂]
  have dr2:s2.drawn=s1.drawn:=by rw[es₂]
  have gW:Go (aH l) ρ s ρ3 s3:=by
   refine g1.nil.trans ⟨?_,fun b o e h1 h2=>g3.kept b o (keep _ _ e) h1 fun hm=>?_,fun b o e=>g3.alive b o (keep _ _ e),g3.gens.trans gens2,g3.os.1.trans os₂,g3.os.2.trans dr2⟩
   .obtain⟨ν,e,hν⟩:=g3.pre
    refine⟨ν,e,fun a ha=>?_⟩
    cases q:s1.heap.get? a with
    | none=>rfl
    | some o=>have:=keep _ _ q;rw[hν a ha] at this;exact nS this
   .rcases List.mem_append.mp hm with q | q
    .exact absurd (KJ e) (Nat.not_lt.mpr (ownNew b q))
    .exact h2 q
  have uW:aS (aH l) s.heap s3.heap:=by
   refine(aS.go g1 (fun L hL=>?_) (fun _ _ q=>nomatch q)).trans ((aS.kept fun L hL o e=>keep _ _ e).trans u3)
   obtain⟨e,he,hf⟩:=fg.mp hL
   obtain⟨_,M,o,h1,h2,h3,_⟩:=‹cJ l ρ s.heap›.all e he
   rw[hf] at h1
   cases h1
   exact h3
  have fin:∀y,RelV ρ3 v y->R (.ok (.ret y)) s3:=fun y hy=>hR y s3 ρ3 hy st₃.hr gW uW
  subst hv
  cases f with
  | next=>obtain rfl:fl=.next:=rf;exact fin _ rfl
  | brk=>exact absurd rfl hf.1
  | cont=>exact absurd rfl hf.2
  | ret w=>obtain⟨y,rfl,hy⟩:=rf;exact fin _ hy
theorem Ex.assignH (h:Ev g D sc σ e v σ₁) (ha:eK g D sc σ₁ ts v σ₂) (hw:LY ts e (gS sc)=pure none) (hp:∀env,Mj ts e pos.line env=pure false):Ex g D sc σ (.Assign ts e pos) .next σ₂:=fun A env ρ s he hr hs=>by
 subst he
 show J6 _ _ (do
  K8 pos
  if <- Mj ts e pos.line env then do
   evalThenUse e env fun v=>assignAll v ((Mb ts env).map (·.2))
   pure .next
  else do
   let v <- KP e env
   assignStores env v (<- LY ts e env) ((Mb ts env).map (·.2))) _ _ _
 rw[hp,(jf _ _ _).trans hw]
 refine J7 (KT (J7 (Kb ?_)))
 rw[if_neg (by decide)]
 refine J7 (h.use rfl hr hs fun x s1 ρ1 rx st1 g1=>J7 (Kb ?_))
 refine J7 (Kr (ha A env ρ1 s1 x rfl hr st1 rx) (fun _ s2 ⟨ρ2,st2,g2⟩=>Kb ⟨ρ2,rfl,st2,g1.trans g2⟩) fun _ _ z=>z.elim)
theorem wc {o:Expr} {name:Str} {p:Pos} (n:Nat) (env:Env):Mj [.Attribute o name p] (.ListComp elt gens scope cp) n env=pure false:=by
 unfold Mj swapsWith
 rfl
noncomputable def ga:List Kz:=(aM 14 3).2.1
noncomputable def jB:Kz:=ah ga 1
noncomputable def iC:Expr:=sN 0 jB
noncomputable def Cm:Scope:=compSc (cSc cU.scope iC) cU.scope
theorem Cu:jB=.Assign [.Attribute (eN 0 (sN 1 jB)) "_ready_nodes" (eP (sN 1 jB))] (fb cU.scope iC) (sP jB):=∅
theorem wF:ga=ga.take 1++(jB::ga.drop 2):=∅
noncomputable def ls (si:Nat):List (Str×V):=[("self",.ref si)]
theorem tW (w:J9) (si:Nat) (os:List O) (h1:aj (aa w) 3 (.ref si) "_ready_nodes" os .none os):Exs (aa w) 3 cU.scope ⟨os,ls si⟩ (ga.take 1) .next ⟨os,ls si⟩:=
 mV (X:=XU w 3 [("_ready_nodes",.none)]) (c:=[.p (aj (aa w) 3 (.ref si) "_ready_nodes" os .none os)]) ∅ ⟨h1,trivial⟩
noncomputable def sS:V:=.top (.builtin "dict.values")
theorem zP (w:J9) (si mi:Nat) (os os1:List O) (v:Nat) (h1:aj (aa w) 3 (.ref si) "_node2info" os (.ref mi) os) (h2:an (aa w) (.ref mi) "values" os sS) (h3:Cl (aa w) 3 sS [.ref mi] [] os (.ref v) os1) :
  Ev (aa w) 3 cU.scope ⟨os,ls si⟩ (ag iC).iter (.ref v) ⟨os1,ls si⟩:=
 dp (hk:={ m:=[(94,45,94,69,sS)],c:=[(94,45,94,69,fun _ _ _=>(.ref v,os1))] }) (X:=XU w 3 [("_node2info",.ref mi)])
  (c:=[.p (aj (aa w) 3 (.ref si) "_node2info" os (.ref mi) os),.p (an (aa w) (.ref mi) "values" os sS),.p (Cl (aa w) 3 sS [.ref mi] [] os (.ref v) os1)]) ∅ ⟨h1,h2,h3,trivial⟩
noncomputable def li (i:Nat):List (Str×V):=[("i",.ref i)]
theorem zA (w:J9) (i:Nat) (n:Int) (b:Bool) (os:List O) (h1:aj (aa w) 3 (.ref i) "npredecessors" os (.int n) os) (h2:(n==0)=b):gV (aa w) 3 Cm ⟨os,li i⟩ (ag iC).ifs b ⟨os,li i⟩:=by
 rw[show(ag iC).ifs=[(ag iC).ifs.getD 0 default] by kernel_rfl]
 refine .one ?_
 cases b with
 | true=>exact(tT (hk:={}) (X:=XU w 3 [("npredecessors",.int n)]) (n:=12) (o:={ ts:=[(94,73,true)] }) (c:=[.b (n==0) true,.p (aj (aa w) 3 (.ref i) "npredecessors" os (.int n) os)]) ∅ ⟨h2,h1,trivial⟩)
 | false=>exact(tT (hk:={}) (X:=XU w 3 [("npredecessors",.int n)]) (n:=12) (o:={ ts:=[(94,73,false)] }) (c:=[.b (n==0) false,.p (aj (aa w) 3 (.ref i) "npredecessors" os (.int n) os)]) ∅ ⟨h2,h1,trivial⟩)
theorem zh (w:J9) (i:Nat) (x:Str) (os:List O) (h1:aj (aa w) 3 (.ref i) "node" os (.str x) os):Ev (aa w) 3 Cm ⟨os,li i⟩ (eN 0 iC) (.str x) ⟨os,li i⟩:=
 pm (X:=XU w 3 [("node",.str x)]) (c:=[.p (aj (aa w) 3 (.ref i) "node" os (.str x) os)]) ∅ ⟨h1,trivial⟩
theorem yK (w:J9) (si r:Nat) (os os1:List O) (h:az (aa w) 3 (.ref si) "_ready_nodes" (.ref r) os os1):aX (aa w) 3 cU.scope ⟨os,ls si⟩ (.Attribute (eN 0 (sN 1 jB)) "_ready_nodes" (eP (sN 1 jB))) (.ref r) ⟨os1,ls si⟩:=
 aX.attr (aC (X:=X0 w 3 aq) ∅ : Ev (aa w) 3 cU.scope ⟨os,ls si⟩ (eN 0 (sN 1 jB)) (.ref si) ⟨os,ls si⟩) h
theorem yr (n:Int):(n==0)=decide (n=0):=by
 by_cases h:n=0
 .subst h;rfl
 .rw[decide_eq_false h];exact beq_eq_false_iff_ne.mpr h
theorem nX (h:os[i]?=some o):os.set i o=os:=by
 obtain⟨hl,e⟩:=List.getElem?_eq_some_iff.mp h
 rw[<- e,List.set_getElem_self]
noncomputable def dd (np:Nat->Int) (ns:List Nat):List Nat:=ns.filter fun m=>decide (np m=0)
set_option tactic.hygienic true in
theorem ua (w:J9) (A:SA os t) (hn:t.ns.length <=100) :
  ∃os',Ex (aa w) 3 cU.scope ⟨os,ls t.si⟩ jB .next ⟨os',ls t.si⟩/\SA os' { t with rd:=.ref (os.length + 1) }/\cw os t os' { t with rd:=.ref (os.length + 1) }/\os'[os.length + 1]?=some (.list (mkW (dd t.np t.ns)))/\¬ Ow t (os.length + 1):=by
 obtain⟨n0,hd⟩:=A.d
 have es0:os[t.mi]?=some (.map (t.ns.map fun m=>(wdN m,V.ref (t.ix m)))):=A.m
 generalize hes:(t.ns.map fun m=>(wdN m,V.ref (t.ix m)))=es at es0
 have ml:t.mi < os.length:=A.lt (.inr (.inr (.inl rfl)))
 have fr:¬ Ow t (os.length + 1):=fun q=>by have:=A.lt q;lia
 have nlen:es.length=t.ns.length:=by rw[<- hes];simp
 have ndm:t.di≠t.mi:=a9 hd es0 nofun
 have dl:t.di < os.length:=A.lt (.inr (.inl rfl))
 have A2:SA (os++[O.flds "dict_values" [.ref t.mi]]++[O.list (mkW (dd t.np t.ns))]) t:=(A.app _).app _
 obtain⟨B,kB⟩:=A2.setD (.ref (os.length + 1)) t.po t.nf (ie (cQ t.mi t.rd t.po t.nf) "_ready_nodes" n0)
 have gn:∀k,k < t.ns.length->t.ns[k]?=some (t.ns.getD k 0):=fun k hk=>by rw[Kh,Kc hk];rfl
 have mem:∀k,k < t.ns.length->t.ns.getD k 0∈t.ns:=fun k hk=>by rw[Kh,Kc hk];exact Lk hk
 refine⟨_,?_,B,(ec _).trans ((ec _).trans kB),?_,fr⟩
 .refine aP.withMap (es':=es) es0 (fun n=>((os++[O.flds "dict_values" [.ref t.mi]]++[O.list (mkW (dd t.np t.ns))]).set t.di (.dict (cQ t.mi (.ref (os.length + 1)) t.po t.nf) (ie (cQ t.mi t.rd t.po t.nf) "_ready_nodes" n0))).set t.mi (.dict es n)) (fun n=>?_) (fun n=>⟨n,?_,?_⟩)
  .have kk:∀{i:Nat} {o:O},os[i]?=some o->i≠t.mi->∀tl,(os.set t.mi (.dict es n)++tl)[i]?=some o:=fun e q tl=>ab (by rw[ay q];exact e)
   have k0:∀{i:Nat} {o:O},os[i]?=some o->i≠t.mi->(os.set t.mi (.dict es n))[i]?=some o:=fun e q=>by rw[ay q];exact e
   have hs:=A.s
   have nsm:t.si≠t.mi:=a9 hs es0 nofun
   have g1:aj (aa w) 3 (.ref t.si) "_node2info" (os.set t.mi (.dict es n)) (.ref t.mi) (os.set t.mi (.dict es n)):=
    aj.own (g:=aa w) (k0 hs nsm) (k0 hd ndm) rfl (bP w.params _ _ (cE w.params).1).1.1 (bP w.params _ _ (cE w.params).1).1.2 rfl
   have hm:=an.dictM (g:=aa w) (i:=t.mi) (n:=n) (es:=es) (os:=os.set t.mi (.dict es n)) (aT ml) F.slot_dict_values F.type_dict_values
   have hc:=Cl.dictValues (g:=aa w) (D:=3) (i:=t.mi) (n:=n) (es:=es) (os:=os.set t.mi (.dict es n)) (aT ml)
   have it:=zP w t.si t.mi _ _ _ g1 hm hc
   have len1:(os.set t.mi (.dict es n)++[O.flds "dict_values" [.ref t.mi]]).length=os.length + 1:=by simp
   have hv:(os.set t.mi (.dict es n)++[O.flds "dict_values" [.ref t.mi]])[(os.set t.mi (.dict es n)).length]?=some (.flds "dict_values" [.ref t.mi]):=am _ _
   have hmm:∀tl,(os.set t.mi (.dict es n)++tl)[t.mi]?=some (.dict es n):=fun tl=>ab (aT ml)
   obtain⟨l,hl,run⟩:=ba.fm (g:=aa w) (D:=3) (sc:=Cm) (t:=(ag iC).target) (elt:=eN 0 iC) (ifs:=(ag iC).ifs) (x:="i") (nx:=oU t.mi n es.length) (os:=os.set t.mi (.dict es n)++[O.flds "dict_values" [.ref t.mi]]) (l0:=[]) (n:=t.ns.length) (w:=fun k=>.ref (t.ix (t.ns.getD k 0)))
    (fun k=>decide (t.np (t.ns.getD k 0)=0)) (fun k=>.str (wdN (t.ns.getD k 0))) ⟨eP (ag iC).target,∅⟩ (.inl ∅) (by unfold Kg;lia)
    (fun k acc=>by
     have e:(os.set t.mi (.dict es n)++[O.flds "dict_values" [.ref t.mi]]++[O.list acc])[t.mi]?=some (.dict es n):=ab (hmm _)
     rw[oU,nP e,<- hes,KX]
     split
     .rename_i hk;rw[gn k hk];rfl
     .rename_i hk;rw[Kv (Lv hk)];rfl)
    (fun v u=>rfl)
    (fun k acc hk=>by
     have hx:=A.x _ (mem k hk)
     have hy:=A.y _ (mem k hk)
     exact zA w _ _ _ _ (aj.slot (g:=aa w) (ab (kk hx (a9 hx es0 nofun) _)) (ab (kk hy (a9 hy es0 nofun) _)) rfl (fo w.params).2.1 rfl) (yr _))
    (fun k acc hk _=>by
     have hx:=A.x _ (mem k hk)
     have hy:=A.y _ (mem k hk)
     exact zh w _ _ _ (aj.slot (g:=aa w) (ab (kk hx (a9 hx es0 nofun) _)) (ab (kk hy (a9 hy es0 nofun) _)) rfl (fo w.params).1 rfl))
   rw[dy (fun m=>decide (t.np m=0)) (fun m=>V.str (wdN m))] at run
   have ev:=Ev.compI (g:=aa w) (D:=3) (sc:=cU.scope) (scope:=cSc cU.scope iC) (pos:=eP iC) it (aZ.vals hv (hmm _)) ∅ run (fun y hy=>(dz ∅ hy).elim)
   rw[len1] at ev
   have hd2:(os.set t.mi (.dict es n)++[O.flds "dict_values" [.ref t.mi]]++[O.list (mkW (dd t.np t.ns))])[t.di]?=some (.dict (cQ t.mi t.rd t.po t.nf) n0):=ab (kk hd ndm _)
   have hs2:(os.set t.mi (.dict es n)++[O.flds "dict_values" [.ref t.mi]]++[O.list (mkW (dd t.np t.ns))])[t.si]?=some (.inst 174 t.di):=ab (kk hs nsm _)
   have sa:=az.own (g:=aa w) (D:=3) (name:="_ready_nodes") (v:=.ref (os.length + 1)) hs2 hd2 (bP w.params _ _ (cE w.params).2.1).2 (by simp[cQ])
   have ex:=Ex.assignH (pos:=sP jB) ev (eK.one (yK w t.si (os.length + 1) _ _ sa)) ∅ (wc _)
   have e9:(os.set t.mi (.dict es n)++[O.flds "dict_values" [.ref t.mi]]++[O.list (mkW (dd t.np t.ns))]).set t.di (.dict (put (cQ t.mi t.rd t.po t.nf) "_ready_nodes" (.ref (os.length + 1))) (ie (cQ t.mi t.rd t.po t.nf) "_ready_nodes" n0))=
     ((os++[O.flds "dict_values" [.ref t.mi]]++[O.list (mkW (dd t.np t.ns))]).set t.di (.dict (cQ t.mi (.ref (os.length + 1)) t.po t.nf) (ie (cQ t.mi t.rd t.po t.nf) "_ready_nodes" n0))).set t.mi (.dict es n):=by
    rw[List.set_comm _ _ ndm,KG,KG,List.set_append_left _ _ ml]
    rfl
   rw[e9] at ex
   rw[Cu]
   exact ex
  .exact aT (by simp;lia)
  .rw[List.set_set]
   refine nX ?_
   rw[ay (MK ndm)]
   exact ab (ab es0)
 .rw[ay (fun e=>by lia)]
  rw[show os.length + 1=(os++[O.flds "dict_values" [.ref t.mi]]).length by simp]
  exact am _ _
noncomputable def j0:List Kz:=(aM 14 8).2.1
noncomputable def gB:Kz:=ah j0 5
noncomputable def jy:Kz:=ah (af gB) 0
noncomputable def iz:Kz:=ah (af gB) 1
noncomputable def gp:Kz:=ah (af iz) 0
noncomputable def ew:Kz:=ah (af iz) 1
noncomputable def fc:Kz:=ah (af ew) 0
theorem vv:j0=j0.take 5++(gB::j0.drop 6):=∅
theorem Bp:gB=.For (sN 1 gB) (sN 0 gB) (af gB) [] (sP gB):=∅
theorem qK:af gB=[jy,iz]:=∅
theorem Dh:iz=.While (sN 0 iz) (af iz) [] (sP iz):=∅
theorem qQ:af iz=[gp,ew]:=∅
theorem ug:ew=.While (sN 0 ew) (af ew) (bz ew) (sP ew):=∅
theorem qc:af ew=[fc]:=∅
noncomputable def GL:V:=.top (.type "set")
noncomputable def oCy (os:List O):List O:=os++[.list []]++[.list []]++[.set []]++[.map []]
noncomputable def lC (si mi b:Nat) (tl:List (Str×V)):List (Str×V):=("self",.ref si)::("n2i",.ref mi)::("stack",.ref b)::("itstack",.ref (b + 1))::("seen",.ref (b + 2))::("node2stacki",.ref (b + 3))::tl
noncomputable def Du (si mi:Nat) (os:List O):List (Str×V):=[("self",.ref si),("n2i",.ref mi),("stack",.ref os.length),("itstack",.ref (os++[O.list []]).length),("seen",.ref (os++[O.list []]++[O.list []]).length),("node2stacki",.ref (os++[O.list []]++[O.list []]++[O.set []]).length)]
theorem zb (si mi:Nat) (os:List O):Du si mi os=lC si mi os.length []:=by simp[Du,lC]
theorem Aw (w:J9) (si mi:Nat) (os:List O) (h1:aj (aa w) 2 (.ref si) "_node2info" os (.ref mi) os):Exs (aa w) 2 a7.scope ⟨os,ls si⟩ (j0.take 5) .next ⟨oCy os,lC si mi os.length []⟩:=by
 rw[<- zb]
 exact(bq (hk:={ c:=[(145,15,145,20,fun _ _ os=>(.ref os.length,os++[.set []]))] }) (X:=XU w 2 [("_node2info",.ref mi)])
  (c:=[.p (aj (aa w) 2 (.ref si) "_node2info" os (.ref mi) os),.b (KS 0 Kg) true,.b (KS 0 Kg) true,.p (Cl (aa w) 2 GL [] [] (os++[O.list []]++[O.list []]) (.ref (os++[O.list []]++[O.list []]).length) (os++[O.list []]++[O.list []]++[O.set []]))]) ∅ ⟨h1,gz,gz,Cl.set0,trivial⟩)
noncomputable def lCn (si mi b:Nat) (x:Str):List (Str×V):=lC si mi b [("node",.str x)]
noncomputable def ke (w:J9) (x:Str) (i:Nat) (os:List O) (r:Bool):Prop:=ak (aa w) 2 .In (.str x) (.ref i) os (.bool r) os
noncomputable def qx:Expr:=sN 0 (ah (af gp) 0)
theorem Eu:sN 0 jy=.Compare (eN 0 (sN 0 jy)) [.In] [eN 1 (sN 0 jy)] (eP (sN 0 jy)):=∅
theorem Ez:sN 0 gp=.Compare (eN 0 (sN 0 gp)) [.In] [eN 1 (sN 0 gp)] (eP (sN 0 gp)):=∅
theorem D6:qx=.Compare (eN 0 qx) [.In] [eN 1 qx] (eP qx):=∅
noncomputable def jR (w:J9) (si mi b:Nat) (x:Str) (os:List O) (e:Expr) (r:Bool):Prop:=Tr (aa w) 2 a7.scope ⟨os,lCn si mi b x⟩ e r ⟨os,lCn si mi b x⟩
theorem FE (w:J9) (si mi b:Nat) (x:Str) (os:List O) (r:Bool) (h:ke w x (b + 2) os r):jR w si mi b x os (sN 0 jy) r:=by
 unfold jR
 rw[Eu]
 exact Tr.cmp (aC (X:=X0 w 2 aq) (v:=.str x) (s:=⟨os,lCn si mi b x⟩) ∅) (aC (X:=X0 w 2 aq) (v:=.ref (b + 2)) (s:=⟨os,lCn si mi b x⟩) ∅) h ∅
theorem FJ (w:J9) (si mi b:Nat) (x:Str) (os:List O) (r:Bool) (h:ke w x (b + 2) os r):jR w si mi b x os (sN 0 gp) r:=by
 unfold jR
 rw[Ez]
 exact Tr.cmp (aC (X:=X0 w 2 aq) (v:=.str x) (s:=⟨os,lCn si mi b x⟩) ∅) (aC (X:=X0 w 2 aq) (v:=.ref (b + 2)) (s:=⟨os,lCn si mi b x⟩) ∅) h ∅
theorem IL (w:J9) (si mi b:Nat) (x:Str) (os:List O) (r:Bool) (h:ke w x (b + 3) os r):jR w si mi b x os qx r:=by
 unfold jR
 rw[D6]
 exact Tr.cmp (aC (X:=X0 w 2 aq) (v:=.str x) (s:=⟨os,lCn si mi b x⟩) ∅) (aC (X:=X0 w 2 aq) (v:=.ref (b + 3)) (s:=⟨os,lCn si mi b x⟩) ∅) h ∅
theorem DP (w:J9) (si mi b:Nat) (x:Str) (os:List O) (h1:ke w x (b + 2) os true):Exs (aa w) 2 a7.scope ⟨os,lCn si mi b x⟩ [jy] .cont ⟨os,lCn si mi b x⟩:=
 bq (hk:={ t:=[(148,15,148,27,fun σ=>(true,σ))] }) (X:=X0 w 2 aq) (c:=[.p (jR w si mi b x os (sN 0 jy) true)]) ∅ ⟨FE w si mi b x os true h1,trivial⟩
theorem Fp (w:J9) (si mi b:Nat) (x:Str) (os:List O) (h1:ke w x (b + 2) os false):Exs (aa w) 2 a7.scope ⟨os,lCn si mi b x⟩ [jy] .next ⟨os,lCn si mi b x⟩:=
 bq (hk:={ t:=[(148,15,148,27,fun σ=>(false,σ))] }) (X:=X0 w 2 aq) (c:=[.p (jR w si mi b x os (sN 0 jy) false)]) ∅ ⟨FE w si mi b x os false h1,trivial⟩
theorem Fi (w:J9) (si mi b:Nat) (x:Str) (os:List O) (h1:ke w x (b + 2) os true) (h2:ke w x (b + 3) os false):Exs (aa w) 2 a7.scope ⟨os,lCn si mi b x⟩ [gp] .next ⟨os,lCn si mi b x⟩:=
 bq (hk:={ t:=[(151,19,151,31,fun σ=>(true,σ)),(152,23,152,42,fun σ=>(false,σ))] }) (X:=X0 w 2 aq) (c:=[.p (jR w si mi b x os (sN 0 gp) true),.p (jR w si mi b x os qx false)]) ∅ ⟨FJ w si mi b x os true h1,IL w si mi b x os false h2,trivial⟩
noncomputable def mA:V:=.top (.builtin "set.add")
noncomputable def Ba:V:=.top (.builtin "iter")
noncomputable def JX (tb:List (Str×(List O->V×List O))) (a:V) (name:Str) (os:List O):Option (LR fun v os'=>aj g D a name os v os'):=match lk name tb with
 | some f=>some ⟨(f os).1,(f os).2,[.p (aj g D a name os (f os).1 (f os).2)],fun h=>h.1⟩
 | none=>none
theorem E1 (w:J9) (si mi b ix jx it wr n:Nat) (x:Str) (os os1 os2 os3 os4 os5 os6:List O) (h1:ke w x (b + 2) os false) (h2:an (aa w) (.ref (b + 2)) "add" os mA) (h3:Cl (aa w) 2 mA [.ref (b + 2),.str x] [] os .none os1)
  (h4:an (aa w) (.ref (b + 1)) "append" os1 bL) (h5:au (aa w) 2 (.ref mi) (.str x) os1 (.ref ix) os1) (h6:aj (aa w) 2 (.ref ix) "successors" os1 (.ref jx) os1) (h7:Cl (aa w) 2 Ba [.ref jx] [] os1 (.ref it) os2) (h8:aj (aa w) 2 (.ref it) "__next__" os2 (.ref wr) os3)
  (h9:Cl (aa w) 2 bL [.ref (b + 1),.ref wr] [] os3 .none os4) (h10:Cl (aa w) 2 eO [.ref b] [] os4 (.int n) os4) (h11:dG (aa w) 2 (.ref (b + 3)) (.str x) (.int n) os4 os5) (h12:an (aa w) (.ref b) "append" os5 bL) (h13:Cl (aa w) 2 bL [.ref b,.str x] [] os5 .none os6) :
  Exs (aa w) 2 a7.scope ⟨os,lCn si mi b x⟩ [gp] .next ⟨os6,lCn si mi b x⟩:=
 bq (hk:={ t:=[(151,19,151,31,fun σ=>(false,σ))],m:=[(155,20,155,34,mA),(156,20,156,71,bL),(158,20,158,38,bL)],u:=[(156,40,156,49,fun _ _ _=>.ref ix)],c:=[(155,20,155,34,fun _ _ _=>(.none,os1)),(156,35,156,61,fun _ _ _=>(.ref it,os2)),(156,20,156,71,fun _ _ _=>(.none,os4)),(157,40,157,50,fun _ _ os=>(.int n,os)),(158,20,158,38,fun _ _ _=>(.none,os6))] })
  (X:={ X0 w 2 aq with yg:=JX [("successors",fun os=>(.ref jx,os)),("__next__",fun os=>(.ref wr,os3))],xi:=FP fun _ _ _ _=>os5 })
  (c:=[.p (jR w si mi b x os (sN 0 gp) false),.p (an (aa w) (.ref (b + 2)) "add" os mA),.p (Cl (aa w) 2 mA [.ref (b + 2),.str x] [] os .none os1),.p (au (aa w) 2 (.ref mi) (.str x) os1 (.ref ix) os1),
   .p (aj (aa w) 2 (.ref ix) "successors" os1 (.ref jx) os1),.p (Cl (aa w) 2 Ba [.ref jx] [] os1 (.ref it) os2),.p (aj (aa w) 2 (.ref it) "__next__" os2 (.ref wr) os3),.p (an (aa w) (.ref (b + 1)) "append" os1 bL),.p (Cl (aa w) 2 bL [.ref (b + 1),.ref wr] [] os3 .none os4),.p (Cl (aa w) 2 eO [.ref b] [] os4 (.int n) os4),
   .p (dG (aa w) 2 (.ref (b + 3)) (.str x) (.int n) os4 os5),.p (an (aa w) (.ref b) "append" os5 bL),.p (Cl (aa w) 2 bL [.ref b,.str x] [] os5 .none os6)]) ∅ ⟨FJ w si mi b x os false h1,h2,h3,h5,h6,h7,h8,h4,h9,h10,h11,h12,h13,trivial⟩
theorem CQ (w:J9) (si mi b:Nat) (tl:List (Str×V)) (os:List O):Exs (aa w) 2 a7.scope ⟨os,lC si mi b tl⟩ (j0.drop 6) (.ret .none) ⟨os,lC si mi b tl⟩:=
 jp (X:=X0 w 2 aq) ∅
theorem y9 (w:J9) (si mi b:Nat) (tl:List (Str×V)) (os:List O):Exs (aa w) 2 a7.scope ⟨os,lC si mi b tl⟩ (bz ew) .brk ⟨os,lC si mi b tl⟩:=
 jp (X:=X0 w 2 aq) ∅
theorem qw (w:J9) (σ:S):Tr (aa w) 2 a7.scope σ (sN 0 iz) true σ:=
 pA (X:=X0 w 2 aq) ∅
theorem E3 (w:J9) (si mi b:Nat) (tl:List (Str×V)) (os:List O):Ev (aa w) 2 a7.scope ⟨os,lC si mi b tl⟩ (sN 0 ew) (.ref b) ⟨os,lC si mi b tl⟩:=
 aC (X:=X0 w 2 aq) ∅
theorem DZ (w:J9) (si mi b:Nat) (tl:List (Str×V)) (os:List O):Ev (aa w) 2 a7.scope ⟨os,lC si mi b tl⟩ (sN 0 gB) (.ref mi) ⟨os,lC si mi b tl⟩:=
 aC (X:=X0 w 2 aq) ∅
noncomputable def jl:Kz:=ah (af fc) 0
noncomputable def Gb:Kz:=ah (af fc) 1
noncomputable def gL:Kz:=ah (bz fc) 0
noncomputable def kr:Kz:=ah (bz fc) 1
theorem sC:fc=.Try (af fc) [.ExceptHandler (some (sN 0 fc)) none (gL::[kr]) (FQ fc)] [] [] (sP fc):=∅
theorem qP:af fc=[.Assign [.Name "node" (eP (sN 1 jl))] (.Call (eN 0 (sN 0 jl)) [] [] (eP (sN 0 jl))) (sP jl),.Break (sP Gb)]:=∅
theorem Bv:(gL::[kr])=[.Delete [.Subscript (.Name "node2stacki" (eP (eN 0 (sN 0 gL)))) (.Call (.Attribute (.Name "stack" (eP (eN 0 (eN 0 (eN 1 (sN 0 gL)))))) "pop" (eP (eN 0 (eN 1 (sN 0 gL))))) [] [] (eP (eN 1 (sN 0 gL)))) (eP (sN 0 gL))] (sP gL),
  .Expr (.Call (.Attribute (.Name "itstack" (eP (eN 0 (eN 0 (sN 0 kr))))) "pop" (eP (eN 0 (sN 0 kr)))) [] [] (eP (sN 0 kr))) (sP kr)]:=∅
theorem C7:sN 0 fc=.Name "StopIteration" (eP (sN 0 fc)):=∅
theorem xB (w:J9) (si mi b wr:Nat) (tl:List (Str×V)) (os:List O) (h1:au (aa w) 2 (.ref (b + 1)) (.int (-1)) os (.ref wr) os):Ev (aa w) 2 a7.scope ⟨os,lC si mi b tl⟩ (eN 0 (sN 0 jl)) (.ref wr) ⟨os,lC si mi b tl⟩:=
 dp (hk:={ u:=[(161,31,161,42,fun _ _ _=>.ref wr)] }) (X:=X0 w 2 aq) (c:=[.p (au (aa w) 2 (.ref (b + 1)) (.int (-1)) os (.ref wr) os)]) ∅ ⟨h1,trivial⟩
theorem fh:∀a∈own env,a∈bS env outer:=fun _ q=>KD _ q
theorem bE.widen {ow:List Kj} {P:Nat->Obj->Prop} (x:bE g D ow itA P nx k ρ s) (h:itA∉ow'):bE g D ow' itA P nx k ρ s:=⟨x.rho,h,x.hi,x.ob,x.nx⟩
theorem G0 (fe:cF env outer ρ s.heap) (hi:itA∉aH outer) (y:Go ([itA]++own env) ρ s ρ' s'):aS (aH outer) s.heap s'.heap:=.go y (fun L hL=>(fe.fr.tail.at_ hL).choose_spec.2.1) fun L hL hm=>by
 rcases List.mem_append.mp hm with q | q
 .exact hi (by rw[Kw] at q;exact q▸hL)
 .exact fe.apart L hL q
theorem bE.stopW {P:Nat->Obj->Prop} {Q:Option Kd->Kl->Prop} (x:bE g D (bS env outer) itA P nx k ρ s) (hr:aB D A) (st:St g env σ ρ s) (fe:cF env outer ρ s.heap) (hx:nx k σ.os=some none)
  (g0:Go ([itA]++bS env outer) ρ₀ s₀ ρ s) (hnew:s₀.heap.get? itA=none) (u0:aS (aH outer) s₀.heap s.heap)
  (q:∀s',St g env σ ρ s'->cF env outer ρ s'.heap->Go (bS env outer) ρ₀ s₀ ρ s'->aS (aH outer) s₀.heap s'.heap->Q none s'):J6 (Kx PW g.w) A (pyNext (.ref itA)) Q E s:=by
 have no:itA∉own env:=fun h=>x.nown (fh _ h)
 have nf:itA∉aH outer:=fun h=>x.nown (Kt _ h)
 obtain⟨ob,h1,h2⟩:=x.ob
 have hn:=x.nx []
 rw[KZ] at hn
 refine Kr (hn.stop k A s _ ob hx hr st.hr h1 h2) ?_ (fun _ _ z=>z.elim)
 rintro r s'' ⟨rfl,h',rfl,ext⟩
 have fl:cJ (env::outer) ρ h':=⟨fun e he=>by
  obtain⟨a1,L,o,a2,a3,a4,a5⟩:=fe.fr.all e he
  refine⟨a1,L,o,a2,ext L o (fun q=>?_) a3,a4,a5⟩
  have:L∈bS env outer:=ka fe.frm L (fg.mpr ⟨e,he,a2⟩)
  exact x.nown (q▸this)⟩
 refine q _ (st.other (tk:=s.toks) (fun b o hb e=>ext b o hb e) x.rho no x.hi) ⟨fl,fe.frm,fe.apart⟩ (Go.drop (ex:=[itA]) ⟨g0.pre,fun b o e q1 q2=>(g0.kept b o e q1 q2).map fun o' e'=>ext b o' (fun q=>q2 (q▸.head _)) e',fun b o e=>?_,g0.gens,g0.os⟩ fun a ha=>by simp at ha;subst ha;exact hnew)
  (u0.trans (.kept fun L hL o e=>ext L o (fun q=>nf (q▸hL)) e))
 obtain⟨o',e'⟩:=g0.alive b o e
 exact⟨o',ext b o' (fun q=>by subst q;rw[hnew] at e;exact nS e) e'⟩
inductive eh (g:G) (D:Nat) (sc:Scope) (t:Expr) (body orelse:List Kz) (nx:Nat->List O->Option (Option V)) (σe:S):Nat->S->Prop where
 | stop {k:Nat} {σ:S}:nx k σ.os=some none->Exs g D sc σ orelse .next σe->eh g D sc t body orelse nx σe k σ
 | turn {k:Nat} {σ σ₁ σ₂:S} {v:V} {f:F}:nx k σ.os=some (some v)->aX g D sc σ t v σ₁->aQ g D sc σ₁ body f σ₂->(f=.next\/f=.cont)->eh g D sc t body orelse nx σe (k + 1) σ₂->eh g D sc t body orelse nx σe k σ
theorem wl {t:Expr} (he:env.scope=sc) (hr:aB D A) (fa:A.frames=some (env::outer)) (run:eh g D sc t body orelse nx σe k σ) :
  ∀{itA:Kj} {P:Nat->Obj->Prop} {ρ₀ ρ:List Kj} {s₀ s:Kl} {R:Mo->Kl->Prop},bE g D (bS env outer) itA P nx k ρ s->St g env σ ρ s->cF env outer ρ s.heap->Go ([itA]++bS env outer) ρ₀ s₀ ρ s->s₀.heap.get? itA=none->aS (aH outer) s₀.heap s.heap->
   (∀f ρ' s',dU ρ' .next f->St g env σe ρ' s'->Go (bS env outer) ρ₀ s₀ ρ' s'->aS (aH outer) s₀.heap s'.heap->R (.ok f) s')->Ky (Kx PW g.w) A (.forLoop t (.ref itA) body orelse env) R s:=by
 induction run with
 | stop hx ho=>
  intro itA P ρ₀ ρ s₀ s R at_ st fe g0 hnew u0 q
  refine KV ?_
  show J6 _ _ ((No t (.ref itA) body orelse env).onRaise (fun x=>do Ly x env;Le x)) _ _ s
  refine Lp ?_
  simp only[No]
  refine J7 (KT (J7 (NC (at_.stopW hr st fe hx g0 hnew u0 fun s' st' fe' g' u'=>?_))))
  refine Kb (And.intro rfl (codeAny_block (ho.use he hr st' fun f s2 ρ2 rf st2 g2=>?_)))
  exact q f ρ2 s2 rf st2 (fT fe' g' u' g2).1 (fT fe' g' u' g2).2
 | turn hx ha hb hf _ ih=>
  intro itA P ρ₀ ρ s₀ s R at_ st fe g0 hnew u0 q
  have no:itA∉own env:=fun h=>at_.nown (fh _ h)
  have nf:itA∉aH outer:=fun h=>at_.nown (Kt _ h)
  refine KV ?_
  show J6 _ _ ((No t (.ref itA) body orelse env).onRaise (fun x=>do Ly x env;Le x)) _ _ s
  refine Lp ?_
  simp only[No]
  refine J7 (KT (J7 (NC ((at_.widen no).item hr st hx fun y s1 ry at1 st1 g1=>?_))))
  have fe1:=fe.go g1
  have u1:=G0 fe nf g1
  obtain⟨ob,o1,o2⟩:=at1.ob
  refine J7 (dF o1 ((at1.nx []).tup _ _ o2) ?_)
  refine J7 (Kr (ha A env _ _ y he hr st1 ry) ?_ (fun _ _ z=>z.elim))
  rintro _ s2 ⟨ρ2,st2,g2⟩
  have fe2:=fe1.go g2
  obtain⟨w2,u2⟩:=fT fe1 (Go.refl _ _ _) (aS.refl _ _) g2
  refine J7 (hb.use he hr fa fe2 st2 fun fl s3 ρ3 rf st₃ fe3 g3 u3=>?_)
  have g1':Go ([itA]++bS env outer) _ _ _ _:=g1.weak fun a h=>by
   rcases List.mem_append.mp h with q | q
   .exact KD _ q
   .exact Kt _ (fh _ q)
  have gg:=(g0.trans g1').trans ((w2.trans g3).weak fun a h=>Kt _ h)
  have uu:=((u0.trans u1).trans u2).trans u3
  have atE:=((at1.widen at_.nown).go w2).go g3
  rcases hf with rfl | rfl
  .obtain rfl:fl=.next:=rf
   exact Kb (And.intro rfl (ih atE st₃ fe3 gg hnew uu q))
  .obtain rfl:fl=.cont:=rf
   exact Kb (And.intro rfl (ih atE st₃ fe3 gg hnew uu q))
theorem cy.forRun {t:Expr} {a:V} (hi:Ev g D sc σ iter a σ₁) (hit:aZ g D a σ₁.os nx) (hrun:eh g D sc t body orelse nx σe 0 σ₁)
  (hs:∀env x,LP iter env x=pure x) :
  cy g D sc σ (.For t iter body orelse pos) .next σe:=fun A env ρ s outer he hr fa fe st=>by
 refine wpAny_For (hi.use he hr st fun x s1 ρ1 rx st1 g1=>?_) (hs env)
 obtain⟨w1,u1⟩:=fT fe (Go.refl _ _ _) (aS.refl _ _) g1
 have fe1:=fe.go g1
 refine bE.new hit rx hr st1 fun itA P s2 at2 hnew st2 g2=>?_
 have fe2:=fe1.go g2
 have nf:itA∉bS env outer:=fun h=>by
  rcases List.mem_append.mp h with q | q
  .exact at2.nown q
  .obtain⟨o,e,_⟩:=fe1.fr.tail.at_ q
   rw[hnew] at e;exact nS e
 refine wl he hr fa hrun (ρ₀:=ρ1) (s₀:=s1) (at2.widen nf) st2 fe2 g2.nil hnew (.go g2 (fun L hL=>(fe1.fr.tail.at_ hL).choose_spec.2.1) (fun _ _ q=>nomatch q)) fun f ρ' s' rf st' g' u'=>?_
 exact⟨ρ',rf,st',w1.trans g',u1.trans u'⟩
inductive eX (g:G) (D:Nat) (sc:Scope) (test:Expr) (body orelse:List Kz) (fin:F) (σe:S):S->Prop where
 | stop {σ σ₁:S}:Tr g D sc σ test false σ₁->aQ g D sc σ₁ orelse fin σe->eX g D sc test body orelse fin σe σ
 | turn {σ σ₁ σ₂:S} {f:F}:Tr g D sc σ test true σ₁->aQ g D sc σ₁ body f σ₂->(f=.next\/f=.cont)->eX g D sc test body orelse fin σe σ₂->eX g D sc test body orelse fin σe σ
 | leave {σ σ₁:S} {f:F}:Tr g D sc σ test true σ₁->aQ g D sc σ₁ body f σe->pG f=some fin->eX g D sc test body orelse fin σe σ
theorem zK {fin:F} (he:env.scope=sc) (hr:aB D A) (fa:A.frames=some (env::outer)) (run:eX g D sc test body orelse fin σe σ) :
  ∀{ρ₀ ρ:List Kj} {s₀ s:Kl} {R:Mo->Kl->Prop},St g env σ ρ s->cF env outer ρ s.heap->Go (bS env outer) ρ₀ s₀ ρ s->aS (aH outer) s₀.heap s.heap->
   (∀f ρ' s',dU ρ' fin f->St g env σe ρ' s'->Go (bS env outer) ρ₀ s₀ ρ' s'->aS (aH outer) s₀.heap s'.heap->R (.ok f) s')->Ky (Kx PW g.w) A (.whileLoop test body orelse env) R s:=by
 induction run with
 | stop ht ho=>
  intro ρ₀ ρ s₀ s R st fe g0 u0 q
  refine KV ?_
  show J6 _ A ((MA test body orelse env).onRaise (fun x=>do Ly x env;Le x)) _ _ s
  refine Lp ?_
  simp only[MA]
  refine J7 (ht.use he hr st fun b s1 ρ1 e st1 g1=>?_)
  obtain rfl:b=false:=e
  simp only[LJ,if_false]
  obtain⟨w1,u1⟩:=fT fe g0 u0 g1
  exact J7 (ho.use he hr fa (fe.go g1) st1 fun f s2 ρ2 rf st2 fe2 g2 u2=>Kb (q f ρ2 s2 rf st2 (w1.trans g2) (u1.trans u2)))
 | turn ht hb hf _ ih=>
  intro ρ₀ ρ s₀ s R st fe g0 u0 q
  refine KV ?_
  show J6 _ A ((MA test body orelse env).onRaise (fun x=>do Ly x env;Le x)) _ _ s
  refine Lp ?_
  simp only[MA]
  refine J7 (ht.use he hr st fun b s1 ρ1 e st1 g1=>?_)
  obtain rfl:b=true:=e
  simp only[if_true]
  obtain⟨w1,u1⟩:=fT fe g0 u0 g1
  refine J7 (hb.use he hr fa (fe.go g1) st1 fun fl s2 ρ2 rf st2 fe2 g2 u2=>?_)
  have gg:=w1.trans g2
  have uu:=u1.trans u2
  rcases hf with rfl | rfl
  .obtain rfl:fl=.next:=rf
   exact Kb (And.intro rfl (ih st2 fe2 gg uu q))
  .obtain rfl:fl=.cont:=rf
   exact Kb (And.intro rfl (ih st2 fe2 gg uu q))
 | @leave _ _ f ht hb hf=>
  intro ρ₀ ρ s₀ s R st fe g0 u0 q
  refine KV ?_
  show J6 _ A ((MA test body orelse env).onRaise (fun x=>do Ly x env;Le x)) _ _ s
  refine Lp ?_
  simp only[MA]
  refine J7 (ht.use he hr st fun b s1 ρ1 e st1 g1=>?_)
  obtain rfl:b=true:=e
  simp only[if_true]
  obtain⟨w1,u1⟩:=fT fe g0 u0 g1
  refine J7 (hb.use he hr fa (fe.go g1) st1 fun fl s2 ρ2 rf st2 fe2 g2 u2=>?_)
  have gg:=w1.trans g2
  have uu:=u1.trans u2
  cases f with
  | next=>exact nS hf
  | cont=>exact nS hf
  | brk=>
   cases hf
   obtain rfl:fl=.brk:=rf
   exact Kb (q _ _ _ rfl st2 gg uu)
  | ret w=>
   cases hf
   obtain⟨z,rfl,hz⟩:=rf
   exact Kb (q _ _ _ ⟨z,rfl,hz⟩ st2 gg uu)
theorem cy.whRun {fin:F} (hrun:eX g D sc test body orelse fin σe σ):cy g D sc σ (.While test body orelse pos) fin σe:=fun A env ρ s outer he hr fa fe st=>
 wpAny_While (zK he hr fa hrun (ρ₀:=ρ) (s₀:=s) st fe (Go.refl ..) (aS.refl _ _) fun f ρ' s' rf st' g' u'=>⟨ρ',rf,st',g',u'⟩)
noncomputable def iterD (k:Nat):O:=.flds "list_iterator" [.none,.top (.int k 0)]
theorem v6 {w:J9} {l:Kj} {R:Mo->Kl->Prop} (hn:A.handled=none) (ha:s.heap.get? a=some ⟨.type "list_iterator",none,.fields #[.ref l,.int k 0],#[]⟩)
  (hl:s.heap.get? l=some ⟨.type "list",none,.seq items n,#[]⟩) (hx:items[k]?=none)
  (h:∀h' e t,Gr (s.heap.update a (Mf (·.setIfInBounds 0 .none))) h'->s.heap.objs.size <=e->h'.get? e=some ⟨.type "StopIteration",none,.fields #[.ref t,.none,.none,.none,.bool false,.none],#[]⟩->R (.error (.ref e)) { s with heap:=h' }) :
  Ky (Kx PW w) A (.builtin "list_iterator.__next__" ⟨[.ref a],[]⟩) R s:=by
 refine Mh entry_listiter_next ?_
 show J6 _ _ (field (.ref a) 0 >>=_) _ _ s
 refine J7 (wpAny_field ha rfl (x:=.ref l) rfl ?_)
 show J6 _ _ (if(Value.ref l==Value.none)=true then _ else _) _ _ s
 rw[if_neg (show ¬ ((Value.ref l==Value.none)=true) from Bool.false_ne_true)]
 show J6 _ _ (field (.ref a) 1 >>=_) _ _ s
 refine J7 (wpAny_field ha rfl (x:=.int k 0) rfl ?_)
 show J6 _ _ (seqItems? (.ref l) >>=_) _ _ s
 refine J7 (Mu hl rfl ?_)
 simp only[Int.toNat_natCast,hx]
 refine J7 (wpAny_rule (J7 (wpAny_setField ha rfl (by simp) ?_)))
 show J6 _ _ (newExc (.type "StopIteration") [] >>=_) _ _ _
 refine J7 ?_
 simp only[newExc,newTuple]
 refine J7 (L7 ?_ (by size_fits))
 refine J7 (m:=firstArgMember _ _) (Nb (a:=Value.none) (by first | rfl | (simp only[firstArgMember];rfl)) ?_)
 refine L7 ?_ (by size_fits)
 show J6 _ _ (handled >>=_) _ _ _
 refine J7 (wpAny_handled ?_)
 rw[show(A.under (.builtin "list_iterator.__next__" ⟨[.ref a],[]⟩)).handled=none from hn]
 refine J7 (Kb (wpAny_throw ?_))
 refine h _ _ _ (((Gr.refl _).push _).push _) ?_ (Ku _ rfl)
 simp
noncomputable def gX (g:G) (D:Nat) (sc:Scope) (σ:S) (t:Env->Sem α) (σ':S):Prop:=
 ∀(A:Lj) (env:Env) (ρ:List Kj) (s:Kl),env.scope=sc->aB D A->St g env σ ρ s->
  J6 (Kx PW g.w) A (t env) (fun _ _=>False) (fun e s'=>∃a tt ρ',e=.ref a/\s'.heap.get? a=some ⟨.type "StopIteration",none,.fields #[.ref tt,.none,.none,.none,.bool false,.none],#[]⟩/\s.heap.get? a=none/\N0 <=a/\a∉ρ'/\St g env σ' ρ' s'/\Go (own env) ρ s ρ' s') s
theorem uI {b:Kj} {R:Mo->Kl->Prop} (hb:s.heap.get? b=some ⟨.type "method-wrapper",none,.fields #[.builtin "list_iterator.__next__",.ref a],#[]⟩)
  (h:Ky (Kx PW w) A (.builtin "list_iterator.__next__" ⟨[.ref a],[]⟩) R s) :
  Ky (Kx PW w) A (.call (.ref b) ⟨[],[]⟩) R s:=by
 refine KV ?_
 show J6 _ _ (callAny (.ref b) _) _ _ s
 unfold callAny
 refine J7 (LA hb ?_)
 dsimp only
 rw[if_pos (by decide +kernel)]
 show J6 _ _ (if(Nm "method-wrapper" !=Nm "method")=true then _ else _) _ _ s
 rw[if_pos (by decide +kernel)]
 refine J7 (Nb (kq a) ?_)
 exact Kb ⟨Mx _ (by decide +kernel),h⟩
theorem zE {b l:Nat} {vs:List V} {x:Kd} (hb:os[b]?=some (fX i)) (hi:os[i]?=some (iterO l k)) (hl:os[l]?=some (.list vs)) (hv:vs.length <=k)
  (hx:RelV ρ (.ref b) x) (hn:A.handled=none) (hh:HR g.w.params ρ os s.heap) (hK:g.K.In s.heap)
  (q:∀s' a tt,s'.heap.get? a=some ⟨.type "StopIteration",none,.fields #[.ref tt,.none,.none,.none,.bool false,.none],#[]⟩->s.heap.get? a=none->N0 <=a->a∉ρ->HR g.w.params ρ (os.set i (iterD k)) s'.heap->Go [] ρ s ρ s'->E (.ref a) s') :
  J6 (Kx PW g.w) A (call x [] []) Q E s:=by
 obtain⟨bb,y,z,rfl,hba,eb,ry,rz⟩:=hh.flds2 hb hx
 obtain rfl:y=.builtin "list_iterator.__next__":=ry
 obtain⟨a,y2,z2,rfl,ha,ea,ry2,rz2⟩:=hh.flds2 hi rz
 obtain rfl:z2=.int k 0:=rz2
 obtain⟨la,ys,n,rfl,hla,el,r⟩:=hh.list hl ry2
 have hnone:ys[k]?=none:=by
  rw[<- Lm]
  exact Kv (by rw[r.length];exact hv)
 refine Ll (uI eb (v6 hn ea el hnone fun h' e t gr he hob=>?_))
 have hob1:(s.heap.update a (Mf (·.setIfInBounds 0 .none))).get? a=some ⟨.type "list_iterator",none,.fields #[.none,.int k 0],#[]⟩:=Lr (Mf (·.setIfInBounds 0 .none)) ea rfl
 have same:Lb a s.heap (s.heap.update a (Mf (·.setIfInBounds 0 .none))):=Lc ..
 have hh1:HR g.w.params ρ (os.set i (iterD k)) h':=(hh.set (o':=iterD k) ha same hob1 ⟨_,rfl,.cons rfl (.cons rfl .nil)⟩).keeps fun b o e=>gr b o e
 have en:s.heap.get? e=none:=NO he
 refine q _ e t hob en (Lh (aV hK) he) (fun hm=>?_) hh1 (.of ⟨[],(KZ _).symm,fun _ h=>(nomatch h)⟩ (fun b o e h1 _=>gr b o ((same.2 b fun q=>h1 (q▸Kq ha)).trans e)) (fun b o e=>?_) rfl rfl)
 .exact absurd (hh.lt hm) (Nat.not_lt.mpr he)
 .obtain⟨o',e'⟩:=cO same hob1 e
  exact⟨o',gr b o' e'⟩
theorem gX.call {b l:Nat} {vs:List V} (hf:Ev g D sc σ func (.ref b) σ₁) (hb:σ₁.os[b]?=some (fX i)) (hi:σ₁.os[i]?=some (iterO l k)) (hl:σ₁.os[l]?=some (.list vs)) (hv:vs.length <=k) (h1:gm func=true) :
  gX g D sc σ (fun env=>KP (.Call func [] [] pos) env) ⟨σ₁.os.set i (iterD k),σ₁.loc⟩:=fun A env ρ s he hr hs=>by
 show J6 _ _ (KP (.Call func [] [] pos) env) _ _ _
 rw[fK h1,aF (by rfl),aO]
 refine J7 (hf.use he hr hs fun x s1 ρ1 rx st1 g1=>bd (bc (bM _) (bD (by rfl)) ((bU.nil (g:=g) (D:=D) (sc:=sc)).use he hr st1 fun xs s2 ρ2 rs st2 g2=>(dC.nil (g:=g) (D:=D) (sc:=sc)).use he hr st2 fun ys s3 ρ3 ry st₃ g3=>?_)))
 refine Kp.wrap hb A ρ3 s3 x _ _ ((rx.go g2).go g3) st₃.hr st₃.k fun k=>?_
 cases rs
 cases ry
 refine zE hb hi hl hv ((rx.go g2).go g3) hr.handled st₃.hr st₃.k fun s' a tt h1 h2 h2' h3 h4 h5=>?_
 have gg:=(g1.trans g2).trans g3
 refine⟨a,tt,ρ3,rfl,h1,?_,h2',h3,⟨h4,st₃.er.go h5,bY (ow:=[]) st₃.k st₃.hr (fun _ h=>(nomatch h)) h5⟩,gg.trans h5.nil⟩
 cases q:s.heap.get? a with
 | none=>rfl
 | some o=>
  obtain⟨o',e⟩:=gg.alive a o q
  rw[h2] at e;exact nS e
structure jC (a:Kj) (fs:List Kj) (h0 h:Heap):Prop where
 keep:∀b o,b∉fs->b≠a->h0.get? b=some o->h.get? b=some o
 up:aS fs h0 h
 exc:∃oe vs tb otb tvs,h.get? a=some oe/\oe.cls=.type "StopIteration"/\oe.data=.fields vs/\vs[1]?=some (.ref tb)/\h.get? tb=some otb/\otb.data=.fields tvs/\3 < tvs.size/\tb≠a/\h0.get? tb=none
theorem jC.flight {h0:Heap} {M:Model} {A:Lj} {Q:Unit->Kl->Prop} {E:Kd->Kl->Prop} (x:jC a fs h0 s.heap) (hq:∀h',jC a fs h0 h'->Q () { s with heap:=h' }):J6 M A (setFlight (.ref a) none) Q E s:=by
 obtain⟨oe,vs,tb,otb,tvs,e1,e2,hO'⟩:=x.exc
 obtain⟨e3,e4,e5,e6,e7,e8,e9⟩:=hO'
 refine wpAny_setFlight_none e1 e3 e4 e5 e6 e7 (hq _ ⟨fun b o h1 h2 h3=>?_,fun L hL o h3=>?_,?_⟩)
 .rw[LZ _ _ (fun q=>by rw[<- q,e9] at h3;exact nS h3)]
  exact x.keep b o h1 h2 h3
 .obtain⟨sl,h4⟩:=x.up L hL o h3
  exact⟨sl,by rw[LZ _ _ (fun q=>by rw[<- q,e9] at h3;exact nS h3)];exact h4⟩
 .have hd:=Obj.data_mapFields e6 (·.setIfInBounds 3 .none)
  refine⟨oe,vs,tb,_,_,by rw[LZ _ _ e8];exact e1,e2,e3,e4,Lr _ e5 (Obj.isFreed_of_fields hd),hd,by rw[Array.size_setIfInBounds];exact e7,e8,e9⟩
theorem qe {M:Model} {E:Kd->Kl->Prop} {tt:Kj} {Q:Unit->Kl->Prop} (hfr:A.frames=some (env::outer)) (hl:∀e∈env::outer,e.scope.kind≠.module/\∃L o,e.frame=some L/\s.heap.get? L=some o) (hf:env.frame=some L)
  (he:s.heap.get? a=some ⟨.type "StopIteration",none,.fields #[.ref tt,.none,.none,.none,.bool false,.none],#[]⟩) (hne:a∉aH (env::outer))
  (h:∀h',jC a (aH (env::outer)) s.heap h'->Q () { s with heap:=h' }):J6 M A (Ly (.ref a) env) Q E s:=by
 unfold Ly
 simp only[hf]
 refine J7 (wpAny_field he rfl (x:=.none) rfl ?_)
 rw[if_neg (by decide)]
 unfold PySem.frameOf
 refine J7 (J7 (wpAny_frameEnvs hfr ?_))
 have hdw:((env::outer).dropWhile fun x=>x.frame !=env.frame)=env::outer:=by simp[List.dropWhile]
 rw[hdw]
 unfold frameObject
 refine J7 (J7 (sM (env::outer) hl fun h₁ z1 z2 z3=>Kb ?_))
 rw[hf]
 refine Kb ?_
 refine J7 (wpAny_entryPlaceOf fun pl hpl=>?_)
 unfold EntryCells.newEntry newFields
 refine J7 (L7 ?_ (hpl.sizeOk5 _ _ _ _ _))
 have he1:h₁.get? a=some _:=(z2 a hne).trans he
 have he2:=Ki (h:=h₁) { cls:=.type "traceback",dict:=none,data:=.fields ([Value.none,.ref L,.none,rawInt L,.none]++(if pl.isEmpty then L5 6 Value.none else pl)).toArray } he1
 refine wpAny_setField he2 rfl (by simp) ?_
 have hTe:h₁.objs.size≠a:=Nat.ne_of_gt (KJ he1)
 have old:∀{b:Kj} {o:Obj},s.heap.get? b=some o->h₁.objs.size≠b:=fun hb=>by
  rw[z1];exact Nat.ne_of_gt (KJ hb)
 have kp:∀b o,b≠a->h₁.get? b=some o->((h₁.push { cls:=.type "traceback",dict:=none,data:=.fields ([Value.none,.ref L,.none,rawInt L,.none]++(if pl.isEmpty then L5 6 Value.none else pl)).toArray }).update a (Mf (·.setIfInBounds 1 (.ref h₁.objs.size)))).get? b=some o:=fun b o hb e=>by
  rw[LZ _ _ (MK hb)]
  exact Ki _ e
 refine h _ ⟨fun b o h1 h2 h3=>kp b o h2 ((z2 b h1).trans h3),fun M hM o h3=>?_,?_⟩
 .obtain⟨sl,e⟩:=z3 M hM o h3
  exact⟨sl,kp M _ (fun q=>hne (q▸hM)) e⟩
 .have e3:=Lr (Mf (·.setIfInBounds 1 (.ref h₁.objs.size))) he2 rfl
  have eT:=(LZ (h₁.push { cls:=.type "traceback",dict:=none,data:=.fields ([Value.none,.ref L,.none,rawInt L,.none]++(if pl.isEmpty then L5 6 Value.none else pl)).toArray })
   (Mf (·.setIfInBounds 1 (Value.ref h₁.objs.size))) (MK hTe)).trans (Ku h₁ rfl)
  exact⟨_,_,h₁.objs.size,_,_,e3,rfl,rfl,rfl,eT,rfl,by simp only[Nu,KC,Li,Mp];lia,hTe,NO (by rw[z1];exact Km _)⟩
theorem HR.keepsIn (x:HR P ρ os h) (k:∀b∈ρ,∀o,h.get? b=some o->h'.get? b=some o):HR P ρ os h':=
 ⟨x.len,x.nd,fun a ha=>⟨(x.hi a ha).1,let⟨ob,e⟩:=(x.hi a ha).2;⟨ob,k _ ha _ e⟩⟩,fun i o a h1 h2=>(x.ob i o a h1 h2).imp id fun⟨ob,e,r⟩=>⟨ob,k _ (Kq h2) _ e,r⟩⟩
theorem ER.goX {ow:List Kj} {loc:List (Str×V)} (x:ER ρ s.heap env loc) (y:Go ow ρ s ρ' s') (hc:∀p∈env.cells,p.2∉ow) (u:aS [env.locals] s.heap s'.heap):ER ρ' s'.heap env loc:=by
 obtain⟨ν,e,hν⟩:=y.pre
 obtain⟨m,hm,hl⟩:=x.loc
 have nin:∀{a:Kj} {o:Obj},s.heap.get? a=some o->a∉ρ->a∉ρ':=fun h1 h2 h3=>by
  rw[e] at h3
  rcases List.mem_append.mp h3 with h | h
  .exact h2 h
  .rw[hν _ h] at h1;exact nS h1
 obtain⟨oL,es,ep,hoL,r⟩:=hm
 obtain⟨sl,hoL'⟩:=u _ (.head _) _ hoL
 refine⟨x.glob,x.blt,x.kind,⟨m,⟨_,es,ep,hoL',r⟩,fun z hz=>e▸aL.mono (hl z hz)⟩,fun z hz=>?_,⟨x.low.1,nin hoL x.low.2⟩,fun p hp=>?_,x.capart⟩
 .obtain⟨c,o,h1,⟨ob,h2,h3⟩,h4⟩:=x.cell z hz
  have hp:=mem_of_lookup h1
  exact⟨c,o,h1,⟨ob,y.keep _ _ h2 (x.clow _ hp).2.2.1 (hc _ hp) (dg (x.clow _ hp).1),h3⟩,e▸aL.mono h4⟩
 .obtain⟨a1,⟨ob,a2⟩,a3,a4⟩:=x.clow p hp
  exact⟨a1,y.alive _ _ a2,nin a2 a3,a4⟩
theorem rF:isSubtype (.type "StopIteration") (.type "BaseException")=pure true:=by rw[Mn];kernel_rfl
theorem p9:isSubtype (.type ((Manifest.find? "StopIteration").elim "type" fun x=>x.metatype)) (.type "tuple")=pure false:=by rw[Mn];kernel_rfl
noncomputable def lY (g:G) (sc:Scope) (σ:S) (t:Env->Sem α) (R:List Kj->α->Prop) (σ':S):Prop:=
 ∀(A:Lj) (env:Env) (ρ:List Kj) (s:Kl),env.scope=sc->St g env σ ρ s->
  J6 (Kx PW g.w) A (t env) (fun x s'=>∃ρ',R ρ' x/\St g env σ' ρ' s'/\Go (own env) ρ s ρ' s') (fun _ _=>False) s
theorem jC.st (st:St g env σ ρ s) (fe:cF env outer ρ s.heap) (na:a∉ρ) (x:jC a (aH (env::outer)) s.heap h') (hl:a∉own env) (ha:N0 <=a) :
  St g env σ ρ { s with heap:=h' }/\Go ([a]++bS env outer) ρ s ρ { s with heap:=h' }/\aS (aH outer) s.heap h':=by
 have nr:∀b∈ρ,b∉aH (env::outer):=fun b hb hm=>(fe.fr.at_ hm).choose_spec.2.1 hb
 have go:Go ([a]++aH (env::outer)) ρ s ρ { s with heap:=h' }:=.of ⟨[],(KZ _).symm,fun _ h=>(nomatch h)⟩ (fun b o e _ h2=>x.keep b o (fun q=>h2 (Kt _ q)) (fun q=>h2 (q▸.head _)) e)
  (fun b o e=>by
   by_cases q:b=a
   .subst q;obtain⟨oe,_,_,_,_,e1,_⟩:=x.exc;exact⟨oe,e1⟩
   .by_cases q2:b∈aH (env::outer)
    .obtain⟨sl,e2⟩:=x.up b q2 o e;exact⟨_,e2⟩
    .exact⟨o,x.keep b o q2 q e⟩) rfl rfl
 refine⟨⟨st.hr.keepsIn fun b hb o e=>x.keep b o (nr b hb) (fun q=>na (q▸hb)) e,ER.goX (s':={ s with heap:=h' }) st.er go (fun p hp hm=>?_) (x.up.sub fun L hL=>?_),bY (ow:=[a]++aH (env::outer)) st.k st.hr (fun L hL=>?_) go⟩,go.weak fun b hb=>?_,x.up.sub fun L hL=>by rw[dD fe.frm];exact .tail _ hL⟩
 .have hp':p.2∈own env:=KO _ (List.mem_map.mpr ⟨p,hp,rfl⟩)
  rcases List.mem_append.mp hm with q | q
  .rw[Kw] at q;exact hl (q▸hp')
  .rw[dD fe.frm] at q
   rcases Ka.mp q with q | q
   .exact(st.er.clow p hp).2.2.2 q
   .exact fe.apart _ q hp'
 .rw[Kw] at hL;rw[dD fe.frm,hL];exact .head _
 .rcases List.mem_append.mp hL with q | q
  .rw[Kw] at q;exact q▸ha
  .exact(fe.fr.at_ q).choose_spec.2.2
 .rcases List.mem_append.mp hb with q | q
  .exact KD _ q
  .exact Kt _ (ka fe.frm b q)
theorem cy.tryStop {suite:List Kz} {b0:Kz} {t:Expr} {hp:Pos} (hB:gX g D sc σ (fun env=>Lq body env) σ₁)
  (hT:∀(A:Lj) (env:Env) (ρ:List Kj) (s:Kl),env.scope=sc->St g env σ₁ ρ s->J6 (Kx PW g.w) A (KP t env) (fun c s'=>c=.type "StopIteration"/\s'=s) (fun _ _=>False) s)
  (hH:lY g sc σ₁ (fun env=>Lq (b0::suite) env) (fun ρ x=>dU ρ .next x) σ₂):cy g D sc σ (.Try body [.ExceptHandler (some t) none (b0::suite) hp] orelse [] pos) .next σ₂:=fun A env ρ s outer he hr fa fe hs=>by
 refine wpAny_Try_except (Kr (hB A env ρ s he hr hs) (fun _ _ z=>z.elim) ?_)
 rintro e s1 ⟨a,tt,ρ1,rfl,hob,hnew,lowA,hni,st1,g1⟩
 have fe1:=fe.go g1
 have u1:aS (aH outer) s.heap s1.heap:=(fT fe (Go.refl _ _ _) (aS.refl _ _) g1).2
 have w1:Go (bS env outer) ρ s ρ1 s1:=g1.weak fh
 have nfr:a∉aH (env::outer):=fun hm=>by
  obtain⟨o,e,_⟩:=fe.fr.at_ hm
  rw[hnew] at e;exact nS e
 have nown:a∉own env:=fun hm=>by
  rcases Ka.mp hm with q | q
  .obtain⟨mm,⟨oL,_,_,hoL,_⟩,_⟩:=hs.er.loc
   rw[<- q,hnew] at hoL;exact nS hoL
  .obtain⟨p,hp,rfl⟩:=List.mem_map.mp q
   obtain⟨_,⟨ob',e⟩,_⟩:=hs.er.clow p hp
   rw[hnew] at e;exact nS e
 refine qe fa (fun e he=>let⟨a1,L,o,a2,a3,_⟩:=fe1.fr.all e he;⟨a1,L,o,a2,a3⟩) fe.frm hob nfr fun h2 x2=>?_
 refine jC.flight (s:={ s1 with heap:=h2 }) x2 fun h3 x3=>?_
 refine wpAny_handleBy_builtin (X:="StopIteration") (T:="StopIteration") (b:=true) rF p9 isSubtype_stop ?_
 obtain⟨st₃,g3,u3⟩:=x3.st st1 fe1 hni nown lowA
 refine Kr (hT _ env ρ1 _ he st₃) ?_ (fun _ _ z=>z.elim)
 rintro c s4 ⟨rfl,rfl⟩
 refine⟨rfl,?_,?_⟩
 .obtain⟨oe,_,_,_,_,e1,e2,_⟩:=x3.exc
  exact⟨oe,e1,e2⟩
 .rw[if_pos rfl]
  refine jC.flight (s:={ s1 with heap:=h3 }) x3 fun h4 x4=>?_
  obtain⟨st4,g4,u4⟩:=x4.st st1 fe1 hni nown lowA
  refine Kr (hH _ env ρ1 _ he st4) ?_ (fun _ _ z=>z.elim)
  rintro f s5 ⟨ρ5,rf,st5,g5⟩
  have fe4:=fe1.go g4
  have gE:Go ([a]++bS env outer) ρ s ρ5 s5:=((w1.weak fun _ q=>Kt _ q).trans g4).trans (g5.weak fun _ q=>Kt _ (fh _ q))
  have gF:Go (bS env outer) ρ s ρ5 s5:=gE.drop fun b hb=>by rw[Kw] at hb;exact hb▸hnew
  have uF:=(u1.trans u4).trans (fT fe4 (Go.refl _ _ _) (aS.refl _ _) g5).2
  exact⟨ρ5,rf,st5,gF,uF⟩
noncomputable def yb (g:G) (os:List O) (ρ:List Kj) (t:Sem α) (R:List Kj->α->Prop) (os':List O):Prop:=
 ∀(A:Lj) (s:Kl),HR g.w.params ρ os s.heap->g.K.In s.heap->J6 (Kx PW g.w) A t (fun x s'=>∃ρ',R ρ' x/\HR g.w.params ρ' os' s'.heap/\Go [] ρ s ρ' s') (fun _ _=>False) s
theorem yb.use {t:Sem α} (h:yb g os ρ t R os') {loc:List (Str×V)} (hs:St g env ⟨os,loc⟩ ρ s)
  {Q:α->Kl->Prop} (k:∀x s1 ρ1,R ρ1 x->St g env ⟨os',loc⟩ ρ1 s1->Go (own env) ρ s ρ1 s1->Q x s1):J6 (Kx PW g.w) A t Q E s:=
 Kr (h A s hs.hr hs.k) (fun x s1 ⟨ρ1,a,b,c⟩=>k x s1 ρ1 a ⟨b,hs.er.go c,bY (ow:=[]) hs.k hs.hr (fun _ h=>(nomatch h)) c⟩ c.nil) (fun _ _ z=>z.elim)
theorem lY.use {t:Env->Sem α} (h:lY g sc σ t R σ₁) (he:env.scope=sc) (hs:St g env σ ρ s)
  {Q:α->Kl->Prop} (k:∀x s1 ρ1,R ρ1 x->St g env σ₁ ρ1 s1->Go (own env) ρ s ρ1 s1->Q x s1):J6 (Kx PW g.w) A (t env) Q E s:=
 Kr (h A env ρ s he hs) (fun x s1 ⟨ρ1,a,b,c⟩=>k x s1 ρ1 a b c) (fun _ _ z=>z.elim)
noncomputable def ir (g:G) (sc:Scope) (σ:S) (e:Expr) (v:V) (σ':S):Prop:=lY g sc σ (fun env=>KP e env) (fun ρ x=>RelV ρ v x) σ'
theorem ir.loc {pos:Pos} (hx:sc.names.lookup x=some .local) (hv:σ.loc.lookup x=some v) (hd:(x==("__debug__" : Str))=false:=by decide):ir g sc σ (.Name x pos) v σ:=fun A env ρ s he hs=>by
 subst he
 obtain⟨m,hm,hl⟩:=hs.er.loc
 have hy:=hl x hx
 rw[hv] at hy
 cases hmx:m x with
 | none=>rw[hmx] at hy;exact hy.elim
 | some y=>rw[hmx] at hy;exact Mk (Mq hs.er.kind hx hm hmx ⟨ρ,hy,hs,Go.refl ..⟩) hd
theorem Hy {vs:List V} {x:Kd} (ho:os[i]?=some (.list (vs++[v]))) (hz:vs.length <=1000) (r:RelV ρ (.ref i) x):yb g os ρ (call (.builtin "list.pop") [x] []) (fun ρ' z=>RelV ρ' v z) (os.set i (.list vs)):=fun A s hh hK=>by
 obtain⟨a,ys,n,rfl,ha,e,q⟩:=hh.list ho r
 have hl:=ax e
 have len:ys.size=vs.length + 1:=by rw[<- KH,q.length];simp
 obtain⟨y,hy,ry⟩:=q.get (i:=vs.length) (a:=v) (by rw[Ke (Km _),Lg];rfl)
 have hy':ys[ys.size - 1]?=some y:=by rw[len,<- Lm];exact hy
 refine call_meets PySem.F.slot_list_pop hl.typeIs PySem.F.entry_list_pop (PySem.F.args_list_pop_1 _) (PySem.MeetsSeq.list_pop_last a ys n y hy' (by rw[len,K4];lia)) ⟨e,?_⟩
 obtain⟨m,hm⟩:=cM (f:=fun xs=>xs.eraseIdxIfInBounds (ys.size - 1)) e
 refine⟨ρ,ry,hh.set ha (Lc ..) hm ⟨_,m,rfl,?_⟩,eS (Kq ha) hm⟩
 have e3:(ys.eraseIdxIfInBounds (ys.size - 1)).toList=ys.toList.dropLast:=by
  rw[len,Nat.add_sub_cancel]
  have:vs.length < ys.size:=by lia
  simp only[Array.eraseIdxIfInBounds,this,dif_pos,Array.toList_eraseIdx]
  rw[show vs.length=ys.toList.length - 1 by simp[len],List.eraseIdx_length_sub_one]
 rw[e3]
 have:=m7 q
 rwa [List.dropLast_concat] at this
theorem Gv {k:Str} {x:Kd} (ho:os[i]?=some (.map es)) (hz:es.length <=1000) (hk:(es.lookup k).isSome=true) (hx:RelV ρ (.ref i) x) (hy:RelV ρ (.str k) y) :
  yb g os ρ (delItem x y) (fun _ _=>True) (os.set i (.map (es.filter fun p=>decide (p.1≠k)))):=fun A s hh hK=>by
 obtain⟨t,rfl⟩:=hy
 obtain⟨a,rfl,ha,kvs,hd,b⟩:=hh.mapOf ho hx
 unfold delItem
 try with_reducible refine KQ ?_
 refine J7 (wpAny_sequenceKey hd.typeIs (by decide) ?_)
 refine J7 (Nt (name:=J8 "__delitem__") hd.typeIs PySem.F.slot_dict_delitem
  (call_meetsIn PySem.F.slot_dict_delitem hd.typeIs PySem.F.entry_dict_delitem (PySem.F.args_dict_delitem_2 _ _) (meets_dict_delitem_pairs (strKind PW g.w) a (k:=k) (fZ k t)) ⟨kvs,hd,by rw[b.length,K4];lia,?_,fun h' hd' hs=>?_⟩))
 .have q:=iy k b
  cases hl:es.lookup k with
  | none=>rw[hl] at hk;exact nB hk
  | some v=>
   rw[hl] at q
   cases hz:valueAt kvs k with
   | none=>rw[hz] at q;exact q.elim
   | some z=>rfl
 .obtain⟨ob,e,r⟩:=tJ (g:=g) (h:=h') ⟨_,hd',pZ k b⟩
  exact Kb ⟨ρ,trivial,hh.set ha hs e r,o8 (Kq ha) hs e⟩
theorem ir.pop {o:Expr} {apos pos:Pos} {vs:List V} (ho:ir g sc σ o (.ref i) σ₁) (hl:σ₁.os[i]?=some (.list (vs++[v]))) (hz:vs.length <=1000) (h1:cI o=true:=by rfl) (h5:bJ apos pos 0=true:=by rfl) :
  ir g sc σ (.Call (.Attribute o "pop" apos) [] [] pos) v ⟨σ₁.os.set i (.list vs),σ₁.loc⟩:=fun A env ρ s he hs=>by
 show J6 _ _ (KP (.Call (.Attribute o "pop" apos) [] [] pos) env) _ _ _
 rw[eA h1 h5 (by rfl) (by rfl),aF (by rfl),aO]
 refine J7 (ho.use he hs fun x s1 ρ1 rx st1 g1=>J7 (KT (J7 (KQ (an.listM hl F.slot_list_pop F.type_list_pop A ρ1 s1 x _ _ _ rx st1.hr st1.k fun y tk ry=>?_)))))
 have st1':=st1.toks tk
 refine bd (bc (bM _) (bD (by rfl)) (spliced_nil (kwAll_nil ?_)))
 obtain rfl:y=.builtin "list.pop":=ry
 refine(Kp.blt (g:=g) (os:=σ₁.os)) A ρ1 _ _ _ _ rfl st1'.hr st1'.k fun k=>?_
 exact(Hy hl hz rx).use st1' fun w s4 ρ4 rw st4 g4=>⟨ρ4,rw,st4,(g1.trans (Go.toks ..)).trans g4⟩
theorem z0 {d e1 e2:Expr} {a1 a2 q1 q2 q3:Pos} {k:Str} {vs us:List V} (h1:ir g sc σ d (.ref n) σ) (h2:ir g sc σ e1 (.ref i) σ) (hi:σ.os[i]?=some (.list (vs++[.str k]))) (hn:σ.os[n]?=some (.map es)) (nin:n≠i) (hk:(es.lookup k).isSome=true)
  (h3:∀os',ir g sc ⟨os',σ.loc⟩ e2 (.ref j) ⟨os',σ.loc⟩) (hj:σ.os[j]?=some (.list (us++[u]))) (nji:j≠i) (njn:j≠n) (z1:vs.length <=1000) (z2:us.length <=1000) (z3:es.length <=1000) (s1:cI e1=true) (s2:cI e2=true) (c1:bJ a1 p1 0=true) (c2:bJ a2 p2 0=true)
  (hint:sc.kind=.function) :
  lY g sc σ (fun env=>Lq [.Delete [.Subscript d (.Call (.Attribute e1 "pop" a1) [] [] p1) q1] q2,.Expr (.Call (.Attribute e2 "pop" a2) [] [] p2) q3] env) (fun ρ x=>dU ρ .next x)
   ⟨((σ.os.set i (.list vs)).set n (.map (es.filter fun p=>decide (p.1≠k)))).set j (.list us),σ.loc⟩:=fun A env ρ s he hs=>by
 refine LN (wpAny_Delete (wpAny_deleteEach_cons (wpAny_delete_Subscript ?_)))
 refine h1.use he hs fun x s₁ ρ1 rx st1 g1=>(ir.pop h2 hi z1 s1 c1).use he st1 fun y s₂ ρ2 ry st2 g2=>?_
 have hn2:(σ.os.set i (.list vs))[n]?=some (.map es):=by rw[ay nin];exact hn
 refine(Gv hn2 z3 hk (rx.go g2) ry).use st2 fun _ s3 ρ3 _ st₃ g3=>wpAny_deleteEach_nil ?_
 have hj2:((σ.os.set i (.list vs)).set n (.map (es.filter fun p=>decide (p.1≠k))))[j]?=some (.list (us++[u])):=by rw[ay njn,ay nji];exact hj
 refine LN (wpAny_Expr_any ((ir.pop (h3 _) hj2 z2 s2 c2).use he st₃ fun z s4 ρ4 rz st4 g4=>?_) (by unfold interactive;rw[he,hint];rfl) (ce (by rfl) _ _ _))
 exact wpAny_execs_nil ⟨ρ4,rfl,st4,((g1.trans g2).trans g3).trans g4⟩
theorem dm.dictItem {value:Expr} {k:Str} (ho:os[i]?=some (.dict es n)) (hv:es.lookup k=some v) (hs:cS slice=true:=by rfl):dm g D value slice (.ref i) (.str k) os v os:=fun ρ x y hx hy=>by
 obtain⟨t,rfl⟩:=hy
 refine Lf.pure fun A s hr hh hK=>?_
 obtain⟨a,ha,rfl⟩:=hx
 obtain⟨kvs,hd,b⟩:=hh.dictAt ho ha
 have q:=iy k b
 rw[hv] at q
 cases hz:valueAt kvs k with
 | none=>rw[hz] at q;exact q.elim
 | some z=>
  rw[hz] at q
  exact LB hd.dictOf.typeIs slot_dict_getitem.lookup (wpAny_getItem_of (k:=k) (fZ k t) hd.dictOf.mapOf hz ⟨q,rfl,rfl,rfl⟩) (bW hs _ _)
structure OB (os:List O) (t:ci) (n:Nat):Prop where
 m:os[t.mi]?=some (.dict (t.ns.map fun m=>(wdN m,V.ref (t.ix m))) n)
 x:∀m∈t.ns,os[t.ix m]?=some (gK (t.dx m) (wdN m) (t.np m) (t.jx m))
 y:∀m∈t.ns,os[t.dx m]?=some (.dict [] 0)
 z:∀m∈t.ns,os[t.jx m]?=some (.list (mkW (t.su m)))
structure GH (t:ci):Prop where
 n8:∀m∈t.ns,m < 8
 nd:t.ns.Nodup
 suc:∀m∈t.ns,∀k∈t.su m,k∈t.ns/\szN m < szN k
 len:∀m∈t.ns,(t.su m).length <=8
 cnt:t.ns.length <=8
structure FC (os0:List O) (t:ci) (S:List (Nat×Nat×Nat)) (U:List Nat) (os:List O):Prop where
 base:∀(i:Nat) (o:O),os0[i]?=some o->os[i]?=some o
 st:os[os0.length]?=some (.list (mkW (S.map (·.1))))
 it:os[os0.length + 1]?=some (.list (S.map fun e=>V.ref (e.2.1 + 1)))
 se:os[os0.length + 2]?=some (.set (U.map wdN))
 nd:∃es,os[os0.length + 3]?=some (.map es)/\es.map (·.1)=S.map fun e=>wdN e.1
 its:∀e∈S,os[e.2.1]?=some (iterO (t.jx e.1) e.2.2)/\os[e.2.1 + 1]?=some (fX e.2.1)/\os0.length + 4 <=e.2.1
 pw:S.Pairwise (fun a c=>a.2.1 + 1 < c.2.1)
 inc:S.Pairwise (fun a c=>szN a.1 < szN c.1)
 mem:∀e∈S,e.1∈U/\e.1∈t.ns/\e.2.2 <=(t.su e.1).length
 un:U.Nodup/\∀m∈U,m∈t.ns
theorem FC.slen {S:List (Nat×Nat×Nat)} (h:FC os0 t S U os) (G:GH t):S.length <=8/\U.length <=8:=by
 have hU:U.length <=8:=Lh (h.un.1.length_le_of_subset (l₂:=t.ns) fun m hm=>h.un.2 m hm) G.cnt
 have nd:(S.map (·.1)).Nodup:=by
  rw[List.nodup_iff_pairwise_ne,List.pairwise_map]
  exact h.inc.imp fun q e=>by rw[e] at q;lia
 have hs:∀m∈S.map (·.1),m∈U:=fun m hm=>by
  obtain⟨e,he,rfl⟩:=List.mem_map.mp hm
  exact(h.mem e he).1
 have:=nd.length_le_of_subset (l₂:=U) fun m hm=>hs m hm
 rw[KU] at this
 exact⟨Lh this hU,hU⟩
section
variable {S:List (Nat×Nat×Nat)} {e:Nat×Nat×Nat}
theorem FC.top (h:FC os0 t (S++[e]) U os):∀a∈S,a.2.1 + 1 < e.2.1:=fun a ha=>(LX.mp h.pw).2.2 a ha e (Kw.mpr rfl)
theorem FC.topZ (h:FC os0 t (S++[e]) U os):∀a∈S,szN a.1 < szN e.1:=fun a ha=>(LX.mp h.inc).2.2 a ha e (Kw.mpr rfl)
theorem FC.adv (h:FC os0 t (S++[e]) U os) (hk:e.2.2 < (t.su e.1).length):FC os0 t (S++[(e.1,e.2.1,e.2.2 + 1)]) U (os.set e.2.1 (iterO (t.jx e.1) (e.2.2 + 1))):=by
 have he:=h.its e (by simp)
 have el:e.2.1 < os.length:=(List.getElem?_eq_some_iff.mp he.1).1
 have g:∀{i:Nat},i≠e.2.1->(os.set e.2.1 (iterO (t.jx e.1) (e.2.2 + 1)))[i]?=os[i]?:=fun q=>ay q
 have hst:=h.st
 have hit:=h.it
 obtain⟨es,hnd,hes⟩:=h.nd
 simp only[LK,K6,List.map_nil] at hst hit hes
 refine⟨fun(i:Nat) (o:O) q=>by rw[g (fun z=>by have:=(List.getElem?_eq_some_iff.mp q).1;lia)];exact h.base i o q,by rw[g (by lia)];simpa using hst,by rw[g (by lia)];simpa using hit,by rw[g (by lia)];exact h.se,⟨es,by rw[g (by lia)];exact hnd,by simpa using hes⟩,fun a ha=>?_,?_,?_,fun a ha=>?_,h.un⟩
 .rcases List.mem_append.mp ha with q | q
  .have:=h.top a q
   obtain⟨a1,a2,a3⟩:=h.its a (KD _ q)
   exact⟨by rw[g (by lia)];exact a1,by rw[g (by lia)];exact a2,a3⟩
  .obtain rfl:=Kw.mp q
   exact⟨aT el,by rw[g (by show e.2.1 + 1≠_;lia)];exact he.2.1,he.2.2⟩
 .have:=h.pw
  rw[LX] at this ⊢
  exact⟨this.1,Ms _ _,fun a ha c hc=>by obtain rfl:=Kw.mp hc;exact h.top a ha⟩
 .have:=h.inc
  rw[LX] at this ⊢
  exact⟨this.1,Ms _ _,fun a ha c hc=>by obtain rfl:=Kw.mp hc;exact h.topZ a ha⟩
 .rcases List.mem_append.mp ha with q | q
  .exact h.mem a (KD _ q)
  .obtain rfl:=Kw.mp q
   have:=h.mem e (by simp)
   exact⟨this.1,this.2.1,hk⟩
theorem uA {ks:List Str} {k:Str} (h:es.map (·.1)=ks++[k]) (hn:k∉ks):(es.filter fun p=>decide (p.1≠k)).map (·.1)=ks:=by
 have e1:(es.filter fun p=>decide (p.1≠k)).map (·.1)=(es.map (·.1)).filter fun x=>decide (x≠k):=by
  rw[List.filter_map];rfl
 rw[e1,h,Mw]
 have:ks.filter (fun x=>decide (x≠k))=ks:=List.filter_eq_self.mpr fun x hx=>by
  have:x≠k:=fun q=>hn (q▸hx)
  simp[this]
 rw[this]
 simp
theorem FC.pop (h:FC os0 t (S++[e]) U os) (G:GH t) (hes:es.map (·.1)=(S++[e]).map fun e=>wdN e.1) (o:O) :
  FC os0 t S U ((((os.set e.2.1 o).set os0.length (.list (mkW (S.map (·.1))))).set (os0.length + 3) (.map (es.filter fun p=>decide (p.1≠wdN e.1)))).set (os0.length + 1) (.list (S.map fun e=>V.ref (e.2.1 + 1)))):=by
 have he:=h.its e (by simp)
 have l0:=(List.getElem?_eq_some_iff.mp h.st).1
 have l1:=(List.getElem?_eq_some_iff.mp h.it).1
 obtain⟨_,hnd,_⟩:=h.nd
 have l3:=(List.getElem?_eq_some_iff.mp hnd).1
 have g:∀{i:Nat},i≠e.2.1->i≠os0.length->i≠os0.length + 3->i≠os0.length + 1->((((os.set e.2.1 o).set os0.length (.list (mkW (S.map (·.1))))).set (os0.length + 3) (.map (es.filter fun p=>decide (p.1≠wdN e.1)))).set (os0.length + 1) (.list (S.map fun e=>V.ref (e.2.1 + 1))))[i]?=os[i]?:=fun q1 q2 q3 q4=>by
  rw[ay q4,ay q3,ay q2,ay q1]
 refine⟨fun(i:Nat) (o:O) q=>by have:=(List.getElem?_eq_some_iff.mp q).1;rw[g (by lia) (by lia) (by lia) (by lia)];exact h.base i o q,?_,?_,?_,⟨es.filter fun p=>decide (p.1≠wdN e.1),?_,?_⟩,fun a ha=>?_,(LX.mp h.pw).1,(LX.mp h.inc).1,fun a ha=>h.mem a (KD _ ha),h.un⟩
 .rw[ay (by lia),ay (by lia)]
  exact aT (by rw[Mg];exact l0)
 .exact aT (by simp only[Mg];exact l1)
 .rw[g (by lia) (by lia) (by lia) (by lia)];exact h.se
 .rw[ay (by lia)]
  exact aT (by simp only[Mg];exact l3)
 .rw[LK] at hes
  refine uA hes fun hm=>?_
  obtain⟨a,ha,q⟩:=List.mem_map.mp hm
  have hz:=h.topZ a ha
  have e1:=(h.mem a (KD _ ha)).2.1
  have e2:=(h.mem e (by simp)).2.1
  rw[gu _ (G.n8 _ e1) _ (G.n8 _ e2) q] at hz
  lia
 .have:=h.top a ha
  obtain⟨a1,a2,a3⟩:=h.its a (KD _ ha)
  exact⟨by rw[g (by lia) (by lia) (by lia) (by lia)];exact a1,by rw[g (by lia) (by lia) (by lia) (by lia)];exact a2,a3⟩
end
section
variable {S:List (Nat×Nat×Nat)} {e:Nat×Nat×Nat}
theorem OB.sub (B:OB os0 t n) (G:GH t) (h:∀(i:Nat) (o:O),os0[i]?=some o->os[i]?=some o) (hm:m∈t.ns):au (aa w) 2 (.ref t.mi) (.str (wdN m)) os (.ref (t.ix m)) os:=fun value slice hs=>
 dm.dictItem (h _ _ B.m) (by rw[i7 G.n8 (G.n8 m hm),if_pos hm]) hs
theorem OB.suc (B:OB os0 t n) (h:∀(i:Nat) (o:O),os0[i]?=some o->os[i]?=some o) (hm:m∈t.ns):aj (aa w) 2 (.ref (t.ix m)) "successors" os (.ref (t.jx m)) os:=
 aj.slot (g:=aa w) (h _ _ (B.x m hm)) (h _ _ (B.y m hm)) rfl (fo w.params).2.2 rfl
theorem kN {k:Str} (h:k∉es.map (·.1)):es.lookup k=none:=by
 cases q:es.lookup k with
 | none=>rfl
 | some v=>exact absurd (List.mem_map.mpr ⟨_,mem_of_lookup q,rfl⟩) h
theorem s7 {k:Str} (h:k∉es.map (·.1)):(put es k v).map (·.1)=es.map (·.1)++[k]:=by
 induction es with
 | nil=>rfl
 | cons a r ih=>
  obtain⟨y,u⟩:=a
  rw[K6,Ka,not_or] at h
  rw[ee]
  rw[if_neg (by simpa using h.1),K6,ih h.2]
  rfl
theorem FC.inSe (h:FC os0 t S U os) (G:GH t) (m:Nat) (hm:m∈t.ns):ke w (wdN m) (os0.length + 2) os (decide (m∈U)):=by
 have:=ak.inSet (g:=aa w) (D:=2) (k:=wdN m) h.se (by rw[KU];have:=(h.slen G).2;lia)
 have e:decide (wdN m∈U.map wdN)=decide (m∈U):=by
  congr 1
  refine propext ⟨fun q=>?_,fun q=>List.mem_map.mpr ⟨m,q,rfl⟩⟩
  obtain⟨k,hk,q⟩:=List.mem_map.mp q
  exact gu _ (G.n8 _ (h.un.2 k hk)) _ (G.n8 _ hm) q▸hk
 rw[e] at this
 exact this
theorem FC.notIn (h:FC os0 t S U os) (G:GH t) (hm:m∈t.ns) (hz:∀a∈S,szN a.1 < szN m):wdN m∉S.map fun e=>wdN e.1:=fun q=>by
 obtain⟨a,ha,q⟩:=List.mem_map.mp q
 have:=hz a ha
 rw[gu _ (G.n8 _ (h.mem a ha).2.1) _ (G.n8 _ hm) q] at this
 lia
theorem FC.inNd (h:FC os0 t S U os) (G:GH t) (hm:m∈t.ns) (hz:∀a∈S,szN a.1 < szN m):ke w (wdN m) (os0.length + 3) os false:=by
 obtain⟨es,h1,h2⟩:=h.nd
 have:=ak.inMap (g:=aa w) (D:=2) (k:=wdN m) h1
 rw[kN (by rw[h2];exact h.notIn G hm hz)] at this
 exact this
theorem FC.push (B:OB os0 t n) (G:GH t) (h:FC os0 t S U os) (hm:m∈t.ns) (hu:m∉U) (hz:∀a∈S,szN a.1 < szN m) (si:Nat) :
  ∃os',Exs (aa w) 2 a7.scope ⟨os,lCn si t.mi os0.length (wdN m)⟩ [gp] .next ⟨os',lCn si t.mi os0.length (wdN m)⟩/\FC os0 t (S++[(m,os.length,0)]) (U++[m]) os':=by
 obtain⟨es,hnd,hes⟩:=h.nd
 obtain⟨sl,ul⟩:=h.slen G
 have l0:=(List.getElem?_eq_some_iff.mp h.st).1
 have l1:=(List.getElem?_eq_some_iff.mp h.it).1
 have l2:=(List.getElem?_eq_some_iff.mp h.se).1
 have l3:=(List.getElem?_eq_some_iff.mp hnd).1
 have nk:wdN m∉U.map wdN:=fun q=>by
  obtain⟨k,hk,q⟩:=List.mem_map.mp q
  exact hu (gu _ (G.n8 _ (h.un.2 k hk)) _ (G.n8 _ hm) q▸hk)
 have esl:es.length <=8:=by have:=congrArg List.length hes;simp only[KU] at this;lia
 have hI:=h.inSe (w:=w) G m hm
 rw[decide_eq_false hu] at hI
 -- the set
 generalize hos1:os.set (os0.length + 2) (.set (U.map wdN++[wdN m]))=os1
 have len1:os1.length=os.length:=by rw[<- hos1,Mg]
 have g1:∀{i:Nat},i≠os0.length + 2->os1[i]?=os[i]?:=fun q=>by rw[<- hos1];exact ay q
 have b1:∀(i:Nat) (o:O),os0[i]?=some o->os1[i]?=some o:=fun i o q=>by
  have:=(List.getElem?_eq_some_iff.mp q).1
  rw[g1 (by lia)];exact h.base i o q
 have c3:Cl (aa w) 2 mA [.ref (os0.length + 2),.str (wdN m)] [] os .none os1:=hos1▸Cl.setAdd h.se (by rw[KU];lia) nk
 have c7:=Cl.iterL (g:=aa w) (D:=2) (l:=t.jx m) (b1 _ _ (B.z m hm))
 have c8:=aj.nextL (g:=aa w) (D:=2) (i:=os1.length) (l:=t.jx m) (k:=0) (os:=os1++[iterO (t.jx m) 0]) (am _ _)
 -- the lists
 have a1:(os1++[iterO (t.jx m) 0]++[fX os1.length])[os0.length + 1]?=some (.list (S.map fun e=>V.ref (e.2.1 + 1))):=ab (ab (by rw[g1 (by lia)];exact h.it))
 have c9:=Cl.append (g:=aa w) (D:=2) (v:=.ref (os1++[iterO (t.jx m) 0]).length) a1 (by unfold Kg;rw[KU];lia)
 generalize hos4:(os1++[iterO (t.jx m) 0]++[fX os1.length]).set (os0.length + 1) (.list ((S.map fun e=>V.ref (e.2.1 + 1))++[.ref (os1++[iterO (t.jx m) 0]).length]))=os4 at c9
 have g4:∀{i:Nat} {o:O},i≠os0.length + 1->(os1++[iterO (t.jx m) 0]++[fX os1.length])[i]?=some o->os4[i]?=some o:=fun q z=>by rw[<- hos4,ay q];exact z
 have s4:os4[os0.length]?=some (.list (mkW (S.map (·.1)))):=g4 (by lia) (ab (ab (by rw[g1 (by lia)];exact h.st)))
 have n4:os4[os0.length + 3]?=some (.map es):=g4 (by lia) (ab (ab (by rw[g1 (by lia)];exact hnd)))
 have c10:=Cl.lenL (g:=aa w) (D:=2) s4 (by rw[aG,KU];lia)
 have c11:=dG.mapPut (g:=aa w) (D:=2) (k:=wdN m) (v:=.int ((mkW (S.map (·.1))).length:Nat)) n4 (by lia)
 generalize hos5:os4.set (os0.length + 3) (.map (put es (wdN m) (.int ((mkW (S.map (·.1))).length:Nat))))=os5 at c11
 have g5:∀{i:Nat},i≠os0.length + 3->os5[i]?=os4[i]?:=fun q=>by rw[<- hos5];exact ay q
 have s5:os5[os0.length]?=some (.list (mkW (S.map (·.1)))):=by rw[g5 (by lia)];exact s4
 have c13:=Cl.append (g:=aa w) (D:=2) (v:=.str (wdN m)) s5 (by unfold Kg;rw[aG,KU];lia)
 have run:=E1 w si t.mi os0.length (t.ix m) (t.jx m) os1.length (os1++[iterO (t.jx m) 0]).length (mkW (S.map fun(e:Nat×Nat×Nat)=>e.1)).length (wdN m) os os1 _ _ os4 os5 _ hI (an.setAdd h.se (by rw[KU];lia)) c3
  (an.listM (by rw[g1 (by lia)];exact h.it) Md Mc) (B.sub G b1 hm) (B.suc b1 hm) c7 c8 c9 c10 c11 (an.listM s5 Md Mc) c13
 refine⟨_,run,?_⟩
 have len4:os4.length=os.length + 2:=by rw[<- hos4];simp[len1]
 have len5:os5.length=os.length + 2:=by rw[<- hos5,Mg,len4]
 have g6:∀{i:Nat} {o:O},i≠os0.length->os5[i]?=some o->(os5.set os0.length (.list (mkW (S.map (·.1))++[.str (wdN m)])))[i]?=some o:=fun q z=>by rw[ay q];exact z
 have old:∀{i:Nat} {o:O},i≠os0.length->i≠os0.length + 1->i≠os0.length + 2->i≠os0.length + 3->os[i]?=some o->(os5.set os0.length (.list (mkW (S.map (·.1))++[.str (wdN m)])))[i]?=some o:=fun q0 q1 q2 q3 z=>
  g6 q0 (by rw[g5 q3];exact g4 q1 (ab (ab (by rw[g1 q2];exact z))))
 have eL:(os1++[iterO (t.jx m) 0]).length=os.length + 1:=by simp[len1]
 refine⟨fun(i:Nat) (o:O) q=>by have:=(List.getElem?_eq_some_iff.mp q).1;exact old (by lia) (by lia) (by lia) (by lia) (h.base i o q),?_,?_,?_,⟨put es (wdN m) (.int ((mkW (S.map (·.1))).length:Nat)),?_,?_⟩,fun a ha=>?_,?_,?_,fun a ha=>?_,?_⟩
 .rw[aT (by lia),LK,<- qR];rfl
 .refine g6 (by lia) ?_
  rw[g5 (by lia),<- hos4,aT (by simp[len1];lia),eL,LK]
  rfl
 .refine g6 (by lia) ?_
  rw[g5 (by lia)]
  refine g4 (by lia) (ab (ab ?_))
  rw[<- hos1,aT l2,LK]
  rfl
 .refine g6 (by lia) ?_
  rw[<- hos5,aT (by lia)]
 .rw[s7 (by rw[hes];exact h.notIn G hm hz),hes,LK]
  rfl
 .rcases List.mem_append.mp ha with q | q
  .obtain⟨a1,a2,a3⟩:=h.its a q
   exact⟨old (by lia) (by lia) (by lia) (by lia) a1,old (by lia) (by lia) (by lia) (by lia) a2,a3⟩
  .obtain rfl:=Kw.mp q
   dsimp only
   refine⟨g6 (by lia) ?_,g6 (by lia) ?_,by lia⟩
   .rw[g5 (by lia)]
    refine g4 (by lia) (ab ?_)
    rw[<- len1];exact am _ _
   .rw[g5 (by lia)]
    refine g4 (by lia) ?_
    rw[<- eL,<- len1];exact am _ _
 .rw[LX]
  refine⟨h.pw,Ms _ _,fun a ha c hc=>?_⟩
  obtain rfl:=Kw.mp hc
  obtain⟨_,a2,_⟩:=h.its a ha
  exact(List.getElem?_eq_some_iff.mp a2).1
 .rw[LX]
  refine⟨h.inc,Ms _ _,fun a ha c hc=>?_⟩
  obtain rfl:=Kw.mp hc
  exact hz a ha
 .rcases List.mem_append.mp ha with q | q
  .obtain⟨a1,a2⟩:=h.mem a q
   exact⟨KD _ a1,a2⟩
  .obtain rfl:=Kw.mp q
   exact⟨Kt _ (Kw.mpr rfl),hm,Nat.zero_le _⟩
 .refine⟨?_,fun k hk=>?_⟩
  .rw[LQ]
   refine⟨h.un.1,by simp,fun a ha c hc=>?_⟩
   obtain rfl:=Kw.mp hc
   exact fun q=>hu (q▸ha)
  .rcases List.mem_append.mp hk with q | q
   .exact h.un.2 k q
   .exact Kw.mp q▸hm
end
theorem cy.tryBrk {h0:ExceptHandler} {hs:List ExceptHandler} (hB:Exs g D sc σ body .brk σ₁):cy g D sc σ (.Try body (h0::hs) orelse [] pos) .brk σ₁:=bm.ofS fun A env ρ s he hr st=>by
 refine wpAny_Try_except (hB.use he hr st fun f s1 ρ1 rf st1 g1=>?_)
 obtain rfl:f=.brk:=rf
 exact⟨ρ1,rfl,st1,g1⟩
theorem gX.assign {p:Pos} {rest:List Kz} (h:gX g D sc σ (fun env=>KP e env) σ₁) (hp:cX e=true):gX g D sc σ (fun env=>Lq (.Assign [.Name x px] e p::rest) env) σ₁:=fun A env ρ s he hr st=>
 LN (Nz (Kr (h A env ρ s he hr st) (fun _ _ z=>z.elim) (fun _ _ z=>z)) (ce hp _ _ _))
theorem eh.inv {t:Expr} (I:Nat->S->Prop)
  (turn:∀k σ,k < n->I k σ->∃v σ₁ σ₂ f,nx k σ.os=some (some v)/\aX g D sc σ t v σ₁/\aQ g D sc σ₁ body f σ₂/\(f=.next\/f=.cont)/\I (k + 1) σ₂)
  (stop:∀σ,I n σ->nx n σ.os=some none):∀(m k:Nat) (σ:S),k + m=n->I k σ->∃σe,I n σe/\eh g D sc t body [] nx σe k σ:=by
 intro m
 induction m with
 | zero=>
  intro k σ e h
  obtain rfl:k=n:=e
  exact⟨σ,h,.stop (stop σ h) Exs.nil⟩
 | succ m ih=>
  intro k σ e h
  obtain⟨v,σ₁,σ₂,f,h1,h2,h3,h4,h5⟩:=turn k σ (by lia) h
  obtain⟨σe,he,hr⟩:=ih (k + 1) σ₂ (by lia) h5
  exact⟨σe,he,.turn h1 h2 h3 h4 hr⟩
theorem D3 (P:K5):a7.scope.names.lookup (J8 "StopIteration")=some Nq/\nsIn (KL P) K9 "StopIteration"=some none/\nsIn (KL P) LL "StopIteration"=some (some (.type "StopIteration")):=⟨∅,∅,∅⟩
theorem AQ (w:J9) (σ:S):∀(A:Lj) (env:Env) (ρ:List Kj) (s:Kl),env.scope=a7.scope->St (aa w) env σ ρ s->J6 (Kx PW (aa w).w) A (KP (sN 0 fc) env) (fun c s'=>c=.type "StopIteration"/\s'=s) (fun _ _=>False) s:=fun A env ρ s he hs=>by
 rw[C7]
 obtain⟨h1,h2,h3⟩:=D3 w.params
 refine Mk ?_ (by decide)
 rw[ND hs.er.kind (by show env.scope.names.lookup _=_;rw[he];exact h1)]
 unfold loadGlobal
 rw[hs.er.glob,hs.er.blt]
 refine J7 ((M8 hs.k h2).here ?_)
 refine J7 ((M8 hs.k h3).here ?_)
 exact Kb ⟨rfl,rfl⟩
noncomputable def mu (t:ci) (S:List (Nat×Nat×Nat)):Nat:=(S.map fun e=>(t.su e.1).length - e.2.2 + 1).sum
theorem lU (t:ci) (S:List (Nat×Nat×Nat)) (e:Nat×Nat×Nat):mu t (S++[e])=mu t S + ((t.su e.1).length - e.2.2 + 1):=by simp[mu]
theorem sB {L:List V} (ho:os[i]?=some (.list (L++[v]))):au (aa w) 2 (.ref i) (.int (-1)) os v os:=fun value slice hs=>by
 have e0:(((L++[v]).length:Nat):Int)=(L.length:Int) + 1:=by rw[KC];rfl
 have e1:((-1:Int) + (((L++[v]).length:Nat):Int)).toNat=L.length:=by rw[e0];lia
 exact dm.listNeg ho (by decide) (by rw[e0];lia) (by decide) (by rw[e1,Ke (Km _),Lg];rfl) hs
theorem yq (B:OB os0 t n) (G:GH t) {S:List (Nat×Nat×Nat)} {e:Nat×Nat×Nat} (h:FC os0 t (S++[e]) U os) (x:Str) (si:Nat) (hk:(t.su e.1)[e.2.2]?=some m) :
  cy (aa w) 2 a7.scope ⟨os,lCn si t.mi os0.length x⟩ fc .brk ⟨os.set e.2.1 (iterO (t.jx e.1) (e.2.2 + 1)),lCn si t.mi os0.length (wdN m)⟩:=by
 obtain⟨i1,i2,i3⟩:=h.its e (by simp)
 obtain⟨_,hns,_⟩:=h.mem e (by simp)
 have hl:=h.base _ _ (B.z _ hns)
 have hit:=h.it
 rw[LK] at hit
 obtain⟨sl,_⟩:=h.slen G
 have hS:au (aa w) 2 (.ref (os0.length + 1)) (.int (-1)) os (.ref (e.2.1 + 1)) os:=sB hit
 have ev:=Ev.call (g:=aa w) (pos:=eP (sN 0 jl)) (xB w si t.mi os0.length (e.2.1 + 1) [("node",.str x)] os hS) bU.nil (dC.nil (pos:=eP (sN 0 jl))) (Kp.wrap i2) (Cl.next (g:=aa w) (D:=2) i2 i1 hl (cL hk)) ∅
 have st:=Ex.assign (px:=eP (sN 1 jl)) (pos:=sP jl) (x:="node") ev (.inl ∅)
 rw[sC]
 refine cy.tryBrk ?_
 rw[qP]
 exact Exs.cons st (Exs.stop Ex.brk nofun)
theorem uU (B:OB os0 t n) (G:GH t) {S:List (Nat×Nat×Nat)} {e:Nat×Nat×Nat} (h:FC os0 t (S++[e]) U os) (x:Str) (si:Nat) (hk:(t.su e.1).length <=e.2.2) :
  ∃os',cy (aa w) 2 a7.scope ⟨os,lCn si t.mi os0.length x⟩ fc .next ⟨os',lCn si t.mi os0.length x⟩/\FC os0 t S U os':=by
 obtain⟨i1,i2,i3⟩:=h.its e (by simp)
 obtain⟨_,hns,_⟩:=h.mem e (by simp)
 have hl:=h.base _ _ (B.z _ hns)
 obtain⟨es,hnd,hes⟩:=h.nd
 obtain⟨sl,_⟩:=h.slen G
 have sl':S.length + 1 <=8:=by simpa using sl
 have esl:es.length <=8:=by have:=congrArg List.length hes;simp only[KU] at this;lia
 have hit:=h.it
 have hst:=h.st
 rw[LK] at hit hst
 have hS:au (aa w) 2 (.ref (os0.length + 1)) (.int (-1)) os (.ref (e.2.1 + 1)) os:=sB hit
 have sp:=gX.assign (px:=eP (sN 1 jl)) (p:=sP jl) (x:="node") (rest:=[.Break (sP Gb)]) (gX.call (pos:=eP (sN 0 jl)) (xB w si t.mi os0.length (e.2.1 + 1) [("node",.str x)] os hS) i2 i1 hl (by rw[aG];exact hk) ∅) rfl
 rw[<- qP] at sp
 have kp:∀{i:Nat} {o:O},i≠e.2.1->os[i]?=some o->(os.set e.2.1 (iterD e.2.2))[i]?=some o:=fun q z=>by rw[ay q];exact z
 have hk1:(es.lookup (wdN e.1)).isSome=true:=by
  cases q:es.lookup (wdN e.1) with
  | some v=>rfl
  | none=>
   exfalso
   have:wdN e.1∈es.map (·.1):=by rw[hes];exact List.mem_map.mpr ⟨e,by simp,rfl⟩
   obtain⟨p,hp,hq⟩:=List.mem_map.mp this
   obtain⟨v,hv⟩:=bT (x:=wdN e.1) (c:=p.2) (l:=es) (by rw[<- hq];exact hp)
   rw[q] at hv;exact nS hv
 have hH:=z0 (g:=aa w) (sc:=a7.scope) (σ:=⟨os.set e.2.1 (iterD e.2.2),lCn si t.mi os0.length x⟩) (d:=.Name "node2stacki" (eP (eN 0 (sN 0 gL)))) (e1:=.Name "stack" (eP (eN 0 (eN 0 (eN 1 (sN 0 gL)))))) (e2:=.Name "itstack" (eP (eN 0 (eN 0 (sN 0 kr)))))
  (a1:=eP (eN 0 (eN 1 (sN 0 gL)))) (p1:=eP (eN 1 (sN 0 gL))) (q1:=eP (sN 0 gL)) (q2:=sP gL) (a2:=eP (eN 0 (sN 0 kr))) (p2:=eP (sN 0 kr)) (q3:=sP kr) (n:=os0.length + 3) (i:=os0.length) (j:=os0.length + 1) (k:=wdN e.1) (vs:=mkW (S.map (·.1))) (us:=S.map fun e=>V.ref (e.2.1 + 1)) (u:=.ref (e.2.1 + 1)) (es:=es)
  (ir.loc ∅ rfl) (ir.loc ∅ rfl) (kp (by lia) (by rw[hst];simp[mkW])) (kp (by lia) hnd) (by lia) hk1 (fun os'=>ir.loc ∅ rfl) (kp (by lia) hit) (by lia) (by lia)
  (by rw[aG,KU];lia) (by rw[KU];lia) (by lia) rfl rfl ∅ ∅ ∅
 rw[<- Bv] at hH
 have tr:=cy.tryStop (hp:=FQ fc) (pos:=sP fc) (orelse:=[]) sp (AQ w _) hH
 rw[<- sC] at tr
 exact⟨_,tr,h.pop G hes _⟩
theorem sy (si:Nat) (tl:List (Str×V)) {S:List (Nat×Nat×Nat)} (G:GH t) (h:FC os0 t S U os):Tr (aa w) 2 a7.scope ⟨os,lC si t.mi os0.length tl⟩ (sN 0 ew) (!S.isEmpty) ⟨os,lC si t.mi os0.length tl⟩:=by
 obtain⟨sl,_⟩:=h.slen G
 have tr:=Tr.val (E3 w si t.mi os0.length tl os) (bV.list (g:=aa w) (D:=2) h.st (by rw[aG,KU];lia)) ∅
 have e:(((mkW (S.map fun e=>e.1)).length:Int) !=0)=(!S.isEmpty):=by
  rw[aG,KU]
  cases S with
  | nil=>rfl
  | cons a r=>simp;lia
 rw[e] at tr
 exact tr
theorem cyV_run (B:OB os0 t n) (G:GH t) (si:Nat) (x:Str):∀(k:Nat) (S:List (Nat×Nat×Nat)) (os:List O),S.length=k->FC os0 t S U os->
  (∃S' m os',eX (aa w) 2 a7.scope (sN 0 ew) (af ew) (bz ew) .next ⟨os',lCn si t.mi os0.length (wdN m)⟩ ⟨os,lCn si t.mi os0.length x⟩/\FC os0 t S' U os'/\m∈t.ns/\(∀a∈S',szN a.1 < szN m)/\mu t S' < mu t S)\/
  (∃os',eX (aa w) 2 a7.scope (sN 0 ew) (af ew) (bz ew) .brk ⟨os',lCn si t.mi os0.length x⟩ ⟨os,lCn si t.mi os0.length x⟩/\FC os0 t [] U os'):=by
 intro k
 induction k with
 | zero=>
  intro S os hk h
  obtain rfl:=List.eq_nil_of_length_eq_zero hk
  exact .inr ⟨os,.stop (sy si _ G h) (bm.ofS (y9 w si t.mi os0.length _ os)),h⟩
 | succ k ih=>
  intro S os hk h
  have hne:S≠[]:=fun q=>by rw[q] at hk;cases hk
  have ob':∃S0 e,S=S0++[e]:=⟨S.dropLast,S.getLast hne,(List.dropLast_concat_getLast hne).symm⟩
  obtain⟨S0,e,rfl⟩:=ob'
  have htr:=sy (w:=w) si [("node",.str x)] G h
  rw[show(!(S0++[e]).isEmpty)=true by simp] at htr
  have hl0:S0.length=k:=by simpa using hk
  cases q:(t.su e.1)[e.2.2]? with
  | some m=>
   have lt:e.2.2 < (t.su e.1).length:=(List.getElem?_eq_some_iff.mp q).1
   obtain⟨_,hns,_⟩:=h.mem e (by simp)
   obtain⟨s1,s2⟩:=G.suc _ hns m (Kq q)
   refine .inl ⟨_,m,_,.leave (f:=.brk) htr ?_ rfl,h.adv lt,s1,fun a ha=>?_,?_⟩
   .rw[qc]
    exact aQ.stop (yq B G h x si q) nofun
   .rcases List.mem_append.mp ha with z | z
    .have:=h.topZ a z;lia
    .obtain rfl:=Kw.mp z
     exact s2
   .rw[lU,lU]
    dsimp only
    lia
  | none=>
   have le:(t.su e.1).length <=e.2.2:=List.getElem?_eq_none_iff.mp q
   obtain⟨os1,h1,h2⟩:=uU (w:=w) B G h x si le
   have hb:aQ (aa w) 2 a7.scope ⟨os,lCn si t.mi os0.length x⟩ (af ew) .next ⟨os1,lCn si t.mi os0.length x⟩:=by
    rw[qc]
    exact aQ.cons h1 aQ.nil
   rcases ih S0 os1 hl0 h2 with⟨S',m,os',r,a1,a2,a3,a4⟩ | ⟨os',r,a1⟩
   .exact .inl ⟨S',m,os',.turn htr hb (.inl rfl) r,a1,a2,a3,by rw[lU];lia⟩
   .exact .inr ⟨os',.turn htr hb (.inl rfl) r,a1⟩
theorem Bm (h:∀(i:Nat) (o:O),os0[i]?=some o->os[i]?=some o):∃μ,os=os0++μ:=by
 refine⟨os.drop os0.length,?_⟩
 have e:os.take os0.length=os0:=by
  apply List.ext_getElem?
  intro i
  by_cases q:i < os0.length
  .rw[List.getElem?_take_of_lt q,Kc q]
   exact h _ _ (Kc q)
  .rw[Kv (by simp;lia),Kv (by lia)]
 conv=>lhs;rw[<- NH os0.length os,e]
theorem cY.openMap {f:V} (ho:os[i]?=some (.map es)) (h:∀n,∃μ,cY g D f args kw (os.set i (.dict es n)) v (os.set i (.dict es n)++μ)) (hv:bi os.length v=true):cY g D f args kw os v os:=fun ρ x xs ks a b c A s l hr fa fl hh hk=>by
 obtain⟨n,hn⟩:=hh.openMap ho
 obtain⟨μ,hc⟩:=h n
 have il:i < os.length:=(List.getElem?_eq_some_iff.mp ho).1
 refine Kr (hc ρ x xs ks a b c A s l hr fa fl hn hk) (fun y s' ⟨ρ',r,h',go,up⟩=>?_) fun _ _ z=>z
 obtain⟨ν,rfl,hν⟩:=go.pre
 have h2:=(hn.cut h').closeMap (aT il)
 rw[List.set_set,nX ho] at h2
 exact⟨ρ,r.clip (by rw[hh.len];exact hv),h2,⟨⟨[],(KZ _).symm,fun _ h=>(nomatch h)⟩,go.kept,go.alive,go.gens,go.os⟩,up⟩
theorem Exs.appCont (h:Exs g D sc σ l₁ .cont σ₁):Exs g D sc σ (l₁++l₂) .cont σ₁:=fun A env ρ s he hr hs=>by
 show J6 _ _ (Lq (l₁++l₂) env) _ _ _
 rw[dv]
 refine J7 (h.use he hr hs fun x s1 ρ1 r1 st1 g1=>?_)
 obtain rfl:x=.cont:=r1
 exact Kb ⟨ρ1,rfl,st1,g1⟩
theorem Fk {x y z:Nat} (h:y <=8) (hz:z + 1 <=8) (hn:x + 20 * (8 - z) < n):x + (y - 0 + 1) + 20 * (8 - (z + 1)) < n:=by lia
theorem AA (B:OB os0 t n) (G:GH t) (si:Nat):∀(N:Nat) (S:List (Nat×Nat×Nat)) (U:List Nat) (os:List O) (m:Nat),mu t S + 20 * (8 - U.length) < N->FC os0 t S U os->m∈t.ns->(∀a∈S,szN a.1 < szN m)->
  ∃os' U' x',eX (aa w) 2 a7.scope (sN 0 iz) (af iz) [] .next ⟨os',lCn si t.mi os0.length x'⟩ ⟨os,lCn si t.mi os0.length (wdN m)⟩/\FC os0 t [] U' os':=by
 intro N
 induction N with
 | zero=>exact fun _ _ _ _ h=>absurd h (Nat.not_lt_zero _)
 | succ N ih=>
  intro S U os m hN h hm hz
  have first:∃S1 U1 os1,Exs (aa w) 2 a7.scope ⟨os,lCn si t.mi os0.length (wdN m)⟩ [gp] .next ⟨os1,lCn si t.mi os0.length (wdN m)⟩/\FC os0 t S1 U1 os1/\mu t S1 + 20 * (8 - U1.length) < N + 1:=by
   by_cases hu:m∈U
   .have hI:=h.inSe (w:=w) G m hm
    rw[decide_eq_true hu] at hI
    exact⟨S,U,os,Fi w si t.mi os0.length (wdN m) os hI (h.inNd G hm hz),h,hN⟩
   .obtain⟨os1,r,h1⟩:=h.push (w:=w) B G hm hu hz si
    have:=(h1.slen G).2
    rw[KC,Mm] at this
    exact⟨_,_,os1,r,h1,by rw[lU,KC,Mm];exact Fk (G.len m hm) this hN⟩
  obtain⟨S1,U1,os1,r1,h1,hM⟩:=first
  rcases cyV_run (w:=w) B G si (wdN m) S1.length S1 os1 rfl h1 with⟨S',m',os',r,a1,a2,a3,a4⟩ | ⟨os',r,a1⟩
  .obtain⟨os2,U2,x2,r2,h2⟩:=ih S' U1 os' m' (Nj (Nat.add_lt_add_right a4 _) (Nat.le_of_lt_succ hM)) a1 a2 a3
   refine⟨os2,U2,x2,.turn (f:=.next) (qw w _) ?_ (.inl rfl) r2,h2⟩
   rw[qQ]
   refine aQ.app (l₁:=[gp]) (l₂:=[ew]) (bm.ofS r1) (aQ.cons ?_ aQ.nil)
   rw[ug]
   exact cy.whRun r
  .refine⟨os',U1,wdN m,.leave (f:=.brk) (qw w _) ?_ rfl,a1⟩
   rw[qQ]
   refine aQ.app (l₁:=[gp]) (l₂:=[ew]) (bm.ofS r1) (aQ.stop ?_ nofun)
   rw[ug]
   exact cy.whRun r
theorem FC.init:FC os0 t [] [] (oCy os0):=by
 have l1:(os0++[O.list []]).length=os0.length + 1:=by simp
 have l2:(os0++[O.list []]++[O.list []]).length=os0.length + 2:=by simp
 have l3:(os0++[O.list []]++[O.list []]++[O.set []]).length=os0.length + 3:=by simp
 refine⟨fun i o e=>ab (ab (ab (ab e))),ab (ab (ab (am _ _))),?_,?_,⟨[],?_,rfl⟩,(fun _ h=>nomatch h),.nil,.nil,(fun _ h=>nomatch h),KY,(fun _ h=>nomatch h)⟩
 .rw[<- l1];exact ab (ab (am _ _))
 .rw[<- l2];exact ab (am _ _)
 .rw[<- l3];exact am _ _
theorem GP:∀x,K2 a7 ⟨[x],[]⟩=pure [(J8 "self",x)]:=fun x=>∅
theorem tQ (B:OB os0 t n) (G:GH t) (g1:aj (aa w) 2 (.ref t.si) "_node2info" os0 (.ref t.mi) os0):∃μ,cY (aa w) 3 (.top (.ref 164)) [.ref t.si] [] os0 .none (os0++μ):=by
 have e0:=Aw w t.si t.mi os0 g1
 have gn:∀k,k < t.ns.length->t.ns[k]?=some (t.ns.getD k 0):=fun k hk=>by rw[Kh,Kc hk];rfl
 have mem:∀k,k < t.ns.length->t.ns.getD k 0∈t.ns:=fun k hk=>by rw[Kh,Kc hk];exact Lk hk
 have nxAt:∀{os:List O} {k:Nat},(∀(i:Nat) (o:O),os0[i]?=some o->os[i]?=some o)->k6 t.mi n (t.ns.map fun m=>(wdN m,V.ref (t.ix m))).length k os=some (((t.ns.map fun m=>(wdN m,V.ref (t.ix m)))[k]?).map fun p=>V.str p.1):=fun h=>nP (h _ _ B.m)
 obtain⟨σe,he,run⟩:=eh.inv (g:=aa w) (D:=2) (sc:=a7.scope) (t:=sN 1 gB) (body:=af gB) (nx:=k6 t.mi n (t.ns.map fun m=>(wdN m,V.ref (t.ix m))).length) (n:=t.ns.length)
  (fun k σ=>∃U tl,FC os0 t [] U σ.os/\σ.loc=lC t.si t.mi os0.length tl/\(tl=[]\/∃x,tl=[((J8 "node"),V.str x)]))
  (fun k σ hk I=>by
   obtain⟨os,loc⟩:=σ
   obtain⟨U,tl,h,hloc,htl⟩:=I
   dsimp only at h hloc
   subst hloc
   have hm:=mem k hk
   have hput:put (lC t.si t.mi os0.length tl) "node" (.str (wdN (t.ns.getD k 0)))=lCn t.si t.mi os0.length (wdN (t.ns.getD k 0)):=by
    rcases htl with rfl | ⟨x,rfl⟩ <;> rfl
   have ha:aX (aa w) 2 a7.scope ⟨os,lC t.si t.mi os0.length tl⟩ (sN 1 gB) (.str (wdN (t.ns.getD k 0))) ⟨os,lCn t.si t.mi os0.length (wdN (t.ns.getD k 0))⟩:=by
    rw[<- hput]
    exact aX.nameE ⟨eP (sN 1 gB),∅⟩ (.inl ∅)
   have hnx:k6 t.mi n (t.ns.map fun m=>(wdN m,V.ref (t.ix m))).length k os=some (some (.str (wdN (t.ns.getD k 0)))):=by
    rw[nxAt h.base,KX,gn k hk];rfl
   have hI:=h.inSe (w:=w) G _ hm
   by_cases hu:t.ns.getD k 0∈U
   .rw[decide_eq_true hu] at hI
    refine⟨_,_,⟨os,lCn t.si t.mi os0.length (wdN (t.ns.getD k 0))⟩,.cont,hnx,ha,?_,.inr rfl,U,_,h,rfl,.inr ⟨_,rfl⟩⟩
    rw[qK]
    exact bm.ofS (Exs.appCont (l₂:=[iz]) (DP w t.si t.mi os0.length _ os hI))
   .rw[decide_eq_false hu] at hI
    obtain⟨os',U',x',r,h'⟩:=AA (w:=w) B G t.si _ [] U os _ (Nat.lt_succ_self _) h hm (fun _ q=>nomatch q)
    refine⟨_,_,⟨os',lCn t.si t.mi os0.length x'⟩,.next,hnx,ha,?_,.inl rfl,U',_,h',rfl,.inr ⟨_,rfl⟩⟩
    rw[qK]
    refine aQ.app (l₁:=[jy]) (l₂:=[iz]) (bm.ofS (Fp w t.si t.mi os0.length _ os hI)) (aQ.cons ?_ aQ.nil)
    rw[Dh]
    exact cy.whRun r)
  (fun σ ⟨U,tl,h,_⟩=>by rw[nxAt h.base,Kv (by rw[KU];exact Km _)];rfl)
  t.ns.length 0 ⟨oCy os0,lC t.si t.mi os0.length []⟩ (by lia) ⟨[],[],FC.init,rfl,.inl rfl⟩
 obtain⟨os,loc⟩:=σe
 obtain⟨U,tl,h,hloc,htl⟩:=he
 dsimp only at h hloc
 subst hloc
 have hmi:(oCy os0)[t.mi]?=some (.dict (t.ns.map fun m=>(wdN m,V.ref (t.ix m))) n):=FC.init.base (t:=t) _ _ B.m
 have e1:=cy.forRun (pos:=sP gB) (DZ w t.si t.mi os0.length [] (oCy os0)) (aZ.keys hmi) run (aD ∅)
 rw[<- Bp] at e1
 have all:=aQ.app (bm.ofS e0) (aQ.cons e1 (bm.ofS (CQ w t.si t.mi os0.length tl os)))
 rw[<- vv] at all
 obtain⟨μ,rfl⟩:=Bm h.base
 refine⟨μ,jD.cl (jD.def_ (xz w) (bf.of1 GP (a:=.ref t.si) (os:=os0)) (fun x hx=>?_) (KW.mpr ⟨Kf,KY⟩) all rfl ⟨nofun,nofun⟩)⟩
 simp only[Ka,Kf,or_false] at hx
 rcases hx with rfl
 exact .inl ∅
theorem AD (w:J9) (A:SA os t) (G:GH t):cY (aa w) 3 (.top (.ref 164)) [.ref t.si] [] os .none os:=by
 have es0:os[t.mi]?=some (.map (t.ns.map fun m=>(wdN m,V.ref (t.ix m)))):=A.m
 obtain⟨n0,hd⟩:=A.d
 refine cY.openMap es0 (fun n=>?_) rfl
 have k0:∀{i:Nat} {o:O},os[i]?=some o->i≠t.mi->(os.set t.mi (.dict (t.ns.map fun m=>(wdN m,V.ref (t.ix m))) n))[i]?=some o:=fun e q=>by rw[ay q];exact e
 have ml:t.mi < os.length:=A.lt (.inr (.inr (.inl rfl)))
 have B:OB (os.set t.mi (.dict (t.ns.map fun m=>(wdN m,V.ref (t.ix m))) n)) t n:=⟨aT ml,fun m hm=>k0 (A.x m hm) (a9 (A.x m hm) es0 nofun),fun m hm=>k0 (A.y m hm) (a9 (A.y m hm) es0 nofun),fun m hm=>k0 (A.z m hm) (a9 (A.z m hm) es0 nofun)⟩
 exact tQ B G (aj.own (g:=aa w) (k0 A.s (a9 A.s es0 nofun)) (k0 hd (a9 hd es0 nofun)) rfl (bP w.params _ _ (cE w.params).1).1.1 (bP w.params _ _ (cE w.params).1).1.2 rfl)
noncomputable def fz:Kz:=ah ga 2
theorem t7:ga.drop 2=fz::ga.drop 3:=∅
theorem zg:fz=.Assign [.Name "cycle" (eP (sN 1 fz))] (.Call (.Attribute (eN 0 (eN 0 (sN 0 fz))) "_find_cycle" (eP (eN 0 (sN 0 fz)))) [] [] (eP (sN 0 fz))) (sP fz):=∅
theorem DY:mt 174 "_find_cycle"=some 164:=∅
theorem EX:mt 174 "prepare"=some 129:=∅
theorem Ij:∀x,K2 cU ⟨[x],[]⟩=pure [(J8 "self",x)]:=fun x=>∅
theorem Fn.kp {fd:KN} (fn:Fn g a fd body) (os:List O):Kp g os (.top (.ref a)):=let⟨_,_,_,h⟩:=fn.at_;Kp.def_ h
theorem vq (w:J9) (si:Nat) (os:List O):Exs (aa w) 3 cU.scope ⟨os,[("self",.ref si),("cycle",.none)]⟩ (ga.drop 3) .next ⟨os,[("self",.ref si),("cycle",.none)]⟩:=
 jp (X:=X0 w 3 aq) ∅
theorem Aq (w:J9) (A:SA os t) (G:GH t) (hr:t.rd=.none) :
  ∃os',cY (aa w) 4 (.top (.ref 129)) [.ref t.si] [] os .none os'/\SA os' { t with rd:=.ref (os.length + 1) }/\cw os t os' { t with rd:=.ref (os.length + 1) }/\os'[os.length + 1]?=some (.list (mkW (dd t.np t.ns)))/\¬ Ow t (os.length + 1):=by
 obtain⟨os',h1,A',k,hl,fr⟩:=ua w A (by have:=G.cnt;lia)
 refine⟨os',?_,A',k,hl,fr⟩
 have e0:=tW w t.si os (A.ready0 hr)
 have G':GH { t with rd:=.ref (os.length + 1) }:=⟨G.n8,G.nd,G.suc,G.len,G.cnt⟩
 have hm:an (aa w) (.ref t.si) "_find_cycle" os' (.top (.ref 164)):=A'.mth (w:=w) DY rfl
 have ev:=dQ.meth (g:=aa w) (D:=3) (sc:=cU.scope) (σ:=⟨os',ls t.si⟩) (o:=eN 0 (eN 0 (sN 0 fz))) (apos:=eP (eN 0 (sN 0 fz))) (pos:=eP (sN 0 fz))
  (aC (X:=X0 w 3 aq) (v:=.ref t.si) (s:=⟨os',ls t.si⟩) ∅) hm bU.nil (dC.nil (pos:=eP (sN 0 fz))) ((xz w).kp os') (AD w (os:=os') (t:={ t with rd:=.ref (os.length + 1) }) A' G') ∅ rfl rfl rfl ∅
 have st:=cy.assign (px:=eP (sN 1 fz)) (pos:=sP fz) (x:="cycle") ev (.inl ∅)
 rw[<- zg] at st
 have e3:=aQ.cons st (bm.ofS (vq w t.si os'))
 rw[<- t7] at e3
 have all:=aQ.app (bm.ofS e0) (aQ.cons (bm.ofS h1) e3)
 rw[<- wF] at all
 refine jD.cl (jD.def_ (xo w) (bf.of1 Ij (a:=.ref t.si) (os:=os)) (fun x hx=>?_) (KW.mpr ⟨Kf,KY⟩) all rfl ⟨nofun,nofun⟩)
 simp only[Ka,Kf,or_false] at hx
 rcases hx with rfl
 exact .inl ∅
noncomputable def EJ:List Kz:=(aM 14 0).2.1
noncomputable def fJ (fd:KN) (pos:List Kd):{ k:Option (Array Kd)->Sem (List (Str×Kd)) // K2 fd ⟨pos,[]⟩=seqItems? fd.defaults >>=k }:=⟨_,rfl⟩
theorem GC:∀x,(fJ j9 [x]).1 (some #[.none])=pure [(J8 "self",x),(J8 "graph",.none)]:=fun x=>∅
noncomputable def Fs (K:Frag) (a:Kj):Option (Array Kd):=(K.lookup a).bind fun o=>match o.data with
 | .seq vs _=>some vs
 | _=>none
theorem eD {K:Frag} (h:Fs K a=some vs):∃o n,K.lookup a=some o/\o.data=.seq vs n:=by
 obtain⟨⟨c,di,d,sl⟩,e,h⟩:=Option.bind_eq_some_iff.mp h
 cases d with
 | seq ws n=>cases h;exact⟨_,n,e,rfl⟩
 | _=>exact nS h
theorem Bg (w:J9):bf (aa w) 0 j9 [.ref si] [] os [((J8 "self"),.ref si),((J8 "graph"),.none)] os:=fun ρ xs ks hx hk=>by
 cases hk
 cases hx with
 | cons r rs=>
  cases rs
  have ob':∃o n,(KL w.params).lookup 103=some o/\o.data=.seq #[.none] n:=eD ∅
  obtain⟨o,n,ho,hs⟩:=ob'
  refine Lf.pure fun A s hr hh hK=>?_
  rw[show(KB (·.1) ([]:List (Str×V))).zip ([]:List Kd)=[] from rfl,(fJ j9 [_]).2]
  refine J7 (Mu (hK _ _ ho) hs ?_)
  rw[GC]
  exact Kb ⟨.cons ⟨rfl,r⟩ (.cons ⟨rfl,rfl⟩ .nil),rfl,rfl,rfl⟩
theorem wO (w:J9) (si:Nat) (o0 o2 o3 o4 o5:List O) (h1:az (aa w) 0 (.ref si) "_node2info" (.ref o0.length) (o0++[O.map []]) o2) (h2:az (aa w) 0 (.ref si) "_ready_nodes" .none o2 o3) (h3:az (aa w) 0 (.ref si) "_npassedout" (.int 0) o3 o4) (h4:az (aa w) 0 (.ref si) "_nfinished" (.int 0) o4 o5) :
  Exs (aa w) 0 j9.scope ⟨o0,[("self",.ref si),("graph",.none)]⟩ EJ .next ⟨o5,[("self",.ref si),("graph",.none)]⟩:=
 mV (X:={ X0 w 0 aq with ys:=jv [("_node2info",fun _ _ _=>o2),("_ready_nodes",fun _ _ _=>o3),("_npassedout",fun _ _ _=>o4),("_nfinished",fun _ _ _=>o5)] })
  (c:=[.p (az (aa w) 0 (.ref si) "_node2info" (.ref o0.length) (o0++[O.map []]) o2),.p (az (aa w) 0 (.ref si) "_ready_nodes" .none o2 o3),.p (az (aa w) 0 (.ref si) "_npassedout" (.int 0) o3 o4),.p (az (aa w) 0 (.ref si) "_nfinished" (.int 0) o4 o5)]) ∅ ⟨h1,h2,h3,h4,trivial⟩
theorem AH (P:K5):makesIn (KL P) 174=true/\LG (KL P) (.ref 174) "__init__"=some (some (.ref 110))/\Na (KL P) (.ref 110)=some (.type "function"):=⟨∅,∅,∅⟩
noncomputable def iP (n:Nat):ci:=⟨n + 1,n,n + 2,[],fun _=>0,fun _=>0,fun _=>0,fun _=>0,fun _=>[],.none,0,0⟩
theorem nd_sg:([J8 "self",J8 "graph"]:List Str).Nodup:=by decide +kernel
noncomputable def BR (m:Nat):List (Str×V):=[((J8 "_node2info"),.ref m)]
noncomputable def FO (m:Nat):List (Str×V):=BR m++[((J8 "_ready_nodes"),.none)]
noncomputable def IQ (m:Nat):List (Str×V):=FO m++[((J8 "_npassedout"),.int 0)]
theorem kC {o1:List O} {name:Str} (hs:o1[si]?=some (.inst 174 d)) (ne:si≠d) (hl:d < o1.length) (hw:ow 174 name=true) (hz:es.length < 1000) :
  az (aa w) 0 (.ref si) name v (o1.set d (.dict es n)) (o1.set d (.dict (put es name v) (ie es name n))):=by
 have:=az.own (g:=aa w) (D:=0) (name:=name) (v:=v) (n:=n) (es:=es) (os:=o1.set d (.dict es n)) (by rw[ay ne];exact hs) (aT hl) (bP w.params _ _ hw).2 hz
 rw[List.set_set] at this
 exact this
theorem vB (w:J9) (os:List O):∃os',Cl (aa w) 2 (.top (.ref 174)) [] [] os (.ref (os.length + 1)) os'/\SA os' (iP os.length)/\os'.length=os.length + 3/\∀(i:Nat) (o:O),os[i]?=some o->os'[i]?=some o:=by
 obtain⟨m1,m2,m3⟩:=AH w.params
 have hlen:(madeO os 174).length=os.length + 2:=by simp[madeO]
 have hlen1:(madeO os 174++[O.map []]).length=os.length + 3:=by simp[hlen]
 generalize hb:madeO os 174++[O.map []]=o1
 rw[hb] at hlen1
 have hd:o1[os.length]?=some (.dict [] 0):=by rw[<- hb];exact ab (by unfold madeO;exact ab (am _ _))
 have hs:o1[os.length + 1]?=some (.inst 174 os.length):=by
  rw[<- hb]
  refine ab ?_
  unfold madeO
  rw[show os.length + 1=(os++[O.dict [] 0]).length by simp]
  exact am _ _
 have hm:o1[os.length + 2]?=some (.map []):=by rw[<- hb,<- hlen];exact am _ _
 have hl:os.length < o1.length:=by lia
 have sat:∀(o:O) {i:Nat} {p:O},i≠os.length->o1[i]?=some p->(o1.set os.length o)[i]?=some p:=fun o i p q z=>by rw[ay q];exact z
 have own:=cE w.params
 have h1:az (aa w) 0 (.ref (os.length + 1)) "_node2info" (.ref (madeO os 174).length) (madeO os 174++[O.map []]) (o1.set os.length (.dict (BR (madeO os 174).length) 1)):=hb▸az.own (g:=aa w) (D:=0) (name:="_node2info") (v:=.ref (madeO os 174).length) (hb▸hs) (hb▸hd) (bP w.params _ _ own.1).2 (by simp)
 have h2:=kC (w:=w) (name:="_ready_nodes") (v:=.none) (n:=1) (es:=BR (madeO os 174).length) hs (by lia) hl own.2.1 (of_decide_eq_true ∅)
 have h3:=kC (w:=w) (name:="_npassedout") (v:=.int 0) (n:=2) (es:=FO (madeO os 174).length) hs (by lia) hl own.2.2.1 (of_decide_eq_true ∅)
 have h4:=kC (w:=w) (name:="_nfinished") (v:=.int 0) (n:=3) (es:=IQ (madeO os 174).length) hs (by lia) hl own.2.2.2 (of_decide_eq_true ∅)
 have run:=wO w (os.length + 1) (madeO os 174) _ _ _ _ h1 h2 h3 h4
 have c:=Co.def_ (Ey w) (Bg w (si:=os.length + 1) (os:=madeO os 174)) (fun x hx=>by
  simp only[Ka,Kf,or_false] at hx
  rcases hx with rfl | rfl <;> exact .inl ∅) nd_sg run rfl ⟨nofun,nofun⟩
 refine⟨_,(Co.make (g:=aa w) m1 m2 m3 c).cl,?_,?_,fun i o e=>?_⟩
 .dsimp only
  rw[hlen]
  exact⟨sat _ (by show os.length + 1≠_;lia) hs,⟨_,aT hl⟩,sat _ (by show os.length + 2≠_;lia) hm,(fun _ h=>nomatch h),(fun _ h=>nomatch h),(fun _ h=>nomatch h),(fun _ h=>nomatch h),(fun _ h=>nomatch h),KY,fun _ _=>⟨rfl,rfl⟩⟩
 .rw[Mg,hlen1]
 .have il:=(List.getElem?_eq_some_iff.mp e).1
  refine sat _ (by lia) ?_
  rw[<- hb]
  exact ab (by unfold madeO;exact ab (ab e))
noncomputable def dc (ms d:List Nat) (m:Nat):Nat:=((bel ms m).filter fun o=>!d.contains o).length
structure LI (ms w d:List Nat) (np:Nat->Int):Prop where
 nw:w.Nodup
 dis:∀m∈w,m∉d
 sw:∀m∈w,m∈ms
 zero:∀m,(m∈w\/m∈d)->∀o∈bel ms m,o∈d
 npd:∀m∈ms,m∈d->np m=-2
 npw:∀m∈ms,m∈w->np m=-1
 npo:∀m∈ms,m∉d->m∉w->np m=dc ms d m/\0 < dc ms d m
theorem iL {o:Nat}:o∈bel ms m↔o∈ms/\bK m o=true:=by unfold bel;exact KI
theorem uT (a:Nat):bK a a=false:=by
 unfold bK
 simp
theorem wn {l:List Nat} {a:Nat} (nd:l.Nodup) (ha:a∈l):(l.filter fun o=>!(o==a)).length + 1=l.length:=by
 induction l with
 | nil=>cases ha
 | cons x r ih=>
  rw[KW] at nd
  by_cases e:x=a
  .subst e
   have:r.filter (fun o=>!(o==x))=r:=List.filter_eq_self.mpr fun o ho=>by
    have:o≠x:=fun q=>nd.1 (q▸ho)
    simp[this]
   rw[Ml,if_neg (by simp),this,Li]
  .have ha':a∈r:=(Ka.mp ha).resolve_left fun q=>e q.symm
   rw[Ml,if_pos (by simp[e]),Li,Li,ih nd.2 ha']
theorem wb {d:List Nat} {a:Nat} (nd:ms.Nodup) (ha:a∈bel ms m) (hd:a∉d):dc ms (d++[a]) m + 1=dc ms d m:=by
 unfold dc
 have e:(bel ms m).filter (fun o=>!(d++[a]).contains o)=((bel ms m).filter fun o=>!d.contains o).filter fun o=>!(o==a):=by
  rw[List.filter_filter]
  refine Nv fun o _=>?_
  by_cases q:o=a <;> by_cases q2:o∈d <;> simp[q,q2]
 rw[e]
 have nb:(bel ms m).Nodup:=nd.sublist Lz
 exact wn (nb.sublist Lz) (KI.mpr ⟨ha,by simpa using hd⟩)
theorem vH {d:List Nat} {a:Nat} (ha:a∉bel ms m):dc ms (d++[a]) m=dc ms d m:=by
 unfold dc
 congr 1
 refine Nv fun o ho=>?_
 have:o≠a:=fun q=>ha (q▸ho)
 simp[this]
theorem kK {d:List Nat}:dc ms d m=0↔∀o∈bel ms m,o∈d:=by
 unfold dc
 rw[List.length_eq_zero_iff,List.filter_eq_nil_iff]
 exact⟨fun h o ho=>by simpa using h o ho,fun h o ho=>by simpa using h o ho⟩
theorem dA {d:List Nat} {a:Nat}:m∈freeD ms d a↔m∈ms/\a∈bel ms m/\dc ms d m=0:=by
 unfold freeD dc
 rw[KI,Kk,LD,List.length_eq_zero_iff,MO]
theorem mh {l:List Nat} (h8:∀m∈l,m < 8):m∈aU l↔m∈l:=⟨j6,fun h=>by
 have hm:=h8 m h
 unfold aU
 refine KI.mpr ⟨?_,by simpa using h⟩
 have:∀m:Nat,m < 8->m∈ord:=by decide +kernel
 exact this m hm⟩
theorem hY {l l':List Nat} (h:∀m,m∈l↔m∈l'):aU l=aU l':=by
 unfold aU
 refine Nv fun m _=>?_
 rw[NN,LD,LD]
 exact h m
theorem mS (l:List Nat):(aU l).Nodup:=by
 unfold aU
 exact List.Nodup.sublist Lz (by decide +kernel:ord.Nodup)
theorem LI.step (nd:ms.Nodup) (h8:∀m∈ms,m < 8) {a:Nat} {r d su:List Nat} (I:LI ms (a::r) d np) (hsu:∀m,m∈su↔m∈ms/\bK m a=true) :
  (∀m,m∈fM (bw np a (-2)) [] su↔m∈freeD ms (d++[a]) a)/\
   LI ms (r++aU (freeD ms (d++[a]) a)) (d++[a]) (cC (eZ (bw np a (-2)) su) (fM (bw np a (-2)) [] su)):=by
 have ams:a∈ms:=I.sw a (.head _)
 have ad:a∉d:=I.dis a (.head _)
 have nar:a∉r:=(KW.mp I.nw).1
 have sub:∀m,m∈su->m∈ms/\a∈bel ms m/\m≠a/\m∉d/\m∉a::r:=fun m hm=>by
  obtain⟨h1,h2⟩:=(hsu m).mp hm
  have hb:a∈bel ms m:=iL.mpr ⟨ams,h2⟩
  refine⟨h1,hb,fun q=>?_,fun q=>ad (I.zero m (.inr q) a hb),fun q=>ad (I.zero m (.inl q) a hb)⟩
  rw[q,uT] at h2;exact nB h2
 have notSu:∀m,m∈ms->a∉bel ms m->m∉su:=fun m h1 h2 q=>h2 (sub m q).2.1
 have npS:∀m,m∈su->bw np a (-2) m=dc ms d m/\dc ms (d++[a]) m + 1=dc ms d m:=fun m hm=>by
  obtain⟨h1,h2,h3,h4,h5⟩:=sub m hm
  rw[bg _ _ h3]
  exact⟨(I.npo m h1 h4 h5).1,wb nd h2 ad⟩
 have rl:∀m,m∈fM (bw np a (-2)) [] su↔m∈freeD ms (d++[a]) a:=fun m=>by
  rw[dA]
  unfold fM
  rw[Ng,KI]
  constructor
  .rintro⟨h1,h2⟩
   obtain⟨e1,e2⟩:=npS m h1
   rw[e1] at h2
   have h2:=MB h2
   exact⟨(sub m h1).1,(sub m h1).2.1,by lia⟩
  .rintro⟨h1,h2,h3⟩
   have hm:m∈su:=(hsu m).mpr ⟨h1,(iL.mp h2).2⟩
   obtain⟨e1,e2⟩:=npS m hm
   refine⟨hm,?_⟩
   rw[e1]
   exact beq_iff_eq.mpr (by lia)
 have f8:∀m∈freeD ms (d++[a]) a,m < 8:=fun m hm=>h8 m (dA.mp hm).1
 have ms_:∀m,m∈aU (freeD ms (d++[a]) a)↔m∈freeD ms (d++[a]) a:=fun m=>mh f8
 have frs:∀m,m∈freeD ms (d++[a]) a->m∈su:=fun m hm=>by
  have:=(rl m).mpr hm
  unfold fM at this
  rw[Ng] at this
  exact(KI.mp this).1
 refine⟨rl,⟨?_,fun m hm=>?_,fun m hm=>?_,fun m hm o ho=>?_,fun m h1 hm=>?_,fun m h1 hm=>?_,fun m h1 h2 h3=>?_⟩⟩
 .rw[LQ]
  refine⟨(KW.mp I.nw).2,mS _,fun x hx y hy q=>?_⟩
  subst q
  exact(sub x (frs x ((ms_ x).mp hy))).2.2.2.2 (KO _ hx)
 .intro q
  rcases List.mem_append.mp hm with h | h
  .rcases List.mem_append.mp q with q | q
   .exact I.dis m (KO _ h) q
   .exact nar (Kw.mp q▸h)
  .have:=sub m (frs m ((ms_ m).mp h))
   rcases List.mem_append.mp q with q | q
   .exact this.2.2.2.1 q
   .exact this.2.2.1 (Kw.mp q)
 .rcases List.mem_append.mp hm with h | h
  .exact I.sw m (KO _ h)
  .exact(dA.mp ((ms_ m).mp h)).1
 .rcases hm with hm | hm
  .rcases List.mem_append.mp hm with h | h
   .exact KD _ (I.zero m (.inl (KO _ h)) o ho)
   .exact kK.mp (dA.mp ((ms_ m).mp h)).2.2 o ho
  .rcases List.mem_append.mp hm with h | h
   .exact KD _ (I.zero m (.inr h) o ho)
   .rw[Kw.mp h] at ho
    exact KD _ (I.zero a (.inl (.head _)) o ho)
 .have hs:m∉su:=fun q=>by
   have:=sub m q
   rcases List.mem_append.mp hm with h | h
   .exact this.2.2.2.1 h
   .exact this.2.2.1 (Kw.mp h)
  unfold cC
  rw[if_neg (fun q=>hs (frs m ((rl m).mp q)))]
  unfold eZ
  rw[if_neg hs]
  rcases List.mem_append.mp hm with h | h
  .rw[bg (m:=a) (k:=m) _ _ (fun q=>ad (q▸h))]
   exact I.npd m h1 h
  .rw[Kw.mp h,bX]
 .unfold cC
  rcases List.mem_append.mp hm with h | h
  .have hs:m∉su:=fun q=>(sub m q).2.2.2.2 (KO _ h)
   rw[if_neg (fun q=>hs (frs m ((rl m).mp q)))]
   unfold eZ
   rw[if_neg hs,bg (m:=a) (k:=m) _ _ (fun q=>nar (q▸h))]
   exact I.npw m h1 (KO _ h)
  .rw[if_pos ((rl m).mpr ((ms_ m).mp h))]
 .have d1:m∉d:=fun q=>h2 (KD _ q)
  have ma:m≠a:=fun q=>h2 (Kt _ (Kw.mpr q))
  have mr:m∉a::r:=fun q=>by
   rcases Ka.mp q with q | q
   .exact ma q
   .exact h3 (KD _ q)
  have mf:m∉freeD ms (d++[a]) a:=fun q=>h3 (Kt _ ((ms_ m).mpr q))
  obtain⟨c1,c2⟩:=I.npo m h1 d1 mr
  unfold cC
  rw[if_neg (fun q=>mf ((rl m).mp q))]
  unfold eZ
  by_cases hb:a∈bel ms m
  .have hs:m∈su:=(hsu m).mpr ⟨h1,(iL.mp hb).2⟩
   obtain⟨e1,e2⟩:=npS m hs
   rw[if_pos hs,e1]
   have:dc ms (d++[a]) m≠0:=fun q=>mf (dA.mpr ⟨h1,hb,q⟩)
   lia
  .rw[if_neg (notSu m h1 hb),bg _ _ ma,vH hb]
   exact⟨c1,c2⟩
theorem LI.init (nd:ms.Nodup) (h8:∀m∈ms,m < 8) {rl:List Nat} (hnp:∀m∈ms,np m=((bel ms m).length:Int)) (hrl:∀m,m∈rl↔m∈wait0 ms):LI ms (aU (wait0 ms)) [] (cC np rl):=by
 have w8:∀m∈wait0 ms,m < 8:=fun m hm=>h8 m (KI.mp hm).1
 have hw:∀m,m∈aU (wait0 ms)↔m∈ms/\bel ms m=[]:=fun m=>by
  rw[mh w8]
  unfold wait0
  rw[KI,MO]
 have c0:∀m,dc ms [] m=(bel ms m).length:=fun m=>by
  unfold dc
  congr 1
  exact List.filter_eq_self.mpr fun o _=>by simp
 refine⟨mS _,(fun m _ q=>nomatch q),fun m hm=>((hw m).mp hm).1,fun m hm o ho=>?_,(fun m _ q=>nomatch q),fun m h1 hm=>?_,fun m h1 _ h3=>?_⟩
 .rcases hm with hm | hm
  .rw[((hw m).mp hm).2] at ho;cases ho
  .cases hm
 .unfold cC
  rw[if_pos ((hrl m).mpr (j6 hm))]
 .have hn:m∉rl:=fun q=>h3 ((mh w8).mpr ((hrl m).mp q))
  unfold cC
  rw[if_neg hn,hnp m h1,c0]
  refine⟨rfl,Nat.pos_of_ne_zero fun q=>h3 ((hw m).mpr ⟨h1,List.length_eq_zero_iff.mp q⟩)⟩
theorem aP.reloc {loc:List (Str×V)} {t:Env->Sem α} (h:aP g D sc σ t R ⟨os,loc⟩) (e:∀x,loc.lookup x=loc'.lookup x):aP g D sc σ t R ⟨os,loc'⟩:=fun A env ρ s he hr hs=>
 h.use he hr hs fun x s1 ρ1 r st g1=>⟨ρ1,r,⟨st.hr,⟨st.er.glob,st.er.blt,st.er.kind,(let⟨m,h1,h2⟩:=st.er.loc;⟨m,h1,fun z hz=>e z▸h2 z hz⟩),fun z hz=>(let⟨c,o,h1,h2,h3⟩:=st.er.cell z hz;⟨c,o,h1,h2,e z▸h3⟩),st.er.low,st.er.clow,st.er.capart⟩,st.k⟩,g1⟩
noncomputable def eI:Kz:=ah fB 0
theorem AJ:eI=.Assign [.Tuple (kH (sN 1 eI)) (jw (sN 1 eI)) (eP (sN 1 eI))] (sN 0 eI) (sP eI):=∅
noncomputable def rY:List Str:=["sorter","waiting","told"]
theorem Hd:LY [.Tuple (kH (sN 1 eI)) (jw (sN 1 eI)) (eP (sN 1 eI))] (sN 0 eI) (gS ar.scope)=pure (some rY):=∅
noncomputable def Dt:V:=.top (.ref 174)
noncomputable def oT (os1:List O) (si:Nat):List O:=os1++[O.list []]++[O.list []]++[O.tuple [.ref si,.ref os1.length,.ref (os1++[O.list []]).length]]
theorem wY (w:J9) (ui si:Nat) (os os1:List O) (h:Cl (aa w) 4 Dt [] [] os (.ref si) os1):Ev (aa w) 4 ar.scope ⟨os,[((J8 "words"),.ref ui)]⟩ (sN 0 eI) (.ref (os1++[O.list []]++[O.list []]).length) ⟨oT os1 si,[((J8 "words"),.ref ui)]⟩:=
 dp (hk:={ c:=[(935,29,935,48,fun _ _ _=>(.ref si,os1))] }) (X:=XU w 4 []) (c:=[.p (Cl (aa w) 4 Dt [] [] os (.ref si) os1),.b (KS 0 Kg) true,.b (KS 0 Kg) true,.b (KS 3 Kg) true]) ∅ ⟨h,gz,gz,by show KS 3 Kg=true;kernel_rfl,trivial⟩
theorem yB (ui si ai ti:Nat) (x:Str):(puts [((J8 "words"),V.ref ui)] rY.reverse [.ref ti,.ref ai,.ref si]).lookup x=(lT ui si ai ti []).lookup x:=by
 by_cases h1:x="words"
 .subst h1;kernel_rfl
 by_cases h2:x="sorter"
 .subst h2;kernel_rfl
 by_cases h3:x="waiting"
 .subst h3;kernel_rfl
 by_cases h4:x="told"
 .subst h4;kernel_rfl
 have e1:(x==J8 "words")=false:=beq_eq_false_iff_ne.mpr h1
 have e2:(x==J8 "sorter")=false:=beq_eq_false_iff_ne.mpr h2
 have e3:(x==J8 "waiting")=false:=beq_eq_false_iff_ne.mpr h3
 have e4:(x==J8 "told")=false:=beq_eq_false_iff_ne.mpr h4
 show([((J8 "words"),V.ref ui),((J8 "told"),V.ref ti),((J8 "waiting"),V.ref ai),((J8 "sorter"),V.ref si)]:List (Str×V)).lookup x=_
 simp only[lT,K1,e1,e2,e3,e4]
theorem Ep (w:J9) (ui:Nat) (os:List O):∃os',Ex (aa w) 4 ar.scope ⟨os,[((J8 "words"),.ref ui)]⟩ eI .next ⟨os',lT ui (os.length + 1) (os.length + 3) (os.length + 4) []⟩/\SA os' (iP os.length)/\os'[os.length + 3]?=some (.list [])/\os'[os.length + 4]?=some (.list [])/\
  ∀(i:Nat) (o:O),os[i]?=some o->os'[i]?=some o:=by
 obtain⟨os1,c,A,hl,k⟩:=vB w os
 have ev:=wY w ui (os.length + 1) os os1 (c.up (by decide))
 have hx:∀x∈rY,aK ar.scope x:=fun x hx=>by
  simp only[rY,Ka,Kf,or_false] at hx
  rcases hx with rfl | rfl | rfl
  .exact .inl ∅
  .exact .inl ∅
  .exact .inl ∅
 have ex:=Ex.assignSw (pos:=sP eI) ev (am _ _) rfl hx Hd ∅
 rw[<- AJ] at ex
 have l1:(os1++[O.list []]).length=os.length + 4:=by simp[hl]
 have ex2:=aP.reloc (loc':=lT ui (os.length + 1) os1.length (os1++[O.list []]).length []) ex (fun x=>yB ui (os.length + 1) os1.length (os1++[O.list []]).length x)
 rw[l1,hl] at ex2
 refine⟨_,ex2,((A.app _).app _).app _,?_,?_,fun i o e=>ab (ab (ab (k i o e)))⟩
 .rw[<- hl];exact ab (ab (am _ _))
 .rw[<- l1];exact ab (am _ _)
noncomputable def lF (ui si ai ti fi:Nat) (rest:List (Str×V)):List (Str×V):=("words",.ref ui)::("sorter",.ref si)::("waiting",.ref ai)::("told",.ref ti)::("fresh",.ref fi)::rest
theorem zw (ui si ai ti fi:Nat) (rest:List (Str×V)) (x:Str):(put (lT ui si ai ti rest) "fresh" (.ref fi)).lookup x=(lF ui si ai ti fi rest).lookup x:=by
 rw[cW]
 by_cases h1:x="fresh"
 .subst h1;rw[if_pos rfl];kernel_rfl
 rw[if_neg h1]
 have e1:(x==J8 "fresh")=false:=beq_eq_false_iff_ne.mpr h1
 unfold lT lF
 simp only[K1,e1]
noncomputable def gZ:V:=.top (.ref 136)
noncomputable def qa:V:=.top (.ref 157)
noncomputable def qm:V:=.top (.ref 143)
noncomputable def tS:V:=.top (.builtin "sorted")
noncomputable def je:Kz:=ah fB 3
noncomputable def eJ:Kz:=ah fB 4
theorem zd:je=.Assign [.Name "fresh" (eP (sN 1 je))] (sN 0 je) (sP je):=∅
theorem zx:eJ=.While (sN 0 eJ) (af eJ) [] (sP eJ):=∅
theorem vg (w:J9) (ui si ai ti q f:Nat) (rest:List (Str×V)) (os os1 os2:List O) (h1:an (aa w) (.ref si) "get_ready" os gZ) (h2:Cl (aa w) 4 gZ [.ref si] [] os (.ref q) os1) (h3:Cl (aa w) 4 tS [.ref q] [] os1 (.ref f) os2) :
  Ev (aa w) 4 ar.scope ⟨os,lT ui si ai ti rest⟩ (sN 0 je) (.ref f) ⟨os2,lT ui si ai ti rest⟩:=
 dp (hk:={ m:=[(943,19,943,37,gZ)],c:=[(943,19,943,37,fun _ _ _=>(.ref q,os1)),(943,12,943,38,fun _ _ _=>(.ref f,os2))] }) (X:=X0 w 4 aq)
  (c:=[.p (an (aa w) (.ref si) "get_ready" os gZ),.p (Cl (aa w) 4 gZ [.ref si] [] os (.ref q) os1),.p (Cl (aa w) 4 tS [.ref q] [] os1 (.ref f) os2)]) ∅ ⟨h1,h2,h3,trivial⟩
theorem vO (w:J9) (ui si ai ti q f:Nat) (rest:List (Str×V)) (os os1 os2:List O) (h1:an (aa w) (.ref si) "get_ready" os gZ) (h2:Cl (aa w) 4 gZ [.ref si] [] os (.ref q) os1) (h3:Cl (aa w) 4 tS [.ref q] [] os1 (.ref f) os2) :
  Ex (aa w) 4 ar.scope ⟨os,lT ui si ai ti rest⟩ je .next ⟨os2,lF ui si ai ti f rest⟩:=by
 have e:=Ex.assign (px:=eP (sN 1 je)) (pos:=sP je) (x:="fresh") (vg w ui si ai ti q f rest os os1 os2 h1 h2 h3) (.inl ∅) ∅
 rw[<- zd] at e
 exact aP.reloc e (zw ui si ai ti f rest)
theorem Cv (w:J9) (ui si ai ti fi:Nat) (rest:List (Str×V)) (b:Bool) (os:List O) (h1:an (aa w) (.ref si) "is_active" os qm) (h2:Cl (aa w) 4 qm [.ref si] [] os (.bool b) os):Tr (aa w) 4 ar.scope ⟨os,lF ui si ai ti fi rest⟩ (sN 0 eJ) b ⟨os,lF ui si ai ti fi rest⟩:=by
 have ev:Ev (aa w) 4 ar.scope ⟨os,lF ui si ai ti fi rest⟩ (sN 0 eJ) (.bool b) ⟨os,lF ui si ai ti fi rest⟩:=dp (hk:={ m:=[(944,10,944,28,qm)],c:=[(944,10,944,28,fun _ _ os=>(.bool b,os))] }) (X:=X0 w 4 aq)
  (c:=[.p (an (aa w) (.ref si) "is_active" os qm),.p (Cl (aa w) 4 qm [.ref si] [] os (.bool b) os)]) ∅ ⟨h1,h2,trivial⟩
 exact Tr.val ev bV.bool ∅
noncomputable def kF:Expr:=sN 0 (ah (af eJ) 0)
theorem z6:kF=.BinOp (eN 0 kF) .Add (eN 1 kF) (eP kF):=∅
theorem yz (w:J9) (ui si ai ti fi:Nat) (rest:List (Str×V)) (os os1:List O) (r:Nat) (h:bn (aa w) 4 .Add (.ref ai) (.ref fi) os (.ref r) os1):Ev (aa w) 4 ar.scope ⟨os,lF ui si ai ti fi rest⟩ kF (.ref r) ⟨os1,lF ui si ai ti fi rest⟩:=by
 rw[z6]
 exact Ev.bin (aC (X:=X0 w 4 aq) (v:=.ref ai) (s:=⟨os,lF ui si ai ti fi rest⟩) ∅) (aC (X:=X0 w 4 aq) (v:=.ref fi) (s:=⟨os,lF ui si ai ti fi rest⟩) ∅) h
theorem vW (w:J9) (ui si ai ti fi wi q f wj:Nat) (a:Str) (rest:List (Str×V)) (os os1 os2 os3 os4 os6 os7:List O) (h1:Ev (aa w) 4 ar.scope ⟨os,lF ui si ai ti fi rest⟩ kF (.ref wi) ⟨os1,lF ui si ai ti fi rest⟩)
  (h2:au (aa w) 4 (.ref wi) (.int 0) os1 (.str a) os1) (h3:an (aa w) (.ref si) "done" os1 qa) (h4:Cl (aa w) 4 qa [.ref si,.str a] [] os1 .none os2) (h5:an (aa w) (.ref si) "get_ready" os2 gZ) (h6:Cl (aa w) 4 gZ [.ref si] [] os2 (.ref q) os3)
  (h7:Cl (aa w) 4 tS [.ref q] [] os3 (.ref f) os4) (h8:au (aa w) 4 (.ref wi) (.int 0) os4 (.str a) os4) (h9:an (aa w) (.ref ti) "append" os4 bL) (h10:Cl (aa w) 4 bL [.ref ti,.ref os4.length] [] (os4++[O.list [.str a,.ref f]]) .none os6) (h11:db (aa w) 4 (.ref wi) (.int 1) .none os6 (.ref wj) os7) :
  Exs (aa w) 4 ar.scope ⟨os,lF ui si ai ti fi rest⟩ (af eJ) .next ⟨os7,lF ui si wj ti f rest⟩:=
 bq (hk:={ e:=[(945,18,945,33,fun σ=>(.ref wi,⟨os1,σ.loc⟩))],u:=[(946,20,946,30,fun _ _ _=>.str a),(948,21,948,31,fun _ _ _=>.str a)],m:=[(946,8,946,31,qa),(947,23,947,41,gZ),(948,8,948,40,bL)],c:=[(946,8,946,31,fun _ _ _=>(.none,os2)),(947,23,947,41,fun _ _ _=>(.ref q,os3)),(947,16,947,42,fun _ _ _=>(.ref f,os4)),(948,8,948,40,fun _ _ _=>(.none,os6))],l:=[(949,18,949,29,fun _ _ _ _=>(.ref wj,os7))] }) (X:=X0 w 4 aq)
  (c:=[.p (Ev (aa w) 4 ar.scope ⟨os,lF ui si ai ti fi rest⟩ kF (.ref wi) ⟨os1,lF ui si ai ti fi rest⟩),.p (au (aa w) 4 (.ref wi) (.int 0) os1 (.str a) os1),.p (an (aa w) (.ref si) "done" os1 qa),.p (Cl (aa w) 4 qa [.ref si,.str a] [] os1 .none os2),.p (an (aa w) (.ref si) "get_ready" os2 gZ),.p (Cl (aa w) 4 gZ [.ref si] [] os2 (.ref q) os3),
   .p (Cl (aa w) 4 tS [.ref q] [] os3 (.ref f) os4),.p (au (aa w) 4 (.ref wi) (.int 0) os4 (.str a) os4),.b (KS 2 Kg) true,.p (an (aa w) (.ref ti) "append" os4 bL),.p (Cl (aa w) 4 bL [.ref ti,.ref os4.length] [] (os4++[O.list [.str a,.ref f]]) .none os6),.p (db (aa w) 4 (.ref wi) (.int 1) .none os6 (.ref wj) os7)]) ∅
  ⟨h1,h2,h3,h4,h5,h6,h7,h8,by show KS 2 Kg=true;kernel_rfl,h9,h10,h11,trivial⟩
theorem vb (w:J9) (ui si ai ti fi:Nat) (rest:List (Str×V)) (os:List O):Exs (aa w) 4 ar.scope ⟨os,lF ui si ai ti fi rest⟩ (fB.drop 5) (.ret (.ref ti)) ⟨os,lF ui si ai ti fi rest⟩:=
 jp (X:=X0 w 4 aq) ∅
theorem vR:fB=eI::dj::ah fB 2::je::eJ::fB.drop 5:=∅
theorem xQ:mt 174 "get_ready"=some 136:=∅
theorem E5:mt 174 "is_active"=some 143:=∅
theorem E9:mt 174 "done"=some 157:=∅
noncomputable def jJ:Kz:=ah fB 2
theorem zB:jJ=.Expr (.Call (.Attribute (eN 0 (eN 0 (sN 0 jJ))) "prepare" (eP (eN 0 (sN 0 jJ)))) [] [] (eP (sN 0 jJ))) (sP jJ):=∅
noncomputable def xE (t:ci) (r ti:Nat) (os:List O) (v:V) (p:Nat×List Nat):Prop:=
 ∃i j,v=.ref i/\os[i]?=some (.list [.str (wdN p.1),.ref j])/\os[j]?=some (.list (mkW p.2))/\(i≠r/\j≠r/\i≠ti/\j≠ti)/\¬ Ow t i/\¬ Ow t j
structure TI (osI:List O) (ms:List Nat) (si r ti:Nat) (x:ip) (os:List O) (t:ci) (wi fi:Nat):Prop where
 A:SA os t
 si:t.si=si
 rd:t.rd=.ref r
 rl:os[r]?=some (.list [])
 fr:¬ Ow t r
 ft:¬ Ow t ti
 tr:ti≠r
 ns:∀m,m∈t.ns↔m∈ms
 su:∀a∈ms,(∀m,m∈t.su a↔m∈ms/\bK m a=true)/\(t.su a).Nodup
 wv:∃wv f,os[wi]?=some (.list (mkW wv))/\os[fi]?=some (.list (mkW f))/\x.w=wv++f
 told:∃rs,os[ti]?=some (.list rs)/\ae (xE t r ti os) rs x.t
 li:LI ms x.w x.d t.np
 cnt:t.po - t.nf=x.w.length
 old:∀(i:Nat) (o:O),osI[i]?=some o->os[i]?=some o/\¬ Ow t i/\i≠r/\i≠ti
theorem gA {l:List Nat} (nd:l.Nodup) (h8:∀m∈l,m < 8):l.length <=8:=by
 have:=nd.length_le_of_subset (l₂:=K0 8) fun x hx=>List.mem_range.mpr (h8 x hx)
 simpa using this
theorem ud (w:J9) (h8:∀m∈ms,m < 8) (nd:ms.Nodup) {r:Nat} {a:Nat} {rr d:List Nat} {tt:List (Nat×List Nat)} {fi:Nat} (rest:List (Str×V)) (I:TI osI ms si r ti ⟨a::rr,d,tt⟩ os t wi fi) (hz:tt.length <=100) :
  ∃os' t' wi' fi',Exs (aa w) 4 ar.scope ⟨os,lF ui si wi ti fi rest⟩ (af eJ) .next ⟨os',lF ui si wi' ti fi' rest⟩/\TI osI ms si r ti (nv ms ⟨a::rr,d,tt⟩ a rr) os' t' wi' fi':=by
 obtain⟨wv,f,hw,hf,hx⟩:=I.wv
 obtain⟨rs,ht,hrs⟩:=I.told
 have hx:a::rr=wv++f:=hx
 have L:LI ms (a::rr) d t.np:=I.li
 have ams:a∈ms:=L.sw a (.head _)
 have ans:a∈t.ns:=(I.ns a).mpr ams
 obtain⟨hsu,ndsu⟩:=I.su a ams
 have su8:(t.su a).length <=8:=gA ndsu fun m hm=>h8 m ((hsu m).mp hm).1
 have w8:(a::rr).length <=8:=gA L.nw fun m hm=>h8 m (L.sw m hm)
 have lw:wv.length + f.length <=8:=by rw[<- KC,<- hx];exact w8
 have rsl:rs.length <=100:=by have:=hrs.length;dsimp only at this;lia
 -- waiting + fresh
 have e1:bn (aa w) 4 .Add (.ref wi) (.ref fi) os (.ref os.length) (os++[.list (mkW (a::rr))]):=by
  have:=bn.addL (g:=aa w) (D:=4) hw hf (by rw[aG,aG];unfold Kg;lia)
  rw[show mkW wv++mkW f=mkW (a::rr) by rw[hx];simp[mkW]] at this
  exact this
 have r1:=yz w ui si wi ti fi rest os _ _ e1
 have A1:=I.A.app [.list (mkW (a::rr))]
 have fw:¬ Ow t os.length:=fun q=>KM _ (I.A.lt q)
 have rlt:r < os.length:=(List.getElem?_eq_some_iff.mp I.rl).1
 have tlt:ti < os.length:=(List.getElem?_eq_some_iff.mp ht).1
 have w1:(os++[O.list (mkW (a::rr))])[os.length]?=some (.list (mkW (a::rr))):=am _ _
 -- done
 obtain⟨os2,t2,c2,A2,k2,rl2,fr2,hO'⟩:=zt w A1 (a:=a) (l0:=[]) I.rd (ab I.rl) I.fr ans (L.npw a ams (.head _)) (fun m hm=>(I.ns m).mpr ((hsu m).mp hm).1) ndsu (by rw[Mp];lia)
 obtain⟨s2,d2,n2,u2,p2,po2,nf2⟩:=hO'
 obtain⟨hrl,L'⟩:=L.step nd h8 hsu
 have rlsub:∀m∈fM (bw t.np a (-2)) [] (t.su a),m∈ms:=fun m hm=>(dA.mp ((hrl m).mp hm)).1
 have rlnd:(fM (bw t.np a (-2)) [] (t.su a)).Nodup:=by
  unfold fM
  rw[Ng]
  exact ndsu.sublist Lz
 generalize hRL:fM (bw t.np a (-2)) [] (t.su a)=RL at rl2 hrl L' rlsub rlnd
 have rl8:RL.length <=8:=gA rlnd fun m hm=>h8 m (rlsub m hm)
 -- get_ready
 obtain⟨os3,t3,c3,A3,k3,q3,fq3,hO'⟩:=oj w A2 (l:=RL) (d2.trans I.rd) rl2 fr2 (fun m hm=>by rw[n2];exact(I.ns m).mpr (rlsub m hm)) (by lia)
 obtain⟨rl3,fr3,s3,d3,n3,u3,p3,po3,nf3⟩:=hO'
 -- sorted
 have c4:=Cl.sortedTW (g:=aa w) (D:=4) q3 rlnd (fun m hm=>h8 m (rlsub m hm)) (by lia)
 have hsrt:aU RL=aU (freeD ms (d++[a]) a):=hY hrl
 rw[hsrt] at c4
 generalize hF:aU (freeD ms (d++[a]) a)=FF at c4 L'
 have lenF:FF.length=RL.length:=by rw[<- hF,<- hsrt];exact(iW rlnd fun m hm=>h8 m (rlsub m hm)).length_eq
 have kk:∀{i:Nat} {o:O},(os++[O.list (mkW (a::rr))])[i]?=some o->¬ Ow t i->i≠r->os3[i]?=some o/\¬ Ow t3 i:=fun e q1 q2=>by
  obtain⟨z1,z2⟩:=k2 _ _ e q1 q2
  exact k3 _ _ z1 z2 q2
 have rn:r≠os.length:=M1 rlt
 obtain⟨w3,fw3⟩:=kk w1 fw (MK rn)
 obtain⟨t3t,ft3⟩:=kk (ab ht) I.ft I.tr
 have w4:(os3++[O.list (mkW FF)])[os.length]?=some (.list (mkW (a::rr))):=ab w3
 have lt3:os.length < os3.length:=(List.getElem?_eq_some_iff.mp w3).1
 have l4:(os3++[O.list (mkW FF)]).length=os3.length + 1:=by simp
 have a4:(os3++[O.list (mkW FF)])[ti]?=some (.list rs):=ab t3t
 have a5:(os3++[O.list (mkW FF)]++[O.list [.str (wdN a),.ref os3.length]])[ti]?=some (.list rs):=ab a4
 have c6:=Cl.append (g:=aa w) (D:=4) (v:=.ref (os3++[O.list (mkW FF)]).length) a5 (by unfold Kg;lia)
 generalize h6:(os3++[O.list (mkW FF)]++[O.list [.str (wdN a),.ref os3.length]]).set ti (.list (rs++[.ref (os3++[O.list (mkW FF)]).length]))=os6 at c6
 have l6:os6.length=os3.length + 2:=by rw[<- h6];simp
 have g6:∀{i:Nat} {o:O},i≠ti->(os3++[O.list (mkW FF)]++[O.list [.str (wdN a),.ref os3.length]])[i]?=some o->os6[i]?=some o:=fun q e=>by rw[<- h6,ay q];exact e
 have w6:os6[os.length]?=some (.list (.str (wdN a)::mkW rr)):=g6 (by lia) (ab w4)
 have c7:=m5 (g:=aa w) (D:=4) w6 (by rw[aG];have:(a::rr).length=rr.length + 1:=rfl;lia)
 have m1:an (aa w) (.ref si) "done" (os++[.list (mkW (a::rr))]) qa:=by rw[<- I.si];exact A1.mth E9 (by rw[I.rd];rfl)
 have m2:an (aa w) (.ref si) "get_ready" os2 gZ:=by rw[<- I.si,<- s2];exact A2.mth xQ (by rw[d2,I.rd];rfl)
 rw[I.si] at c2
 rw[s2,I.si] at c3
 have run:=vW w ui si wi ti fi os.length os2.length os3.length os6.length (wdN a) rest os _ os2 os3 _ os6 _ r1 (aJ (k:=0) w1 (by decide) rfl) m1 c2 m2 c3 c4 (aJ (k:=0) w4 (by decide) rfl) (an.listM a4 Md Mc) c6 c7
 refine⟨_,t3,_,_,run,?_⟩
 have A6:SA os6 t3:=h6▸((A3.app _).app _).setF ft3 _
 have tl3:ti < os3.length:=(List.getElem?_eq_some_iff.mp t3t).1
 have g7:∀{i:Nat} {o:O},i≠ti->os3[i]?=some o->(os6++[O.list (mkW rr)])[i]?=some o:=fun q e=>ab (g6 q (ab (ab e)))
 have f3':¬ Ow t3 os3.length:=fun q=>KM _ (A3.lt q)
 have f4':¬ Ow t3 (os3.length + 1):=fun q=>by have:=A3.lt q;lia
 have np3:t3.np=cC (eZ (bw t.np a (-2)) (t.su a)) RL:=by rw[p3,p2]
 have fi7:(os6++[O.list (mkW rr)])[os3.length]?=some (.list (mkW FF)):=ab (g6 (by lia) (ab (am _ _)))
 refine⟨A6.app _,s3.trans (s2.trans I.si),d3.trans (d2.trans I.rd),g7 (MK I.tr) rl3,fr3,ft3,I.tr,fun m=>by rw[n3,n2];exact I.ns m,fun b hb=>by rw[u3,u2];exact I.su b hb,
  ⟨rr,FF,am _ _,fi7,by show rr++aU (freeD ms (d++[a]) a)=rr++FF;rw[hF]⟩,⟨rs++[.ref (os3++[O.list (mkW FF)]).length],?_,?_⟩,?_,?_,fun i o e=>?_⟩
 .refine ab ?_
  rw[<- h6]
  exact aT (by simp;lia)
 .show ae _ _ (tt++[(a,aU (freeD ms (d++[a]) a))])
  rw[hF]
  have e9:os6[os3.length + 1]?=some (.list [.str (wdN a),.ref os3.length]):=g6 (by lia) (by rw[<- l4];exact am _ _)
  have hp:xE t3 r ti (os6++[O.list (mkW rr)]) (.ref (os3++[O.list (mkW FF)]).length) (a,FF):=⟨os3.length + 1,os3.length,by rw[l4],ab e9,fi7,⟨by lia,by lia,by lia,by lia⟩,f4',f3'⟩
  refine ae.append (.cons hp .nil) (hrs.mono fun v p h=>?_)
  obtain⟨i,j,hv,h1,h2,⟨q1,q2,q3,q4⟩,f1,f2⟩:=h
  obtain⟨z1,z2⟩:=kk (ab h1) f1 q1
  obtain⟨y1,y2⟩:=kk (ab h2) f2 q2
  exact⟨i,j,hv,g7 q3 z1,g7 q4 y1,⟨q1,q2,q3,q4⟩,z2,y2⟩
 .show LI ms (rr++aU (freeD ms (d++[a]) a)) (d++[a]) t3.np
  rw[hF,np3]
  exact L'
 .show t3.po - t3.nf=((rr++aU (freeD ms (d++[a]) a)).length:Int)
  rw[hF,KC,lenF,po3,nf3,po2,nf2]
  have c:=I.cnt
  dsimp only [Li] at c
  lia
 .obtain⟨z1,z2,z3,z4⟩:=I.old i o e
  obtain⟨y1,y2⟩:=kk (ab z1) z2 z3
  exact⟨g7 z4 y1,y2,z3,z4⟩
theorem vZ (w:J9) (h8:∀m∈ms,m < 8) (nd:ms.Nodup) {r:Nat} (rest:List (Str×V)):∀(n:Nat) (wx d:List Nat) (tt:List (Nat×List Nat)) (y:ip) (os:List O) (t:ci) (wi fi:Nat),TI osI ms si r ti ⟨wx,d,tt⟩ os t wi fi->tt.length + n <=100->jG ms n ⟨wx,d,tt⟩=some y->
  ∃os' t' wi' fi',dN (aa w) 4 ar.scope (sN 0 eJ) (af eJ) [] .next ⟨os',lF ui si wi' ti fi' rest⟩ ⟨os,lF ui si wi ti fi rest⟩/\TI osI ms si r ti y os' t' wi' fi':=by
 have act:∀(x:ip) (os:List O) (t:ci) (wi fi:Nat),TI osI ms si r ti x os t wi fi->Tr (aa w) 4 ar.scope ⟨os,lF ui si wi ti fi rest⟩ (sN 0 eJ) (!x.w.isEmpty) ⟨os,lF ui si wi ti fi rest⟩:=fun x os t wi fi I=>by
  have c:=tL w I.A I.rd I.rl
  have e:decide (t.nf < t.po)=!x.w.isEmpty:=by
   have:=I.cnt
   cases hx:x.w with
   | nil=>rw[hx] at this;simp only[Mp] at this;simp;lia
   | cons a r=>rw[hx] at this;simp only[Li] at this;simp;lia
  rw[e,I.si] at c
  have m:an (aa w) (.ref si) "is_active" os qm:=by rw[<- I.si];exact I.A.mth E5 (by rw[I.rd];rfl)
  exact Cv w ui si wi ti fi rest _ os m c
 intro n
 induction n with
 | zero=>
  intro wx d tt y os t wi fi I b hy
  have ht:=act _ os t wi fi I
  cases wx with
  | cons a r=>exact nS hy
  | nil=>cases hy;exact⟨os,t,wi,fi,.stop ht Exs.nil,I⟩
 | succ n ih=>
  intro wx d tt y os t wi fi I b hy
  have ht:=act _ os t wi fi I
  cases wx with
  | nil=>cases hy;exact⟨os,t,wi,fi,.stop ht Exs.nil,I⟩
  | cons a rr=>
   obtain⟨os1,t1,w1,f1,e,I1⟩:=ud w h8 nd (ui:=ui) rest I (by lia)
   obtain⟨os',t',w',f',run,I'⟩:=ih _ (d++[a]) (tt++[(a,aU (freeD ms (d++[a]) a))]) y os1 t1 w1 f1 I1 (by rw[KC,Mm];lia) hy
   exact⟨os',t',w',f',.turn ht e (.inl rfl) run,I'⟩
theorem Hz:∀x,K2 ar ⟨[x],[]⟩=pure [(J8 "words",x)]:=fun x=>∅
theorem Ay {o:Nat} (h:bK m o=true):szN o < szN m:=by
 unfold bK at h
 rw[Kk,decide_eq_true_eq] at h
 exact h.2
theorem zF (w:J9) (ms:List Nat) (h8:∀m∈ms,m < 8) (nd:ms.Nodup) (ui:Nat) (os:List O) (hu:os[ui]?=some (.list (mkW ms))) (y:ip) (hy:kD ms=some y) :
  ∃os' r,cY (aa w) 5 (.top (.ref 924)) [.ref ui] [] os (.ref r) os'/\sn os' r y.t/\∀(i:Nat) (o:O),os[i]?=some o->os'[i]?=some o:=by
 have ms8:ms.length <=8:=gA nd h8
 obtain⟨os1,e0,A0,ha,ht,k0⟩:=Ep w ui os
 have ul:ui < os.length:=(List.getElem?_eq_some_iff.mp hu).1
 have nOw:∀{i:Nat},i≠os.length->i≠os.length + 1->i≠os.length + 2->¬ Ow (iP os.length) i:=fun h1 h2 h3 q=>by
  rcases q with q | q | q | ⟨m,hm,_⟩
  .exact h2 q
  .exact h1 q
  .exact h3 q
  .cases hm
 obtain⟨σe,I,eG⟩:=vP w h8 nd (by lia) ui (os.length + 3) (os.length + 4) os1 (iP os.length) A0 rfl rfl (nOw (by lia) (by lia) (by lia)) (k0 _ _ hu) ⟨_,ha⟩ (nOw (by lia) (by lia) (by lia)) ⟨_,ht⟩ (nOw (by lia) (by lia) (by lia))
 obtain⟨os2,loc⟩:=σe
 obtain⟨t,rest,hloc,hrest,A,kp,sm,hO'⟩:=I
 obtain⟨hnp,hsu,hns1,hns2⟩:=hO'
 dsimp only at hloc A kp
 subst hloc
 obtain⟨sm1,sm2,sm3,sm4,sm5,sm6⟩:=sm
 have nsI:∀m,m∈t.ns↔m∈ms:=fun m=>⟨hns1 m,fun q=>hns2 m (List.mem_reverse.mpr q)⟩
 have suI:∀a∈ms,(∀m,m∈t.su a↔m∈ms/\bK m a=true)/\(t.su a).Nodup:=fun a ha=>by
  rw[hsu]
  unfold mH
  rw[if_pos ha]
  refine⟨fun m=>by rw[KI,List.mem_reverse],(mO nd).sublist Lz⟩
 have G:GH t:=⟨fun m hm=>h8 m ((nsI m).mp hm),A.nd,fun m hm k hk=>(let⟨q1,q2⟩:=((suI m ((nsI m).mp hm)).1 k).mp hk;⟨(nsI k).mpr q1,Ay q2⟩),fun m hm=>gA (suI m ((nsI m).mp hm)).2 fun k hk=>h8 k (((suI m ((nsI m).mp hm)).1 k).mp hk).1,gA A.nd fun m hm=>h8 m ((nsI m).mp hm)⟩
 have rd0:t.rd=.none:=sm4
 obtain⟨os3,cP,A3,k3,hr,fr⟩:=Aq w A G rd0
 have eP:cy (aa w) 4 ar.scope ⟨os2,lT ui t.si (os.length + 3) (os.length + 4) rest⟩ jJ .next ⟨os3,lT ui t.si (os.length + 3) (os.length + 4) rest⟩:=by
  rw[zB]
  exact cy.expr (dQ.meth (g:=aa w) (pos:=eP (sN 0 jJ)) (aC (X:=X0 w 4 aq) (v:=.ref t.si) (s:=⟨os2,lT ui t.si (os.length + 3) (os.length + 4) rest⟩) ∅) (A.mth EX (by rw[rd0];rfl)) bU.nil (dC.nil (pos:=eP (sN 0 jJ))) ((xo w).kp os2) cP ∅ rfl rfl rfl ∅) rfl
 -- get_ready,sorted
 have zsub:∀m∈dd t.np t.ns,m∈ms:=fun m hm=>(nsI m).mp (KI.mp hm).1
 have znd:(dd t.np t.ns).Nodup:=A.nd.sublist Lz
 have npI:∀m∈ms,t.np m=((bel ms m).length:Int):=fun m hm=>by
  rw[hnp]
  unfold mU
  rw[if_pos (List.mem_reverse.mpr hm)]
 have zmem:∀m,m∈dd t.np t.ns↔m∈wait0 ms:=fun m=>by
  unfold dd wait0
  rw[KI,KI,nsI m,decide_eq_true_eq,MO]
  constructor
  .rintro⟨q1,q2⟩
   rw[npI m q1] at q2
   exact⟨q1,List.length_eq_zero_iff.mp (by lia)⟩
  .rintro⟨q1,q2⟩
   rw[npI m q1,q2]
   exact⟨q1,rfl⟩
 have z8:(dd t.np t.ns).length <=8:=gA znd fun m hm=>h8 m (zsub m hm)
 generalize hZ:dd t.np t.ns=Z at hr zsub znd zmem z8
 obtain⟨os4,t4,c4,A4,k4,q4,fq4,hO'⟩:=oj w A3 (l:=Z) rfl hr fr (fun m hm=>(nsI m).mpr (zsub m hm)) (by lia)
 obtain⟨r4,fr4,s4,d4,n4,u4,p4,po4,nf4⟩:=hO'
 have c5:=Cl.sortedTW (g:=aa w) (D:=4) q4 znd (fun m hm=>h8 m (zsub m hm)) (by lia)
 have mG:an (aa w) (.ref t.si) "get_ready" os3 gZ:=A3.mth (w:=w) xQ rfl
 have eF:=vO w ui t.si (os.length + 3) (os.length + 4) os3.length os4.length rest os3 os4 _ mG c4 c5
 have hs:aU Z=aU (wait0 ms):=hY zmem
 have lenS:(aU Z).length=Z.length:=(iW znd fun m hm=>h8 m (zsub m hm)).length_eq
 have all3:∀{i:Nat} {o:O},os1[i]?=some o->¬ Ow (iP os.length) i->i≠os2.length + 1->os4[i]?=some o/\¬ Ow t4 i:=fun e f q=>by
  obtain⟨z1,z2⟩:=kp _ _ e f
  obtain⟨y1,y2⟩:=k3 _ _ z1 z2
  exact k4 _ _ y1 y2 q
 have l2:∀{i:Nat} {o:O},os1[i]?=some o->¬ Ow (iP os.length) i->i≠os2.length + 1:=fun e f=>by
  have:=(List.getElem?_eq_some_iff.mp (kp _ _ e f).1).1
  lia
 have nA:¬ Ow (iP os.length) (os.length + 3):=nOw (by lia) (by lia) (by lia)
 have nT:¬ Ow (iP os.length) (os.length + 4):=nOw (by lia) (by lia) (by lia)
 obtain⟨a4,fa4⟩:=all3 ha nA (l2 ha nA)
 obtain⟨t4',ft4⟩:=all3 ht nT (l2 ht nT)
 have I:TI os ms t.si (os2.length + 1) (os.length + 4) ⟨aU (wait0 ms),[],[]⟩ (os4++[.list (mkW (aU Z))]) t4 (os.length + 3) os4.length:=by
  refine⟨A4.app _,s4,d4,ab r4,fr4,ft4,l2 ht nT,fun m=>by rw[n4];exact nsI m,fun a ha=>by rw[u4];exact suI a ha,⟨[],aU Z,ab a4,am _ _,by rw[hs];rfl⟩,⟨[],ab t4',.nil⟩,?_,?_,fun i o e=>?_⟩
  .show LI ms (aU (wait0 ms)) [] t4.np
   rw[p4]
   exact LI.init nd h8 npI zmem
  .show t4.po - t4.nf=((aU (wait0 ms)).length:Int)
   rw[<- hs,lenS,po4,nf4]
   show t.po + (Z.length:Int) - t.nf=Z.length
   rw[sm5,sm6]
   show(0:Int) + Z.length - 0=Z.length
   lia
  .have il:=(List.getElem?_eq_some_iff.mp e).1
   have ni:¬ Ow (iP os.length) i:=nOw (by lia) (by lia) (by lia)
   have e1:=k0 i o e
   obtain⟨z1,z2⟩:=all3 e1 ni (l2 e1 ni)
   exact⟨ab z1,z2,l2 e1 ni,by lia⟩
 obtain⟨os',t',wi',fi',run,I'⟩:=vZ w h8 nd (ui:=ui) rest 9 _ _ _ y _ t4 _ _ I (by simp) hy
 have eW:=Ex.whRun (pos:=sP eJ) run
 rw[<- zx] at eW
 rw[show t.si=os.length + 1 from sm1] at eP eF eW
 have body:aQ (aa w) 4 ar.scope ⟨os,[((J8 "words"),.ref ui)]⟩ fB (.ret (.ref (os.length + 4))) ⟨os',lF ui (os.length + 1) wi' (os.length + 4) fi' rest⟩:=by
  rw[vR]
  refine aQ.cons (bm.ofS e0) (aQ.cons (bm.ofS eG) ?_)
  rw[show t.si=os.length + 1 from sm1]
  exact aQ.cons eP (aQ.cons (bm.ofS eF) (aQ.cons (bm.ofS eW) (bm.ofS (vb w ui (os.length + 1) wi' (os.length + 4) fi' rest os'))))
 refine⟨os',os.length + 4,jD.cl (jD.def_ (xp w) (bf.of1 Hz (a:=.ref ui) (os:=os)) (fun x hx=>?_) (KW.mpr ⟨Kf,KY⟩) body rfl ⟨nofun,nofun⟩),?_,fun i o e=>(I'.old i o e).1⟩
 .simp only[Ka,Kf,or_false] at hx
  rcases hx with rfl
  exact .inl ∅
 .obtain⟨rs,h1,h2⟩:=I'.told
  refine⟨rs,h1,h2.mono fun v p h=>?_⟩
  obtain⟨i,j,hv,q1,q2,_⟩:=h
  exact⟨i,j,hv,q1,q2⟩
theorem fF (h:∀m,m∈ms↔m∈ms') (m o:Nat):o∈bel ms m↔o∈bel ms' m:=by rw[iL,iL,h o]
theorem qU (h:∀m,m∈ms↔m∈ms') (d:List Nat) (a m:Nat):m∈freeD ms d a↔m∈freeD ms' d a:=by
 rw[dA,dA,h m,fF h,kK,kK]
 refine and_congr_right fun _=>and_congr_right fun _=>?_
 exact⟨fun q o ho=>q o ((fF h m o).mpr ho),fun q o ho=>q o ((fF h m o).mp ho)⟩
theorem s9 (h:∀m,m∈ms↔m∈ms'):∀(n:Nat) (x:ip),jG ms n x=jG ms' n x:=fun n=>by
 induction n with
 | zero=>
  rintro⟨w,d,t⟩
  cases w <;> rfl
 | succ n ih=>
  rintro⟨w,d,t⟩
  cases w with
  | nil=>rfl
  | cons a r=>
   show jG ms n _=jG ms' n _
   rw[ih]
   congr 1
   unfold nv
   rw[hY (qU h (d++[a]) a)]
theorem uO (h:∀m,m∈ms↔m∈ms'):kD ms=kD ms':=by
 unfold kD
 rw[s9 h,hY (l:=wait0 ms) (l':=wait0 ms') fun m=>?_]
 unfold wait0
 rw[KI,KI,h m,MO,MO]
 refine and_congr_right fun _=>⟨fun q=>?_,fun q=>?_⟩
 .exact List.eq_nil_iff_forall_not_mem.mpr fun o ho=>by
   have:=(fF h m o).mpr ho
   rw[q] at this;cases this
 .exact List.eq_nil_iff_forall_not_mem.mpr fun o ho=>by
   have:=(fF h m o).mp ho
   rw[q] at this;cases this
noncomputable def nz (b c:Bool):List Nat:=[0,1]++(if b then[2] else[])++[3,4]++(if c then[5] else[])++[6,7]
theorem rX:∀b c:Bool,(kD (nz b c)).isSome=true:=by decide +kernel
theorem pp:∀b c,∀x∈nz b c,x < 8:=by decide
theorem pf:∀b c,∀x < 8,(x∈nz b c↔(x=2->b=true)/\(x=5->c=true)):=by decide
theorem yv:∀m < 8,m≠2->m≠5->m∈[0,1,3,7,4,6]:=by decide
theorem vm (h8:∀m∈ms,m < 8) (hk:∀k∈[0,1,3,7,4,6],k∈ms):∃y,kD ms=some y:=by
 rw[uO (ms':=nz (ms.contains 2) (ms.contains 5)) fun m=>⟨fun hm=>(pf _ _ m (h8 m hm)).mpr ⟨fun e=>LD.mpr (e▸hm),fun e=>LD.mpr (e▸hm)⟩,fun hm=>by
  have q:=(pf _ _ m (pp _ _ m hm)).mp hm
  by_cases e2:m=2
  .exact e2▸LD.mp (q.1 e2)
  by_cases e5:m=5
  .exact e5▸LD.mp (q.2 e5)
  exact hk m (yv m (pp _ _ m hm) e2 e5)⟩]
 exact Option.isSome_iff_exists.mp (rX _ _)
noncomputable def nD:List Kz:=(bt 36).2.1
noncomputable def pC:Expr:=sN 0 (ah nD 0)
noncomputable def g9:Expr:=eN 1 pC
noncomputable def kn:Scope:=cSc j7.scope g9
theorem wz:nD=[.Return (some pC) (sP (ah nD 0))]:=∅
theorem BJ:pC=.Call (.Attribute (.Constant (.str (J8 " ")) (jw (eN 0 (eN 0 pC))) (eP (eN 0 (eN 0 pC)))) "join" (eP (eN 0 pC))) [g9] [] (eP pC):=∅
theorem AV:g9=.GeneratorExp (eN 0 g9) [⟨.Name "arg" (eP (ag g9).target),(ag g9).iter,[],0⟩] kn (eP g9):=∅
theorem AB:eN 0 g9=.Call (.Name "quote" (eP (eN 0 (eN 0 g9)))) [.Name "arg" (eP (eN 1 (eN 0 g9)))] [] (eP (eN 0 g9)):=∅
theorem Bu:(ag g9).iter=.Name "split_command" (eP (ag g9).iter):=∅
theorem GB:∀x,K2 j7 ⟨[x],[]⟩=pure [(J8 "split_command",x)]:=fun x=>∅
noncomputable def nsIn? (K:Frag) (a:Kj):Option (Array Me):=(K.lookup a).bind fun o=>match o.data with
 | .dict es _=>some es
 | _=>none
theorem nsIn?_some {K:Frag} {es:Array Me} (h:nsIn? K a=some es):∃o ep,K.lookup a=some o/\o.data=.dict es ep:=by
 obtain⟨⟨c,d,dt,sl⟩,e,h⟩:=Option.bind_eq_some_iff.mp h
 cases dt with
 | dict ws n=>cases h;exact⟨_,n,e,rfl⟩
 | _=>exact nS h
noncomputable def HM (P:K5):Bool:=(nsIn? (KL P) K9).any fun es=>es.toList.all (fun e=>nM e.key)&&((nsFind es (J8 "__builtins__")).any fun v=>v==.ref 4)
theorem Ap (P:K5):HM P=true:=∅
noncomputable def vN:Obj:=⟨.type "module",some LL,.plain,#[]⟩
theorem BV (hK:(KL P).In h) (hB:h.get? 4=some vN):∃mg ob,BMod h K9 mg 4 ob:=by
 obtain⟨es,e,h1⟩:=bh (Ap P)
 obtain⟨o,ep,a,b⟩:=nsIn?_some e
 obtain⟨q1,q2⟩:=Bool.and_eq_true_iff.mp h1
 obtain⟨v,q,q2⟩:=bh q2
 cases beq_iff_eq.mp q2
 exact⟨nsFind es,_,⟨o,es,ep,hK _ _ a,b,lO q1,fun _=>rfl⟩,q,by decide,hB,rfl,rfl,rfl⟩
noncomputable def v884:Array Kd:=FD 879 880 (.ref 881) (.ref 882) 885 j7 1456 899 1 0 0 3 1460
theorem xX (P:K5):(KL P).lookup 884=some ⟨.type "code",none,.fields v884,#[]⟩:=∅
theorem tR {ps:Array Kd} (hK:(KL P).In h) (hJ:h.get? TJ=some (dT ps)) (ht:TriplesOk ps.toList):h.IsCode 884 TJ ps/\h.TableAt 884 TJ ps:=
 ⟨⟨_,v884,_,_,_,_,_,_,_,_,hK _ _ (xX P),rfl,rfl,rfl,rfl,rfl,rfl,hJ,rfl,ht,by decide⟩,⟨_,v884,hK _ _ (xX P),rfl,rfl,rfl⟩,hJ⟩
noncomputable def xh (x:Str):Str:=match (K0 8).find? fun k=>wdN k==x with
 | some k=>aI k
 | none=>x
theorem ub:∀k:Nat,k < 8->xh (wdN k)=aI k:=by decide +kernel
theorem AS (P:K5):kn.names.lookup (J8 "quote")=some Nq/\nsIn (KL P) K9 "quote"=some (some (.ref 893)):=⟨∅,∅⟩
theorem vt (w:J9) (hk:k < 8) {u:Kl} {m:Str->Option Kd} {t:Tok} (hr:aB 1 A) (hglo:env.globals=K9) (hK:(KL w.params).In u.heap)
  (hn:u.heap.Ns (genEnv kn [] C code LL env).locals m) (hm:m "arg"=some (.str (wdN k) t)) :
  J6 (Kx PW w) A (KP (eN 0 g9) (genEnv kn [] C code LL env)) (fun y s3=>Carried y (.str (xh (wdN k)))/\Keeps u s3) E u:=by
 obtain⟨q1,q2⟩:=AS w.params
 have hkd:(genEnv kn [] C code LL env).scope.kind=.function:=by show kn.kind=_;kernel_rfl
 rw[AB,fK (by rfl),aF (by rfl),aO]
 refine J7 (Mk ?_ (by decide))
 rw[ND hkd (by exact q1)]
 unfold loadGlobal
 rw[show(genEnv kn [] C code LL env).globals=K9 from hglo]
 refine J7 ((M8 hK q2).here ?_)
 refine Kb ?_
 refine bd (bc (bM _) (bD (by rfl)) (NQ (Mk (Mq hkd (by show kn.names.lookup _=_;kernel_rfl) hn hm ?_) (by decide))))
 refine spliced_nil (kwAll_nil ?_)
 refine(xn w).kp [] A [] u _ _ _ rfl ⟨rfl,KY,(fun _ h=>nomatch h),(fun i o a h=>by simp at h)⟩ hK fun kk=>?_
 have z:=i5 w k hk [] [] (.ref 893) [.str (wdN k) t] [] rfl (.cons ⟨t,rfl⟩ .nil) .nil A u hr ⟨rfl,KY,(fun _ h=>nomatch h),(fun i o a h=>by simp at h)⟩ hK
 refine Kr z (fun y s3 ⟨ρ',ry,_,go⟩=>?_) (fun _ _ z=>z.elim)
 obtain⟨t',rfl⟩:=ry
 rw[ub k hk]
 refine⟨.str _ _,s3.heap,s3.toks,?_,fun b o e=>go.kept b o e (fun q=>nomatch q) (fun q=>nomatch q)⟩
 obtain⟨hp,gn,dr,tk,ox⟩:=s3
 have ob':gn=u.gens/\ox=u.os/\dr=u.drawn:=⟨go.gens,go.os.1,go.os.2⟩
 obtain⟨g1,g2,g3⟩:=ob'
 rw[g1,g2,g3]
theorem C4 {b:Kj} {o:Obj} (q:b=TJ) (e:(KL w.params).lookup b=some o):False:=by
 rw[q] at e
 have:=(aa w).tj
 rw[show(aa w).K=KL w.params from rfl,e] at this
 cases this
theorem uy (w:J9) (h8:∀m∈ms,m < 8) (hn:ms.length <=60) {x:Kd} (hr:aB 3 A) (hh:HR w.params ρ os s.heap) (hK:(KL w.params).In s.heap)
  (hJ:s.heap.get? TJ=some (dT #[])) (hB:s.heap.get? 4=some vN) (hG:AllBare s.gens) (ho:os[i]?=some (.list (mkW ms))) (hx:RelV ρ (.ref i) x) (hok:JoinOk (J8 " ") (ms.map aI)=true)
  (q:∀s' t',(∀b o,b≠TJ->s.heap.get? b=some o->s'.heap.get? b=some o)->AllBare s'.gens->s'.os=s.os->(∃vs,s'.heap.get? TJ=some (dT vs))->Q (.str (MN (J8 " ") (ms.map aI)) t') s'):J6 (Kx PW w) A (call (.ref 885) [x] []) Q E s:=by
 obtain⟨a,ys,n,rfl,ha,e,r⟩:=hh.list ho hx
 obtain⟨oc,od,sl,hat⟩:=(sd w).at_
 have fn:=sd w
 refine Ll (ME (by have:=hr.depth;lia) (hK _ _ hat) rfl fn.co fn.gen fn.body (codeRec_of hK fn.code) ?_)
 rw[GB]
 refine Kb ?_
 rw[fn.clo]
 refine Mi fn.kind (fun c hc=>?_) fun env he s2 ic=>?_
 .simp only[Ka,Kf,or_false] at hc
  rcases hc with rfl
  exact .inl ∅
 have hloc:env.locals=s.heap.objs.size:=by rw[he];rfl
 have hglo:env.globals=K9:=by rw[he];exact fn.glob
 have hcode:env.code=.ref 884:=by rw[he];rfl
 have hsc:env.scope=j7.scope:=by rw[he];rfl
 have keep:=ic.toInCall.keep
 obtain⟨h2,tk,es₂,_⟩:=ic.done
 have hK2:(KL w.params).In s2.heap:=fun b o e=>keep _ _ (hK b o e)
 refine⟨(aa w).lim _ hK2,NS ?_⟩
 show J6 _ _ (Lq nD env) _ _ _
 rw[wz]
 refine LN (Ny ?_)
 rw[BJ,eA ∅ ∅ ∅ (by rfl),aF ∅,aO]
 refine J7 (MU (J7 (KT (J7 (KQ (NA (T:="str") (by rfl) F.plainAttrs_str F.slot_str_join F.type_str_join (fun _ h=>nomatch h) ?_))))))
 refine bd (bc (bM _) (bD (by rfl)) (NQ ?_))
 obtain⟨mg,ob,BM⟩:=BV hK hB
 obtain⟨hic,htab⟩:=tR hK hJ (by exact trivial)
 have hns:=ic.toInCall.ns
 have Fr0:Fr s.heap env.locals s2.heap _:=⟨hns,keep,by rw[hloc];exact Km _⟩
 have hr':aB 2 (A.deeper env):=hr.deeper
 have hkd:env.scope.kind=.function:=by rw[hsc];exact fn.kind
 have hsp:env.kindOf (J8 "split_command")=some .local:=by show env.scope.names.lookup _=_;rw[hsc];kernel_rfl
 have emap:((ms.map wdN).filter fun _=>true).map xh=ms.map aI:=by
  rw[List.filter_eq_self.mpr (fun _ _=>rfl),LU]
  exact NV fun k hk=>ub k (h8 k hk)
 rw[AV]
 refine GeneratorExp_strsF (L:=env.locals) (m:=bindL env.kindOf [(J8 "split_command",Value.ref a)] fun _=>none) (pz:=fun _=>true) (d:=fun y=>.str (xh y)) (Based.start hic htab (by decide)) (hglo▸BM) hcode rfl hr'.handled ∅ (closureFor_none fun x hx=>?_) (fun x hx=>?_) ∅ ∅ ∅ (by have:=hr'.depth;lia) ?_ (fun _=>rfl)
 .intro q
  exact dz (names:=kn.names) ∅ (y:=x.1) (by rw[<- q];exact hx)
 .have hc:(kn.names.all fun p=>!(p.2==.cell))=true:=∅
  have:=List.all_eq_true.mp hc x hx
  intro q
  rw[q] at this
  exact nB this
 rw[Bu]
 refine Mk (Mq hkd hsp hns (v:=.ref a) (by unfold bindL;rw[if_pos hsp];simp[bindL]) ?_) (by decide)
 refine⟨a,ys.toList,ms.map wdN,env.locals,rfl,?_,?_,Fr0,?_,(aa w).lim _ hK2,Km _,hns.lt,?_,?_,?_⟩
 .rw[Array.toArray_toList]
  exact ax (keep _ _ e)
 .rw[gt] at r
  exact jh r
 .rw[es₂];exact hG
 .intro c' C A' E' y t u m2 _ _ _ _ _ _ _ _
  exact Kb ⟨rfl,⟨u.heap,u.toks,rfl,fun _ _ e=>e⟩⟩
 .intro c' C A' E' y t u m2 hA hD hU hmem _ hF hm hLC hkept
  obtain⟨k,hk,rfl⟩:=List.mem_map.mp hmem
  refine vt w (h8 k hk) ⟨hA,?_,?_⟩ hglo (fun b o e=>hkept b o (fun q=>C4 q e) (hK2 b o e)) hF.ns hm
  .have:=hr'.depth;lia
  .have:=hr'.units;lia
 .intro c' a' s5 B' F' G' hos hk X
  refine spliced_nil (kwAll_nil ?_)
  refine(Kp.blt (g:=aa w) (os:=[])) _ [] s5 _ _ _ rfl ⟨rfl,KY,(fun _ h=>nomatch h),(fun i o a h=>by simp at h)⟩ ?_ fun kk=>?_
  .exact fun b o e=>hk b o (fun q=>C4 q e) (hK2 b o e)
  .refine join_genSK F' G' X (Km _) (by rw[emap];exact hok) (fun s' t' F2 G2 hos2 _=>?_) (by rw[KU,K4];lia)
   rw[emap]
   refine q s' t' (fun b o hb eb=>F2.keep b o ?_) G2 (hos2.trans (hos.trans (by rw[es₂]))) ⟨_,F2.keep TJ _ (Lr _ hJ rfl)⟩
   unfold regrown
   rw[LZ _ _ (MK hb)]
   exact eb
theorem sW:∀{vs:List Kd},ae (RelV ρ) (eE ss) vs->∃l:List (Str×Tok),strValues l=vs/\l.map (·.1)=ss:=by
 induction ss with
 | nil=>
  intro vs h
  cases h
  exact⟨[],rfl,rfl⟩
 | cons s r ih=>
  intro vs h
  cases h with
  | cons q rs=>
   obtain⟨t,e⟩:=q
   obtain⟨l,h1,h2⟩:=ih rs
   exact⟨(s,t)::l,by rw[e,<- h1];rfl,by rw[K6,h2]⟩
theorem Cl.joinL {sep:Str} (ho:os[i]?=some (.list (eE ss))) (hok:JoinOk sep ss=true):Cl g D (.top (.builtin "str.join")) [.str sep,.ref i] [] os (.str (MN sep ss)) os:=By fun ρ f y z hf r rz=>by
 obtain rfl:f=.builtin "str.join":=hf
 obtain⟨t,rfl⟩:=r
 refine Lf.pure fun A s hr hh hK=>?_
 obtain⟨a,ys,n,rfl,ha,e,q⟩:=hh.list ho rz
 obtain⟨l,h1,h2⟩:=sW q
 have e2:ys=(strValues l).toArray:=by rw[h1,Array.toArray_toList]
 subst e2
 exact PySem.SC.join (ax e) h2 hok fun t' k=>⟨⟨t',rfl⟩,rfl,rfl,rfl⟩
theorem Fu:∀k:Nat,(aI k).length=10:=fun k=>by
 unfold aI
 rfl
theorem mK (hn:ms.length <=60):JoinOk (J8 " ") (ms.map aI)=true:=by
 have h:∀(l:List Nat) (a:Nat),(l.map aI).foldl (fun(a:Nat) (t:Str)=>a + t.length + (J8 " ").length) a=a + l.length * 11:=fun l=>by
  induction l with
  | nil=>intro a;simp
  | cons x r ih=>
   intro a
   rw[K6,List.foldl_cons,ih,Fu,Li,show(J8 " ").length=1 from by decide +kernel]
   lia
 unfold JoinOk
 rw[List.foldl_toArray',h]
 unfold Builtin.Str.tooLong
 .rw[K4,decide_eq_false (by lia)]
  rfl
 .rfl
set_option tactic.hygienic true in
theorem Ex.compLL {loc:List (Str×V)} {t:Expr} {W F:Nat->V} (P:Nat->Bool)
  (hi:Ev g D sc ⟨os,loc⟩ iter (.ref i) ⟨os,loc⟩) (ho:os[i]?=some (.list (ms.map W))) (hh:fP sc scope iter=true) (ht:∃q,t=.Name x q) (hx:aK (compSc scope sc) x) (hn:ms.length <=Kg)
  (hl0:cl0 loc scope.names=l0) (hput:∀v u,put (put l0 x v) x u=put l0 x u) (hfree:∀y,(y,Ks)∈scope.names->loc.lookup y=l0.lookup y/\∀v,(put l0 x v).lookup y=l0.lookup y)
  (hif:∀m∈ms,∀acc,gV g D (compSc scope sc) ⟨os++[.list acc],put l0 x (W m)⟩ ifs (P m) ⟨os++[.list acc],put l0 x (W m)⟩)
  (hel:∀m∈ms,P m=true->∀acc,Ev g D (compSc scope sc) ⟨os++[.list acc],put l0 x (W m)⟩ elt (F m) ⟨os++[.list acc],put l0 x (W m)⟩)
  (hnm:sc.names.lookup nm=some .local) (hk:sc.kind=.function) (hline:(px.line==pos.line)=true) (hno:pL scope nm=true) :
  Ex g D sc ⟨os,loc⟩ (.Assign [.Name nm px] (.ListComp elt [⟨t,iter,ifs,0⟩] scope pos) apos) .next ⟨os++[.list ((ms.filter P).map F)],put loc nm (.ref os.length)⟩:=by
 have hlt:i < os.length:=(List.getElem?_eq_some_iff.mp ho).1
 have mem:∀k,k < ms.length->ms.getD k 0∈ms:=fun k hk=>by rw[Kh,Kc hk];exact Lk hk
 obtain⟨l,hl,run⟩:=ba.fm (g:=g) (D:=D) (sc:=compSc scope sc) (t:=t) (elt:=elt) (ifs:=ifs) (x:=x) (nx:=cg i) (os:=os) (l0:=l0) (n:=ms.length) (w:=fun k=>W (ms.getD k 0)) (fun k=>P (ms.getD k 0)) (fun k=>F (ms.getD k 0)) ht hx hn
  (fun k acc=>by
   rw[bv (vs:=ms.map W) (by rw[Kn hlt];exact ho),KX]
   split
   .rename_i hk
    rw[Kc hk,Kh,Kc hk];rfl
   .rename_i hk
    rw[Kv (Lv hk)];rfl)
  hput (fun k acc hk=>hif _ (mem k hk) acc) (fun k acc hk hp=>hel _ (mem k hk) hp acc)
 rw[dy] at run
 exact Ex.compLoc hi (aZ.list ho) hh (hl0▸run) (fun y hy=>by
  obtain⟨h1,h2⟩:=hfree y hy
  rcases hl with rfl | ⟨v,rfl⟩
  .exact h1
  .show _=(put l0 x v).lookup y
   rw[h2 v,h1]) hnm hk hline hno
theorem Al:ah aA 2=.Assign [.Name "words" (nN (ah aA 2))] (fb aw.scope eW) (sP (ah aA 2)):=∅
theorem zN:ah aA 3=.Assign [.Name "quoted" (nN (ah aA 3))] (fb aw.scope eQ) (sP (ah aA 3)):=∅
section
variable (w:J9)
noncomputable def bG (xs:List Int):List Nat:=eV (drN xs)
noncomputable def osWr (vs:Array Kd) (n:Nat) (xs:List Int):List O:=osMr vs n xs++[.list (mkW (bG xs))]
noncomputable def osQr (vs:Array Kd) (n:Nat) (xs:List Int):List O:=osWr vs n xs++[.list (uN (bG xs))]
noncomputable def lwD:List (Str×V):=[("script",.ref 0),("drawn",.ref 4),("masks",.ref 6),("words",.ref 7)]
noncomputable def lwE:List (Str×V):=[("script",.ref 0),("drawn",.ref 4),("masks",.ref 6),("words",.ref 7),("quoted",.ref 8)]
noncomputable def lwF (xs:List Int):List (Str×V):=[("script",.ref 0),("drawn",.ref 4),("masks",.ref 6),("words",.ref 7),("quoted",.ref 8),("line",.str (MN " " ((bG xs).map aI)))]
theorem mJ:aw.scope.kind=.function:=∅
theorem yY:Ex (aa w) 10 aw.scope ⟨osMr vs n xs,lwC⟩ (ah aA 2) .next ⟨osWr vs n xs,lwD⟩:=by
 have h:=Ex.compLL (g:=aa w) (D:=10) (sc:=aw.scope) (os:=osMr vs n xs) (loc:=lwC) (l0:=[]) (nm:="words") (px:=nN (ah aA 2)) (apos:=sP (ah aA 2)) (elt:=eN 0 eW) (t:=(ag eW).target) (iter:=(ag eW).iter) (ifs:=(ag eW).ifs) (scope:=cN eW) (pos:=eP eW) (i:=6) (x:="mask") (ms:=bG xs) (W:=fun(m:Nat)=>V.int (m:Int)) (F:=fun m=>V.str (wdN m)) (fun _=>true)
  (aC (X:=X0 w 10 aq) ∅) rfl ∅ ⟨eP (ag eW).target,∅⟩ (.inl ∅) (by rw[K4];have:=jd xs;unfold bG;lia) ∅ (fun v u=>rfl) (fun y hy=>(dz ∅ hy).elim)
  (fun m hm acc=>by rw[show(ag eW).ifs=[] by kernel_rfl];exact .nil)
  (fun m hm _ acc=>sU w 10 (by decide) _ m (iM xs m hm)) ∅ mJ ∅ ∅
 rw[fE] at h
 rw[Al]
 exact h
theorem zJ:Ex (aa w) 10 aw.scope ⟨osWr vs n xs,lwD⟩ (ah aA 3) .next ⟨osQr vs n xs,lwE⟩:=by
 have h:=Ex.compLL (g:=aa w) (D:=10) (sc:=aw.scope) (os:=osWr vs n xs) (loc:=lwD) (l0:=[]) (nm:="quoted") (px:=nN (ah aA 3)) (apos:=sP (ah aA 3)) (elt:=eN 0 eQ) (t:=(ag eQ).target) (iter:=(ag eQ).iter) (ifs:=(ag eQ).ifs) (scope:=cN eQ) (pos:=eP eQ) (i:=6) (x:="mask") (ms:=bG xs) (W:=fun(m:Nat)=>V.int (m:Int)) (F:=fun m=>V.str (aI m)) (fun _=>true)
  (aC (X:=X0 w 10 aq) ∅) rfl ∅ ⟨eP (ag eQ).target,∅⟩ (.inl ∅) (by rw[K4];have:=jd xs;unfold bG;lia) ∅ (fun v u=>rfl) (fun y hy=>(dz ∅ hy).elim)
  (fun m hm acc=>by rw[show(ag eQ).ifs=[] by kernel_rfl];exact .nil)
  (fun m hm _ acc=>r8 w 10 (by decide) _ m (iM xs m hm)) ∅ mJ ∅ ∅
 rw[fE] at h
 rw[zN]
 exact h
theorem vy (ms:List Nat):uN ms=eE (ms.map aI):=by
 unfold uN eE
 rw[LU]
 rfl
theorem Ax:Exs (aa w) 10 aw.scope ⟨osQr vs n xs,lwE⟩ [ah aA 4] .next ⟨osQr vs n xs,lwF xs⟩:=
 bq (hk:={ c:=[(966,11,966,27,fun _ _ os=>(.str (MN " " ((bG xs).map aI)),os))] }) (X:=X0 w 10 aq)
  (c:=[.p (Cl (aa w) 10 (.top (.builtin "str.join")) [.str " ",.ref 8] [] (osQr vs n xs) (.str (MN " " ((bG xs).map aI))) (osQr vs n xs))]) ∅
  ⟨Cl.joinL (by
   show some (O.list (uN (bG xs)))=_
   rw[vy]) (mK (by have:=jd xs;unfold bG;lia)),trivial⟩
end
theorem dQ.cmp {l r:Expr} {pos:Pos} {a b c:V} (h1:dQ g D sc σ l a σ₁) (h2:Ev g D sc σ₁ r b σ₂) (h3:ak g D op a b σ₂.os c os') (hm:MT op r=false:=by with_unfolding_all rfl):dQ g D sc σ (.Compare l [op] [r] pos) c ⟨os',σ₂.loc⟩:=fun A env ρ s outer he hr fa fe hs=>
 wpAny_Compare1 (h1.use he hr fa fe hs fun x s1 ρ1 rx st1 fe1 g1 u1=>h2.use he hr st1 fun y s2 ρ2 ry st2 g2=>(h3 ρ2 x y (rx.go g2) ry).use hr st2 fun z s3 ρ3 rz st₃ g3=>by
  obtain⟨gW,uW⟩:=fT fe1 g1 u1 (g2.trans g3)
  exact⟨ρ3,rz,st₃,gW,uW⟩) hm
theorem xJ.cmp {l r:Expr} {pos:Pos} {a b:V} {c:Bool} (h1:dQ g D sc σ l a σ₁) (h2:Ev g D sc σ₁ r b σ₂) (h3:ak g D op a b σ₂.os (.bool c) os') (hm:MT op r=false:=by with_unfolding_all rfl):xJ g D sc σ (.Compare l [op] [r] pos) c ⟨os',σ₂.loc⟩:=fun A env ρ s outer he hr fa fe hs=>
 NI (h1.use he hr fa fe hs fun x s1 ρ1 rx st1 fe1 g1 u1=>h2.use he hr st1 fun y s2 ρ2 ry st2 g2=>(h3 ρ2 x y (rx.go g2) ry).use hr st2 fun z s3 ρ3 rz st₃ g3=>by
  obtain rfl:z=.bool c:=rz
  obtain⟨gW,uW⟩:=fT fe1 g1 u1 (g2.trans g3)
  exact Nw ⟨ρ3,rfl,st₃,gW,uW⟩) hm
theorem dQ.andT {x y:Expr} {a:V} (h:Ev g D sc σ x a σ₁) (t:bV g D a σ₁.os true os') (k:dQ g D sc ⟨os',σ₁.loc⟩ y v σ₂):dQ g D sc σ (.BoolOp .And [x,y] pos) v σ₂:=fun A env ρ s outer he hr fa fe hs=>
 wpAny_And2 (h.use he hr hs fun u s1 ρ1 r st1 g1=>(t ρ1 u r).use hr st1 fun b s2 ρ2 e st2 g2=>by
  obtain rfl:b=true:=e
  obtain⟨gW,uW⟩:=fT fe (Go.refl _ ρ s) (aS.refl _ _) (g1.trans g2)
  exact k.use he hr fa (fe.go (g1.trans g2)) st2 fun w s3 ρ3 rw st₃ fe3 g3 u3=>⟨ρ3,rw,st₃,gW.trans g3,uW.trans u3⟩)
structure mZ (ow ρ:List Kj) (s:Kl) (ρ':List Kj) (s':Kl):Prop where
 pre:∃ν,ρ'=ρ++ν/\∀a∈ν,s.heap.get? a=none
 kept:∀b o,s.heap.get? b=some o->b∉ρ->b∉ow->b≠TJ->s'.heap.get? b=some o
 alive:∀b o,s.heap.get? b=some o->∃o',s'.heap.get? b=some o'
 gens:AllBare s.gens->AllBare s'.gens
 os:s'.os=s.os
 tj:∀vs,s.heap.get? TJ=some (dT vs)->∃vs',s'.heap.get? TJ=some (dT vs')
theorem mZ.trans {ow:List Kj} (x:mZ ow ρ s ρ1 s1) (y:mZ ow ρ1 s1 ρ2 s2):mZ ow ρ s ρ2 s2:=by
 obtain⟨ν,e,hν⟩:=x.pre
 obtain⟨μ,e',hμ⟩:=y.pre
 refine⟨⟨ν++μ,by rw[e',e,KG],fun a ha=>?_⟩,fun b o hb h1 h2 h3=>?_,fun b o hb=>?_,fun q=>y.gens (x.gens q),y.os.trans x.os,fun vs q=>let⟨v,q'⟩:=x.tj vs q;y.tj v q'⟩
 .rcases List.mem_append.mp ha with h | h
  .exact hν a h
  .cases q:s.heap.get? a with
   | none=>rfl
   | some o=>obtain⟨o',q'⟩:=x.alive a o q;rw[hμ a h] at q';exact nS q'
 .have nm:b∉ρ1:=fun hm=>by
   rw[e] at hm
   rcases List.mem_append.mp hm with h | h
   .exact h1 h
   .rw[hν b h] at hb;exact nS hb
  exact y.kept b o (x.kept b o hb h1 h2 h3) nm h2 h3
 .obtain⟨o',q⟩:=x.alive b o hb
  exact y.alive b o' q
theorem Go.toL {ow:List Kj} (x:Go ow ρ s ρ' s') (h1:TJ∉ρ) (h2:TJ∉ow):mZ ow ρ s ρ' s':=
 ⟨x.pre,fun b o e a1 a2 _=>x.kept b o e a1 a2,x.alive,fun q=>by rw[x.gens];exact q,x.os.1,fun vs q=>⟨vs,x.kept TJ _ q h1 h2⟩⟩
theorem tF:TJ < N0:=by decide
theorem HR.ntj (x:HR P ρ os h):TJ∉ρ:=fun hm=>absurd tF (Nat.not_lt.mpr (x.hi TJ hm).1)
theorem St.ntj (st:St g env σ ρ s):TJ∉own env:=fun hm=>absurd tF (Nat.not_lt.mpr (st.low TJ hm))
theorem IU (P:K5):findCls (KL P) (.type "object") (.type "type") "__new__"=some (.val (.builtin "object.__new__")):=∅
theorem Ja (P:K5):readsIn (KL P) 731 (.type "type")=true:=∅
theorem JB (P:K5):findCls (KL P) (.ref 731) (.type "type") "__new__"=some (.get (.builtin "staticmethod.__get__") (.ref 228) .none (.ref 731)):=∅
theorem IJ (P:K5):recIn (KL P) 228 "staticmethod"=some [.ref 224]:=∅
theorem IM (P:K5):peek (KL P) ⟨PW,P⟩ (Bind.madeHere "object.__new__" (.ref 731))=some ():=∅
theorem JI (P:K5):peek (KL P) ⟨PW,P⟩ (Bind.madeBy (.ref 731))=some none:=∅
noncomputable def jT (P:K5):ClassData:=(clsIn (KL P) 731).getD default
theorem F3 (P:K5):clsIn (KL P) 731=some (jT P)/\(jT P).abstract=false/\(jT P).hasDel=false/\(jT P).mro.isEmpty=false/\mroIn (KL P) 731 (.ref 731)=some true/\MW (KL P) (.ref 731) "__call__"=some (some (.builtin "type.__call__"))/\instIn (KL P) (.ref 731) (.type "type")=some true:=
 ⟨∅,∅,∅,∅,∅,∅,∅⟩
theorem IG (P:K5):peek (KL P) ⟨PW,P⟩ (Bind.staticBase (.ref 731))=some (.type "object"):=∅
theorem HO (P:K5):peek (KL P) ⟨PW,P⟩ (Bind.madeBy (.type "object"))=some (some "object.__new__"):=∅
theorem GR (P:K5):mroIn (KL P) 731 (.type "object")=some true:=∅
theorem H6 (P:K5):peek (KL P) ⟨PW,P⟩ (mroOf (.ref 731))=some (jT P).mro:=∅
theorem FR (P:K5):LG (KL P) (.ref 731) "__init__"=some (some (.ref 501))/\Na (KL P) (.ref 501)=some (.type "function"):=⟨∅,∅⟩
theorem oJ {K:Frag} (h:clsIn K C=some cd):∃oc od sl,K.lookup C=some ⟨oc,od,.cls cd,sl⟩:=by
 unfold clsIn at h
 cases e:K.lookup C with
 | none=>rw[e] at h;exact nS h
 | some o=>
  rw[e] at h
  obtain⟨c,d,dt,sl⟩:=o
  cases dt with
  | cls _=>cases h;exact⟨_,_,_,rfl⟩
  | _=>exact nS h
section
variable {R:Mo->Kl->Prop} {g:Array GenState} {d:Drawn} {t:Nat} {os:OsState}
theorem Ds (X:(KL w.params).In h) (hq:R (.ok (.ret (.ref (h.objs.size + 1)))) ⟨(h.push LW).push (ML 731 h.objs.size),g,d,t,os⟩) :
  Ky (Kx PW w) A (.call (.builtin "object.__new__") ⟨[.ref 731],[]⟩) R ⟨h,g,d,t,os⟩:=by
 obtain⟨hc,e1,e2,e4,_⟩:=F3 w.params
 have here:Looks (Kx PW w) h (Bind.madeHere "object.__new__" (.ref 731)) ():=NB X (IM w.params)
 obtain⟨oc,od,sl,hC⟩:=oJ hc
 replace hC:=X _ _ hC
 have st:Looks (Kx PW w) h (Bind.staticBase (.ref 731)) (.type "object"):=NB X (IG w.params)
 have mb:Looks (Kx PW w) h (Bind.madeBy (.type "object")) (some "object.__new__"):=NB X (HO w.params)
 have tp:Looks (Kx PW w) h (isSubtype (.ref 731) (.type "object")) true:=looks_mroIn X (GR w.params)
 have F:=PySem.F.objNew
 refine codeAny_call_builtin_code (Mx _ F.quiet) ?_
 simp only[checkBuiltinCall,F.kind,F.split,F.row]
 have args:Bind.checkArgs "object.__new__" ⟨.hand,"object.__new__","__new__",.cls,[]⟩ ⟨[.ref 731],[]⟩=pure ():=∅
 rw[args]
 repeat (first | simp only[bne_self_eq_false,LJ,if_false] | lk)
 refine Mh F.entry ?_
 unfold Builtin.«object.__new__»
 have fin:∀A',J6 (Kx PW w) A' (do
   let d <- if typeHasDict (.ref 731) then some <$> alloc { cls:=.type "dict",data:=.dict #[] } else pure none
   ret (<- newObj (.ref 731) .plain d)) (fun fin s'=>match fin with | .done f=>R (.ok f) s' | .again c'=>c'.quiet=true/\Ky (Kx PW w) A c' R s') (fun e s'=>R (.error e) s') ⟨h,g,d,t,os⟩:=by
  intro A'
  show J6 _ _ ((alloc LW >>=fun x=>pure (some x)) >>=_) _ _ _
  refine J7 (J7 (wpAny_alloc (Kb (J7 ?_))))
  show J6 _ _ (newObjAsIs _ _ _) _ _ _
  unfold newObjAsIs classHasDel
  refine J7 (wpAny_alloc (J7 (J7 (LA (Ki _ (Ki _ hC)) (Kb ?_)))))
  rw[e2]
  refine Kb (Kb ?_)
  show R _ _
  rw[L6]
  exact hq
 repeat (first | simp only[e1,LJ,if_false] | exact fin _ | lk)
theorem zM {rest:List Kd} {kw:List (Str×Kd)} (X:(KL w.params).In h)
  (hN:J6 (Kx PW w) (A.under (.builtin "type.__call__" ⟨.ref 731::rest,kw⟩)) (call (.ref 224) (.ref 731::rest) kw) (fun obj s₁=>∃x ox od,obj=.ref x/\(KL w.params).In s₁.heap/\InstAt s₁.heap x ox 731 od/\
   Ky (Kx PW w) (A.under (.builtin "type.__call__" ⟨.ref 731::rest,kw⟩)) (.call (.ref 501) ⟨.ref x::rest,kw⟩) (InitBack x R) s₁) (fun _ _=>False) ⟨h,g,d,t + 1,os⟩) :
  Ky (Kx PW w) A (.call (.ref 731) ⟨rest,kw⟩) R ⟨h,g,d,t,os⟩:=by
 obtain⟨hc,e1,e2,e4,hs,hcall,htyp⟩:=F3 w.params
 obtain⟨oc,od,sl,hC⟩:=oJ hc
 replace hC:=X _ _ hC
 have call:Looks (Kx PW w) h (specialOf (.ref 731) "__call__") (some (.builtin "type.__call__")):=looks_specialIn X hcall
 have typ:Looks (Kx PW w) h (isInstance (.ref 731) (.type "type")) true:=looks_instIn X htyp
 have hm:Looks (Kx PW w) h (mroOf (.ref 731)) (jT w.params).mro:=NB X (H6 w.params)
 have mb:Looks (Kx PW w) h (Bind.madeBy (.ref 731)) none:=NB X (JI w.params)
 refine KV ?_
 show J6 _ _ (callAny (.ref 731) _) _ _ _
 refine nd_load hC ?_
 show J6 _ _ (callAny.viaDunder (.ref 731) _) _ _ _
 unfold callAny.viaDunder
 refine J7 (call.at ?_)
 dsimp only
 rw[tc_bind]
 refine J7 (Kb (J7 (Kb ?_)))
 refine Kb (a:=Fin.again (.call (.builtin "type.__call__") ⟨.ref 731::rest,kw⟩)) (And.intro rfl ?_)
 refine codeAny_call_builtin_at (Mx _ (by decide +kernel)) entry_typeCall (check_slot tc_kind tc_split typ (tc_args _ _ _) ?_)
 unfold Builtin.«type.__call__»
 dsimp only
 generalize hG:getAttr (Value.ref 731) (J8 "__new__")=GA
 repeat (first | simp only[e4,LJ,if_false] | lk)
 subst hG
 refine cls_bind (s:=⟨h,g,d,t,os⟩) X (Ja w.params) (JB w.params) (Ll (sm_get (s:=⟨h,g,d,t + 1,os⟩) X (IJ w.params) (handed_on rfl ?_)))
 refine J7 (KQ (Kr hN (fun obj s₁ z=>?_) fun _ _ z=>z.elim))
 obtain⟨x,ox,od',rfl,X₁,I,hq⟩:=z
 have t1:Looks (Kx PW w) s₁.heap (typeOf (.ref x)) (.ref 731):=I.type
 have s1:Looks (Kx PW w) s₁.heap (isSubtype (.ref 731) (.ref 731)) true:=looks_mroIn X₁ hs
 have i1:Looks (Kx PW w) s₁.heap (LS (.ref 731) "__init__") (some (.ref 501)):=Mz X₁ (FR w.params).1
 have b1:Looks (Kx PW w) s₁.heap (bindSpecial (.ref 501) (.ref x)) (.ref 501,[.ref x]):=bind_fn X₁ _ (FR w.params).2
 obtain⟨h1,gn1,d1,tk1,os1⟩:=s₁
 unfold isInstance callSpecial? specialOf
 repeat (first | with_reducible refine Ll ?_ | lk)
 refine codeAny_mono hq fun r s' z=>?_
 rcases r with e | (v | _ | _ | _) <;> first | exact z | exact z.elim | skip
 obtain⟨rfl,z⟩:=z
 exact Kb (Kb z)
end
theorem Cl.typeI {k:Int}:Cl g D (.top (.type "type")) [.int k] [] os (.top (.type "int")) os:=fk fun ρ f y hf r=>by
 obtain rfl:f=.type "type":=hf
 obtain⟨t,rfl⟩:=r
 exact Lf.pure fun A s hr hh hK=>call_type_of (Tx:="int") (by rfl) (by decide +kernel) ⟨rfl,rfl,rfl,rfl⟩
theorem Cl.intI {k:Int}:Cl g D (.top (.type "int")) [.int k] [] os (.int k) os:=fk fun ρ f y hf r=>by
 obtain rfl:f=.type "int":=hf
 obtain⟨t,rfl⟩:=r
 exact Lf.pure fun A s hr hh hK=>call_int_int ⟨⟨t,rfl⟩,rfl,rfl,rfl⟩
theorem ak.isNotInt:ak g D .IsNot (.top (.type "int")) (.top (.type "int")) os (.bool false) os:=fun ρ x y hx hy=>by
 obtain rfl:x=.type "int":=hx
 obtain rfl:y=.type "int":=hy
 exact Lf.tok fun A s _=>by
  refine Kb ?_
  exact⟨rfl,s.toks,rfl⟩
noncomputable def xZ:List Kz:=(bt 18).2.1
noncomputable def kl:Expr:=sN 0 (ah xZ 0)
theorem C2:kl=.BoolOp .And [eN 0 kl,eN 1 kl] (eP kl):=∅
theorem Ak:eN 0 kl=.Compare (eN 0 (eN 0 kl)) [.IsNot] [eN 1 (eN 0 kl)] (eP (eN 0 kl)):=∅
noncomputable def lX (k:Int) (m:Str):List (Str×V):=[("n",.int k),("what",.str m)]
theorem tX (w:J9) (m:Str) (os:List O):Tr (aa w) 0 j8.scope ⟨os,lX 1 m⟩ kl false ⟨os,lX 1 m⟩:=by
 rw[C2]
 refine Tr.boolop (bQ.andF ?_)
 rw[Ak]
 exact Tr.cmp (dp (hk:={ c:=[(180,7,180,14,fun _ _ os=>(.top (.type "int"),os))] }) (X:=X0 w 0 aq) (c:=[.p (Cl (aa w) 0 (.top (.type "type")) [.int 1] [] os (.top (.type "int")) os)]) (v:=.top (.type "int")) (s:=⟨os,lX 1 m⟩) ∅ ⟨Cl.typeI,trivial⟩)
  (aC (X:=X0 w 0 aq) (v:=.top (.type "int")) (s:=⟨os,lX 1 m⟩) ∅) ak.isNotInt ∅
theorem index_run (w:J9) (m:Str) (os:List O):Exs (aa w) 0 j8.scope ⟨os,lX 1 m⟩ xZ (.ret (.int 1)) ⟨os,lX 1 m⟩:=
 bq (hk:={ t:=[(180,7,180,49,fun σ=>(false,σ))],c:=[(182,8,182,14,fun _ _ os=>(.int 1,os))] }) (X:=X0 w 0 aq)
  (c:=[.p (Tr (aa w) 0 j8.scope ⟨os,lX 1 m⟩ kl false ⟨os,lX 1 m⟩),.p (Cl (aa w) 0 (.top (.type "int")) [.int 1] [] os (.int 1) os)]) ∅ ⟨tX w m os,Cl.intI,trivial⟩
theorem HT:∀x y,K2 j8 ⟨[x,y],[]⟩=pure [(J8 "n",x),(J8 "what",y)]:=fun x y=>∅
theorem nd_nw:([J8 "n",J8 "what"]:List Str).Nodup:=by decide +kernel
theorem kJ (w:J9) (m:Str) (os:List O):Cl (aa w) 1 (.top (.ref 197)) [.int 1,.str m] [] os (.int 1) os:=
 Cl.def_ (DO w) (bf.of2 HT (a:=.int 1) (b:=.str m) (os:=os)) (fun x hx=>by
  simp only[Ka,Kf,or_false] at hx
  rcases hx with rfl | rfl <;> exact .inl ∅) nd_nw (index_run w m os) rfl ⟨nofun,nofun⟩
noncomputable def rT:List Kz:=(aM 20 1).2.1
noncomputable def kU:Expr:=sN 0 (ah rT 1)
theorem ym:kU=.Call (.Attribute (J1 kU) "__new__" (JF kU)) [eN 1 kU] [] (eP kU):=∅
noncomputable def lNw (i j:Nat):List (Str×V):=[("cls",.top (.ref 731)),("args",.ref i),("kwargs",.ref j)]
theorem BU {A:Lj} {pl:Sem Bool} {Q:Kd×List Kd->Kl->Prop} {E:Kd->Kl->Prop} (X:(KL w.params).In s.heap) (h:Q (.builtin "object.__new__",[]) { s with toks:=s.toks + 1 }):J6 (Kx PW w) A (getMethod (.type "object") "__new__" pl) Q E s:=by
 have L0:Looks (Kx PW w) s.heap (typeOf (.type "object")) (.type "type"):=Looks.of_pure (kitMeta_of ∅)
 have LO:Looks (Kx PW w) s.heap (opaqueClassAbove (.type "object")) none:=Looks.of_pure (by unfold opaqueClassAbove;dsimp only;rw[show Manifest.isStub "object"=false by decide +kernel];rfl)
 have hg:LG (KL w.params) (.type "type") "__getattribute__"=some (some (.builtin "type.__getattribute__")):=type_tga
 have hga:Looks (Kx PW w) s.heap (specialOf (.type "object") "__getattribute__") (some (.builtin "type.__getattribute__")):=L0.andThen (Mz X hg)
 unfold getMethod
 refine J7 (hga.here ?_)
 dsimp only
 rw[if_pos canon_tga]
 exact J7 (cls_open X LO L0 hg (looks_hook X (r:=none) (by rfl)) (by show subIn (KL w.params) _ _=_;rfl) (IU w.params) (Kb (by show J6 _ _ (handedOut _) _ _ _;rw[handedOut_of rfl];exact Kb (Kb h))))
theorem Ev.methS {o:Expr} {name:Str} {args:List Expr} {kws:List Mv} {apos pos:Pos} {a f v:V} {vs kvs:List V} {os':List O} (ho:Ev g D sc σ o a σ₁)
  (hm:∀(A:Lj) (ρ:List Kj) (s:Kl) (x:Kd) (pl:Sem Bool) (Q:Kd×List Kd->Kl->Prop) (E:Kd->Kl->Prop),RelV ρ a x->HR g.w.params ρ σ₁.os s.heap->g.K.In s.heap->(∀y tk,RelV ρ f y->Q (y,[]) { s with toks:=tk })->J6 (Kx PW g.w) A (getMethod x name pl) Q E s)
  (ha:bU g D sc σ₁ args vs σ₂) (hk:dC g D sc σ₂ pos kws kvs σ₃) (kp:Kp g σ₃.os f)
  (c:Cl g D f vs ((kwNames kws).zip kvs) σ₃.os v os') (h1:cI o=true:=by rfl) (h2:aW args=true:=by rfl) (h3:bO kws=true:=by rfl) (h4:(kwNames kws).length=kvs.length:=by rfl) (h5:bJ apos pos (args.length + kws.length)=true:=by rfl) :
  Ev g D sc σ (.Call (.Attribute o name apos) args kws pos) v ⟨os',σ₃.loc⟩:=fun A env ρ s he hr hs=>by
 show J6 _ _ (KP (.Call (.Attribute o name apos) args kws pos) env) _ _ _
 rw[eA h1 h5 h2 h3,aF h2,aO]
 refine J7 (ho.use he hr hs fun x s1 ρ1 rx st1 g1=>J7 (KT (J7 (KQ (hm A ρ1 s1 x _ _ _ rx st1.hr st1.k fun y tk ry=>?_)))))
 have st1':=st1.toks tk
 refine bd (bc (bM _) (bD h3) (ha.use he hr st1' fun xs s2 ρ2 rs st2 g2=>hk.use he hr st2 fun ys s3 ρ3 rys st₃ g3=>?_))
 refine kp A ρ3 s3 y _ _ ((ry.go g2).go g3) st₃.hr st₃.k fun k=>?_
 have z:=c ρ3 y xs ys ((ry.go g2).go g3) (rs.go g3) (by rw[(da h4).2];exact rys)
 rw[(da h4).1] at z
 rw[cV]
 exact z.use hr st₃ fun w s4 ρ4 rw st4 g4=>⟨ρ4,rw,st4,((g1.trans ((Go.toks ..).trans g2)).trans g3).trans g4⟩
theorem sT (w:J9):Cl (aa w) D (.top (.builtin "object.__new__")) [.top (.ref 731)] [] os (.ref (os.length + 1)) (madeO os 731):=fun ρ f xs ks hf hxs hks A s hr hh hK=>by
 obtain rfl:f=.builtin "object.__new__":=hf
 cases hks
 cases hxs with
 | cons r1 rs=>
  cases rs
  obtain rfl:=r1
  obtain⟨h,gn,dr,t,os_⟩:=s
  have hN:N0 <=h.objs.size:=aV hK
  have h1:HR w.params (ρ++[h.objs.size]) (os++[.dict [] 0]) (h.push LW):=HR.push hh (Km _) hN (fun b o e=>Ki _ e) (Ku _ rfl) ⟨#[],rfl,.nil,KY⟩
  have e1:(h.push LW).objs.size=h.objs.size + 1:=L6 ..
  have gx:((h.push LW).push (ML 731 h.objs.size)).get? (h.objs.size + 1)=some (ML 731 h.objs.size):=by rw[<- e1];exact Ku _ rfl
  have h2:HR w.params (ρ++[h.objs.size]++[h.objs.size + 1]) (madeO os 731) ((h.push LW).push (ML 731 h.objs.size)):=
   HR.push h1 (by rw[e1];exact Km _) (by rw[e1];lia) (fun b o e=>Ki _ e) gx
    ⟨h.objs.size,by rw[<- hh.len,KG,Ke (Km _),Lg];rfl,rfl⟩
  have at1:(ρ++[h.objs.size]++[h.objs.size + 1])[os.length + 1]?=some (h.objs.size + 1):=by
   rw[<- hh.len,Ke (by simp)]
   simp
  exact Ll (Ds hK ⟨_,⟨_,at1,rfl⟩,h2,ly _ _⟩)
theorem DQ (w:J9) (os:List O) (i j:Nat):Ev (aa w) 4 f0.scope ⟨os,lNw i j⟩ kU (.ref (os.length + 1)) ⟨madeO os 731,lNw i j⟩:=by
 rw[ym]
 exact Ev.methS (aC (X:=XU w 4 []) (v:=.top (.type "object")) (s:=⟨os,lNw i j⟩) ∅)
  (fun A ρ s x pl Q E hx hh hK q=>by
   obtain rfl:x=.type "object":=hx
   exact BU hK (q (.builtin "object.__new__") _ rfl))
  (bU.cons (aC (X:=XU w 4 []) (v:=.top (.ref 731)) (s:=⟨os,lNw i j⟩) ∅) bU.nil) dC.nil Kp.blt (sT w) ∅ ∅ rfl rfl ∅
theorem ak.isNotSelf:ak g D .IsNot (.top (.ref a)) (.top (.ref a)) os (.bool false) os:=fun ρ x y hx hy=>by
 obtain rfl:x=.ref a:=hx
 obtain rfl:y=.ref a:=hy
 exact Lf.tok fun A s _=>by
  show J6 _ _ (isSame (.ref a) (.ref a) >>=_) _ _ _
  refine J7 ?_
  unfold isSame
  dsimp only
  rw[if_pos (beq_self_eq_true a)]
  exact Kb (Kb ⟨rfl,s.toks,rfl⟩)
theorem ak.isNotCls {b:Kj} {u v:Kd} (ha:(g.K.lookup a).map (·.cls)=some u) (hb:(g.K.lookup b).map (·.cls)=some v) (hu:u≠.type "tuple") (ne:a≠b):ak g D .IsNot (.top (.ref a)) (.top (.ref b)) os (.bool true) os:=fun ρ x y hx hy=>by
 obtain rfl:x=.ref a:=hx
 obtain rfl:y=.ref b:=hy
 obtain⟨oa,ea,rfl⟩:=Option.map_eq_some_iff.mp ha
 obtain⟨ob,eb,_⟩:=Option.map_eq_some_iff.mp hb
 refine Lf.pure fun A s hr hh hK=>?_
 show J6 _ _ (isSame (.ref a) (.ref b) >>=_) _ _ _
 exact J7 (wpAny_isSame_ref_other ne (hK _ _ ea) (hK _ _ eb) hu (Kb ⟨rfl,rfl,rfl,rfl⟩))
theorem AW (P:K5):((KL P).lookup 731).map (·.cls)=some (.type "type")/\((KL P).lookup 484).map (·.cls)=some (.type "type"):=⟨∅,∅⟩
noncomputable def eR:Expr:=sN 0 (ah rT 0)
theorem yT:eR=.BoolOp .And [eN 0 eR,eN 1 eR] (eP eR):=∅
theorem vQ:eN 0 eR=.Compare (eN 0 (eN 0 eR)) [.IsNot] [eN 1 (eN 0 eR)] (eP (eN 0 eR)):=∅
theorem vD:eN 1 eR=.Compare (eN 0 (eN 1 eR)) [.IsNot] [eN 1 (eN 1 eR)] (eP (eN 1 eR)):=∅
theorem HN (w:J9) (os:List O) (i j:Nat):Tr (aa w) 4 f0.scope ⟨os,lNw i j⟩ eR false ⟨os,lNw i j⟩:=by
 rw[yT]
 refine Tr.boolop (bQ.andT (σ₁:=⟨os,lNw i j⟩) ?_ (bQ.andF ?_))
 .rw[vQ]
  exact Tr.cmp (aC (X:=XU w 4 []) (v:=.top (.ref 731)) (s:=⟨os,lNw i j⟩) ∅)
   (aC (X:=XU w 4 []) (v:=.top (.ref 484)) (s:=⟨os,lNw i j⟩) ∅) (ak.isNotCls (AW w.params).1 (AW w.params).2 nofun (by decide)) ∅
 .rw[vD]
  exact Tr.cmp (aC (X:=XU w 4 []) (v:=.top (.ref 731)) (s:=⟨os,lNw i j⟩) ∅)
   (aC (X:=XU w 4 []) (v:=.top (.ref 731)) (s:=⟨os,lNw i j⟩) ∅) ak.isNotSelf ∅
theorem new_run (w:J9) (os:List O) (i j:Nat):Exs (aa w) 4 f0.scope ⟨os,lNw i j⟩ rT (.ret (.ref (os.length + 1))) ⟨madeO os 731,lNw i j⟩:=
 bq (hk:={ t:=[(192,11,192,53,fun σ=>(false,σ))],e:=[(194,15,194,34,fun σ=>(.ref (σ.os.length + 1),⟨madeO σ.os 731,σ.loc⟩))] }) (X:=XU w 4 [])
  (c:=[.p (Tr (aa w) 4 f0.scope ⟨os,lNw i j⟩ eR false ⟨os,lNw i j⟩),.p (Ev (aa w) 4 f0.scope ⟨os,lNw i j⟩ kU (.ref (os.length + 1)) ⟨madeO os 731,lNw i j⟩)]) ∅ ⟨HN w os i j,DQ w os i j,trivial⟩
theorem Hl:∀c x,K2 f0 ⟨[c,x],[]⟩=(newTuple [x] >>=fun tt=>alloc { cls:=.type "dict",data:=.dict #[] } >>=fun d=>pure [(J8 "cls",c),(J8 "args",tt),(J8 "kwargs",.ref d)]):=fun c x=>∅
noncomputable def df (buf:Str) (p:Int):List (Str×V):=[("_StringIO__newline",.str "\n"),("_StringIO__buf",.str buf),("_StringIO__pos",.int p)]
structure SI (os:List O) (si di:Nat) (buf:Str) (p:Int):Prop where
 s:os[si]?=some (.inst 731 di)
 d:∃n,os[di]?=some (.dict (df buf p) n)
theorem jL:ow 731 "_StringIO__newline"=true/\ow 731 "_StringIO__buf"=true/\ow 731 "_StringIO__pos"=true:=⟨∅,∅,∅⟩
theorem xR:mt 731 "_StringIO__check"=some 515:=∅
theorem SI.gbuf (h:SI os si di buf p):aj (aa w) D (.ref si) "_StringIO__buf" os (.str buf) os:=by
 obtain⟨n,e⟩:=h.d
 exact aj.own (g:=aa w) h.s e rfl (bP w.params _ _ jL.2.1).1.1 (bP w.params _ _ jL.2.1).1.2 rfl
theorem SI.gpos (h:SI os si di buf p):aj (aa w) D (.ref si) "_StringIO__pos" os (.int p) os:=by
 obtain⟨n,e⟩:=h.d
 exact aj.own (g:=aa w) h.s e rfl (bP w.params _ _ jL.2.2).1.1 (bP w.params _ _ jL.2.2).1.2 rfl
theorem SI.mth (h:SI os si di buf p) {name:Str} {f:Kj} (hm:mt 731 name=some f) (hl:(df buf p).lookup name=none):an (aa w) (.ref si) name os (.top (.ref f)):=by
 obtain⟨n,e⟩:=h.d
 exact an.own (g:=aa w) h.s e hl (mt_ok w.params _ _ _ hm).1 (mt_ok w.params _ _ _ hm).2
theorem SI.setPos (h:SI os si di buf p) (e:os[di]?=some (.dict (df buf p) n)) (v:Int):az (aa w) D (.ref si) "_StringIO__pos" (.int v) os (os.set di (.dict (df buf v) n))/\SI (os.set di (.dict (df buf v) n)) si di buf v:=by
 have il:di < os.length:=(List.getElem?_eq_some_iff.mp e).1
 refine⟨az.own (g:=aa w) (v:=.int v) h.s e (bP w.params _ _ jL.2.2).2 (by simp[df]),⟨?_,_,aT il⟩⟩
 rw[ay (a9 h.s e nofun)]
 exact h.s
noncomputable def DV:List Kz:=(aM 24 3).2.1
noncomputable def r7:List Kz:=(aM 24 25).2.1
theorem tu (w:J9) (si:Nat) (b:Str) (os:List O) (h:aj (aa w) 0 (.ref si) "_StringIO__buf" os (.str b) os):Exs (aa w) 0 ny.scope ⟨os,[("self",.ref si)]⟩ DV .next ⟨os,[("self",.ref si)]⟩:=
 mV (X:=XU w 0 [("_StringIO__buf",.str b)]) (c:=[.p (aj (aa w) 0 (.ref si) "_StringIO__buf" os (.str b) os)]) ∅ ⟨h,trivial⟩
theorem Gj:∀x,K2 ny ⟨[x],[]⟩=pure [(J8 "self",x)]:=fun x=>∅
theorem oN (w:J9) (h:SI os si di buf p):Cl (aa w) 1 (.top (.ref 515)) [.ref si] [] os .none os:=
 Cl.def_ (Ej w) (bf.of1 Gj (a:=.ref si) (os:=os)) (fun x hx=>by
  simp only[Ka,Kf,or_false] at hx
  rcases hx with rfl
  exact .inl ∅) (KW.mpr ⟨Kf,KY⟩) (tu w si buf os h.gbuf) rfl ⟨nofun,nofun⟩
noncomputable def qi:V:=.top (.ref 197)
noncomputable def gq:V:=.top (.ref 515)
noncomputable def lQ:Str:="StringIO.read of a size that is no exact int"
noncomputable def qo (si:Nat):List (Str×V):=[("self",.ref si),("size",.int 1)]
noncomputable def lR2 (si:Nat) (p l:Int):List (Str×V):=[("self",.ref si),("size",.int 1),("start",.int p),("stop",.int l)]
theorem ux (w:J9) (si:Nat) (b:Str) (p l:Int) (os:List O) (h1:Cl (aa w) 1 qi [.int 1,.str lQ] [] os (.int 1) os) (h2:an (aa w) (.ref si) "_StringIO__check" os gq) (h3:Cl (aa w) 1 gq [.ref si] [] os .none os) (h4:aj (aa w) 1 (.ref si) "_StringIO__pos" os (.int p) os)
  (h5:aj (aa w) 1 (.ref si) "_StringIO__buf" os (.str b) os) (h6:Cl (aa w) 1 eO [.str b] [] os (.int l) os) (h7:decide (l <=p)=true) :
  Exs (aa w) 1 fD.scope ⟨os,qo si⟩ r7 (.ret (.str "")) ⟨os,lR2 si p l⟩:=
 iO (hk:={ m:=[(519,8,519,22,gq)],c:=[(518,15,518,75,fun _ _ os=>(.int 1,os)),(519,8,519,22,fun _ _ os=>(.none,os)),(521,15,521,30,fun _ _ os=>(.int l,os))] }) (X:=XU w 1 [("_StringIO__pos",.int p),("_StringIO__buf",.str b)]) (n:=14) (o:={ ts:=[(522,11,true)] })
  (c:=[.p (Cl (aa w) 1 qi [.int 1,.str lQ] [] os (.int 1) os),.p (an (aa w) (.ref si) "_StringIO__check" os gq),.p (Cl (aa w) 1 gq [.ref si] [] os .none os),.p (aj (aa w) 1 (.ref si) "_StringIO__pos" os (.int p) os),.p (aj (aa w) 1 (.ref si) "_StringIO__buf" os (.str b) os),.p (Cl (aa w) 1 eO [.str b] [] os (.int l) os),.b (decide (l <=p)) true]) ∅
  ⟨h1,h2,h3,h4,h5,h6,h7,trivial⟩
theorem t9 (w:J9) (si:Nat) (b:Str) (p l:Int) (os os1:List O) (h1:Cl (aa w) 1 qi [.int 1,.str lQ] [] os (.int 1) os) (h2:an (aa w) (.ref si) "_StringIO__check" os gq) (h3:Cl (aa w) 1 gq [.ref si] [] os .none os) (h4:aj (aa w) 1 (.ref si) "_StringIO__pos" os (.int p) os)
  (h5:aj (aa w) 1 (.ref si) "_StringIO__buf" os (.str b) os) (h6:Cl (aa w) 1 eO [.str b] [] os (.int l) os) (h7:decide (l <=p)=false) (h8:decide (p + 1 < l)=true) (h9:az (aa w) 1 (.ref si) "_StringIO__pos" (.int (p + 1)) os os1) (h10:aj (aa w) 1 (.ref si) "_StringIO__buf" os1 (.str b) os1) (hb:KS b.length Kg=true) :
  Exs (aa w) 1 fD.scope ⟨os,qo si⟩ r7 (.ret (.str (MV b (some p) (some (p + 1))))) ⟨os1,lR2 si p (p + 1)⟩:=
 iO (hk:={ m:=[(519,8,519,22,gq)],c:=[(518,15,518,75,fun _ _ os=>(.int 1,os)),(519,8,519,22,fun _ _ os=>(.none,os)),(521,15,521,30,fun _ _ os=>(.int l,os))] }) (X:={ XU w 1 [("_StringIO__pos",.int p),("_StringIO__buf",.str b)] with ys:=jv [("_StringIO__pos",fun _ _ _=>os1)] }) (n:=14) (o:={ ts:=[(522,11,false),(524,25,true)] })
  (c:=[.p (Cl (aa w) 1 qi [.int 1,.str lQ] [] os (.int 1) os),.p (an (aa w) (.ref si) "_StringIO__check" os gq),.p (Cl (aa w) 1 gq [.ref si] [] os .none os),.p (aj (aa w) 1 (.ref si) "_StringIO__pos" os (.int p) os),.p (aj (aa w) 1 (.ref si) "_StringIO__buf" os (.str b) os),.p (Cl (aa w) 1 eO [.str b] [] os (.int l) os),.b (decide (l <=p)) false,
   .b (decide (p + 1 < l)) true,.p (az (aa w) 1 (.ref si) "_StringIO__pos" (.int (p + 1)) os os1),.p (aj (aa w) 1 (.ref si) "_StringIO__buf" os1 (.str b) os1),.b (KS b.length Kg) true]) ∅
  ⟨h1,h2,h3,h4,h5,h6,h7,h8,h9,h10,hb,trivial⟩
theorem tv (w:J9) (si:Nat) (b:Str) (p l:Int) (os os1:List O) (h1:Cl (aa w) 1 qi [.int 1,.str lQ] [] os (.int 1) os) (h2:an (aa w) (.ref si) "_StringIO__check" os gq) (h3:Cl (aa w) 1 gq [.ref si] [] os .none os) (h4:aj (aa w) 1 (.ref si) "_StringIO__pos" os (.int p) os)
  (h5:aj (aa w) 1 (.ref si) "_StringIO__buf" os (.str b) os) (h6:Cl (aa w) 1 eO [.str b] [] os (.int l) os) (h7:decide (l <=p)=false) (h8:decide (p + 1 < l)=false) (h9:az (aa w) 1 (.ref si) "_StringIO__pos" (.int l) os os1) (h10:aj (aa w) 1 (.ref si) "_StringIO__buf" os1 (.str b) os1) (hb:KS b.length Kg=true) :
  Exs (aa w) 1 fD.scope ⟨os,qo si⟩ r7 (.ret (.str (MV b (some p) (some l)))) ⟨os1,lR2 si p l⟩:=
 iO (hk:={ m:=[(519,8,519,22,gq)],c:=[(518,15,518,75,fun _ _ os=>(.int 1,os)),(519,8,519,22,fun _ _ os=>(.none,os)),(521,15,521,30,fun _ _ os=>(.int l,os))] }) (X:={ XU w 1 [("_StringIO__pos",.int p),("_StringIO__buf",.str b)] with ys:=jv [("_StringIO__pos",fun _ _ _=>os1)] }) (n:=14) (o:={ ts:=[(522,11,false),(524,25,false)] })
  (c:=[.p (Cl (aa w) 1 qi [.int 1,.str lQ] [] os (.int 1) os),.p (an (aa w) (.ref si) "_StringIO__check" os gq),.p (Cl (aa w) 1 gq [.ref si] [] os .none os),.p (aj (aa w) 1 (.ref si) "_StringIO__pos" os (.int p) os),.p (aj (aa w) 1 (.ref si) "_StringIO__buf" os (.str b) os),.p (Cl (aa w) 1 eO [.str b] [] os (.int l) os),.b (decide (l <=p)) false,
   .b (decide (p + 1 < l)) false,.p (az (aa w) 1 (.ref si) "_StringIO__pos" (.int l) os os1),.p (aj (aa w) 1 (.ref si) "_StringIO__buf" os1 (.str b) os1),.b (KS b.length Kg) true]) ∅
  ⟨h1,h2,h3,h4,h5,h6,h7,h8,h9,h10,hb,trivial⟩
theorem HG:∀x y d,(fJ fD [x,y]).1 (some #[d])=pure [(J8 "self",x),(J8 "size",y)]:=fun x y d=>∅
theorem pB (w:J9):bf (aa w) D fD [.ref si,.int 1] [] os (qo si) os:=fun ρ xs ks hx hk=>by
 cases hk
 cases hx with
 | cons r rs=>
  cases rs with
  | cons r2 rs=>
   cases rs
   have ob':∃o n,(KL w.params).lookup 670=some o/\o.data=.seq #[.int (-1) 1166] n:=eD ∅
   obtain⟨o,n,ho,hs⟩:=ob'
   refine Lf.pure fun A s hr hh hK=>?_
   rw[show(KB (·.1) ([]:List (Str×V))).zip ([]:List Kd)=[] from rfl,(fJ fD [_,_]).2]
   refine J7 (Mu (hK _ _ ho) hs ?_)
   rw[HG]
   exact Kb ⟨.cons ⟨rfl,r⟩ (.cons ⟨rfl,r2⟩ .nil),rfl,rfl,rfl⟩
theorem rQ:([J8 "self",J8 "size"]:List Str).Nodup:=by decide +kernel
noncomputable def Dk:V:=.top (.ref 677)
theorem sj:∀x∈qo si,fD.scope.names.lookup x.1=some .local\/fD.scope.names.lookup x.1=some .cell:=fun x hx=>by
 simp only[qo,Ka,Kf,or_false] at hx
 rcases hx with rfl | rfl <;> exact .inl ∅
theorem zS (w:J9) {b:Str} (h:SI os si di b k) (e:os[di]?=some (.dict (df b (k:Int)) n)) (hb:b.length <=1000):∀c,b.cps[k]?=some c->Cl (aa w) 2 Dk [.ref si,.int 1] [] os (.str ⟨#[c]⟩) (os.set di (.dict (df b ((k + 1:Nat):Int)) n))/\SI (os.set di (.dict (df b ((k + 1:Nat):Int)) n)) si di b ((k + 1:Nat):Int):=fun c hc=>by
 have hk:k < b.length:=(Array.getElem?_eq_some_iff.mp hc).1
 obtain⟨sp,h'⟩:=h.setPos (w:=w) (D:=1) e ((k + 1:Nat):Int)
 have e1:((k + 1:Nat):Int)=(k:Int) + 1:=by lia
 have hbl:KS b.length Kg=true:=Nat.ble_eq_true_of_le (by rw[K4];lia)
 have hl:=Cl.lenS (g:=aa w) (D:=1) (a:=b) (os:=os) (by lia)
 have sl:MV b (some (k:Int)) (some ((k:Int) + 1))=⟨#[c]⟩:=by
  rw[MB (slice_one_closes (x:=b) (n:=(k:Int)) (by lia) (by lia))]
  congr 1
  rw[show((k:Int)).toNat=k by lia,Array.getD_eq_getD_getElem?,hc]
  rfl
 have ck:=oN w h
 have mc:=h.mth (w:=w) xR rfl
 refine⟨?_,h'⟩
 by_cases q:(k:Int) + 1 < b.length
 .have run:=t9 w si b k b.length os _ (kJ w lQ os) mc ck h.gpos h.gbuf hl (by simp;lia) (by simpa using q) (e1▸sp) (e1▸h'.gbuf) hbl
  rw[sl] at run
  have:=Cl.def_ (rp w) (pB w) sj rQ run rfl ⟨nofun,nofun⟩
  rw[e1]
  exact this
 .have e2:(b.length:Int)=(k:Int) + 1:=by lia
  have run:=tv w si b k b.length os _ (kJ w lQ os) mc ck h.gpos h.gbuf hl (by simp;lia) (by simpa using q) (by rw[e2];exact e1▸sp) (e1▸h'.gbuf) hbl
  rw[show MV b (some (k:Int)) (some (b.length:Int))=⟨#[c]⟩ by rw[e2];exact sl] at run
  have:=Cl.def_ (rp w) (pB w) sj rQ run rfl ⟨nofun,nofun⟩
  rw[e1]
  exact this
theorem wu (w:J9) {b:Str} (h:SI os si di b k) (hb:b.length <=1000) (hk:b.length <=k):Cl (aa w) 2 Dk [.ref si,.int 1] [] os (.str "") os:=by
 have hl:=Cl.lenS (g:=aa w) (D:=1) (a:=b) (os:=os) (by lia)
 have run:=ux w si b k b.length os (kJ w lQ os) (h.mth (w:=w) xR rfl) (oN w h) h.gpos h.gbuf hl (by simpa using hk)
 exact Cl.def_ (rp w) (pB w) sj rQ run rfl ⟨nofun,nofun⟩
noncomputable def xC:List Kz:=(aM 24 1).2.1
noncomputable def DG:List Kz:=(aM 24 2).2.1
noncomputable def bC (k:Nat):Expr:=sN 0 (ah xC k)
theorem yG:bC 0=.BoolOp .And [eN 0 (bC 0),eN 1 (bC 0)] (eP (bC 0)):=∅
theorem AC:bC 1=.BoolOp .And [eN 0 (bC 1),eN 1 (bC 1),eN 2 (bC 1),eN 3 (bC 1),eN 4 (bC 1)] (eP (bC 1)):=∅
theorem zI:bC 2=.BoolOp .And [eN 0 (bC 2),eN 1 (bC 2)] (eP (bC 2)):=∅
theorem wy:eN 1 (bC 0)=.Compare (eN 0 (eN 1 (bC 0))) [.IsNot] [eN 1 (eN 1 (bC 0))] (eP (eN 1 (bC 0))):=∅
theorem uV:eN 1 (bC 2)=.Compare (eN 0 (eN 1 (bC 2))) [.IsNot] [eN 1 (eN 1 (bC 2))] (eP (eN 1 (bC 2))):=∅
theorem wH:eN 1 (bC 1)=.Compare (eN 0 (eN 1 (bC 1))) [.NotEq] [eN 1 (eN 1 (bC 1))] (eP (eN 1 (bC 1))):=∅
theorem wE:eN 2 (bC 1)=.Compare (eN 0 (eN 2 (bC 1))) [.NotEq] [eN 1 (eN 2 (bC 1))] (eP (eN 2 (bC 1))):=∅
theorem Cl.typeS {a:Str}:Cl g D (.top (.type "type")) [.str a] [] os (.top (.type "str")) os:=fk fun ρ f y hf r=>by
 obtain rfl:f=.type "type":=hf
 obtain⟨t,rfl⟩:=r
 exact Lf.pure fun A s hr hh hK=>call_type_of (Tx:="str") (by rfl) (by decide +kernel) ⟨rfl,rfl,rfl,rfl⟩
theorem ak.isNotStr:ak g D .IsNot (.top (.type "str")) (.top (.type "str")) os (.bool false) os:=fun ρ x y hx hy=>by
 obtain rfl:x=.type "str":=hx
 obtain rfl:y=.type "str":=hy
 exact Lf.tok fun A s _=>by
  refine Kb ?_
  exact⟨rfl,s.toks,rfl⟩
noncomputable def lSi (s:Str):List (Str×V):=[("self",.ref 1),("initial_value",.str s),("newline",.str "\n")]
noncomputable def wd0:List O:=[.dict [] 0,.inst 731 0]
noncomputable def wd1:List O:=[.dict (df "" 0) 3,.inst 731 0]
noncomputable def wd2 (s:Str):List O:=[.dict (df s 0) 3,.inst 731 0]
section
variable (w:J9) (s:Str)
theorem G7:Tr (aa w) 3 dY.scope ⟨wd0,lSi s⟩ (bC 0) false ⟨wd0,lSi s⟩:=by
 rw[yG]
 refine Tr.boolop (bQ.andT (σ₁:=⟨wd0,lSi s⟩) (pA (X:=XU w 3 []) ∅) (bQ.andF ?_))
 rw[wy]
 exact Tr.cmp (dp (hk:={ c:=[(373,35,373,48,fun _ _ os=>(.top (.type "str"),os))] }) (X:=XU w 3 []) (c:=[.p (Cl (aa w) 3 (.top (.type "type")) [.str (J8 "\n")] [] wd0 (.top (.type "str")) wd0)]) (v:=.top (.type "str")) (s:=⟨wd0,lSi s⟩) ∅ ⟨Cl.typeS,trivial⟩)
  (aC (X:=XU w 3 []) (v:=.top (.type "str")) (s:=⟨wd0,lSi s⟩) ∅) ak.isNotStr ∅
theorem Hi:Tr (aa w) 3 dY.scope ⟨wd0,lSi s⟩ (bC 2) false ⟨wd0,lSi s⟩:=by
 rw[zI]
 refine Tr.boolop (bQ.andT (σ₁:=⟨wd0,lSi s⟩) (pA (X:=XU w 3 []) ∅) (bQ.andF ?_))
 rw[uV]
 exact Tr.cmp (dp (hk:={ c:=[(377,41,377,60,fun _ _ os=>(.top (.type "str"),os))] }) (X:=XU w 3 []) (c:=[.p (Cl (aa w) 3 (.top (.type "type")) [.str s] [] wd0 (.top (.type "str")) wd0)]) (v:=.top (.type "str")) (s:=⟨wd0,lSi s⟩) ∅ ⟨Cl.typeS,trivial⟩)
  (aC (X:=XU w 3 []) (v:=.top (.type "str")) (s:=⟨wd0,lSi s⟩) ∅) ak.isNotStr ∅
theorem Hs:Tr (aa w) 3 dY.scope ⟨wd0,lSi s⟩ (bC 1) false ⟨wd0,lSi s⟩:=by
 rw[AC]
 refine Tr.boolop (bQ.andT (σ₁:=⟨wd0,lSi s⟩) (pA (X:=XU w 3 []) ∅) (bQ.andT (σ₁:=⟨wd0,lSi s⟩) ?_ (bQ.andF ?_)))
 .rw[wH]
  exact Tr.cmp (aC (X:=XU w 3 []) (v:=.str "\n") (s:=⟨wd0,lSi s⟩) ∅)
   (aC (X:=XU w 3 []) (v:=.str "") (s:=⟨wd0,lSi s⟩) ∅) (ak.neS (a:="\n") (b:="")) ∅
 .rw[wE]
  exact Tr.cmp (aC (X:=XU w 3 []) (v:=.str "\n") (s:=⟨wd0,lSi s⟩) ∅)
   (aC (X:=XU w 3 []) (v:=.str "\n") (s:=⟨wd0,lSi s⟩) ∅) (ak.neS (a:="\n") (b:="\n")) ∅
noncomputable def Jm (s:Str):List (Str×V):=[("self",.ref 1),("s",.str s)]
theorem Gu:∀x y,K2 nI ⟨[x,y],[]⟩=pure [(J8 "self",x),(J8 "s",y)]:=fun x y=>∅
theorem nd_st:([J8 "self",J8 "s"]:List Str).Nodup:=by decide +kernel
theorem vG:Cl (aa w) 3 (.top (.ref 508)) [.ref 1,.str s] [] wd1 (.str s) wd1:=by
 have run:Exs (aa w) 2 nI.scope ⟨wd1,Jm s⟩ DG (.ret (.str s)) ⟨wd1,("self",.ref 1)::("s",.str s)::[(J8 "newline",.str "\n")]⟩:=
  jp (X:=XU w 2 []) ∅
 exact Cl.def_ (EP w) (bf.of2 Gu (a:=.ref 1) (b:=.str s) (os:=wd1)) (fun x hx=>by
  simp only[Ka,Kf,or_false] at hx
  rcases hx with rfl | rfl <;> exact .inl ∅) nd_st run rfl ⟨nofun,nofun⟩
theorem init_run:Exs (aa w) 3 dY.scope ⟨wd0,lSi s⟩ xC .next ⟨wd2 s,lSi s⟩:=
 bq (hk:={ t:=[(373,11,373,59,fun σ=>(false,σ)),(375,11,375,116,fun σ=>(false,σ)),(377,11,377,71,fun σ=>(false,σ))],c:=[(383,25,383,57,fun _ _ os=>(.str s,os))] }) (X:=XU w 3 [])
  (c:=[.p (Tr (aa w) 3 dY.scope ⟨wd0,lSi s⟩ (bC 0) false ⟨wd0,lSi s⟩),.p (Tr (aa w) 3 dY.scope ⟨wd0,lSi s⟩ (bC 1) false ⟨wd0,lSi s⟩),.p (Tr (aa w) 3 dY.scope ⟨wd0,lSi s⟩ (bC 2) false ⟨wd0,lSi s⟩),.b true true,.b true true,.b true true,.p (Cl (aa w) 3 (.top (.ref 508)) [.ref 1,.str s] [] wd1 (.str s) wd1),.b true true]) ∅
  ⟨G7 w s,Hs w s,Hi w s,rfl,rfl,rfl,vG w s,rfl,trivial⟩
theorem HV:∀x y d e,(fJ dY [x,y]).1 (some #[d,e])=pure [(J8 "self",x),(J8 "initial_value",y),(J8 "newline",e)]:=fun x y d e=>∅
end
noncomputable def ff:O:=.flds "collections.deque" [.none,.top (.int 0 0)]
noncomputable def ib:Obj:={ cls:=.type "collections.deque",data:=.fields #[.none,.int 0 0] }
theorem tZ:mroOf (.type "collections.deque")=pure [.type "collections.deque",.type "object"]:=by rw[mroOf_type];kernel_rfl
theorem nl:LS (.type "collections.deque") "__new__"=pure (some (.builtin "collections.deque.__new__")):=by rw[Ma,Ls];kernel_rfl
theorem oz:Slot "collections.deque" "__init__" "collections.deque.__init__":=
 .of (owner:="collections.deque") (n:="__init__") (by rw[Ma,Ls];kernel_rfl) (by decide +kernel) (by decide +kernel) (by decide +kernel)
  (by first | exact .inl (by decide +kernel) | exact .inr (by decide +kernel)) (by rw[Mn];kernel_rfl)
theorem fA:Slot "collections.deque" "__len__" "collections.deque.__len__":=
 .of (owner:="collections.deque") (n:="__len__") (by rw[Ma,Ls];kernel_rfl) (by decide +kernel) (by decide +kernel) (by decide +kernel)
  (by first | exact .inl (by decide +kernel) | exact .inr (by decide +kernel)) (by rw[Mn];kernel_rfl)
theorem t5:isSubtype (.type "collections.deque") (.type "collections.deque")=pure true:=by rw[Mn];kernel_rfl
theorem tc:TypeCalled "collections.deque" "collections.deque.__new__" "collections.deque.__init__":=
 ⟨by decide +kernel,by decide +kernel,⟨_,_,tZ⟩,madeBy_type tZ nl (by decide +kernel),by decide +kernel,t5,oz⟩
theorem pN:checkTypeCall "collections.deque" ⟨[],[]⟩=pure ():=∅
theorem rg:checkBuiltinCall "collections.deque.__new__" ⟨[.type "collections.deque"],[]⟩=pure ():=∅
theorem nV:entryFor table "collections.deque.__new__"=some Builtin.«collections.deque.__new__»:=M7 ∅
theorem nc:entryFor table "collections.deque.__init__"=some Builtin.«collections.deque.__init__»:=M7 ∅
theorem nU:entryFor table "collections.deque.__len__"=some Builtin.«collections.deque.__len__»:=M7 ∅
theorem jE:plainId "collections.deque.__new__"=true:=by decide +kernel
theorem mP:LS (.type "collections.deque") "__bool__"=pure none:=by rw[Ma,Ls];kernel_rfl
theorem p6 (v:Kd):argsOk "collections.deque.__len__" ⟨[v],[]⟩:=by unfold argsOk;kernel_rfl
theorem oK (v:Kd):argsOk "collections.deque.__init__" ⟨[v],[]⟩:=by unfold argsOk;kernel_rfl
theorem pR {Q₁:Kd->Kl->Prop} (h:Q₁ (.ref s.heap.objs.size) { s with heap:=s.heap.push ib }) :
  Ky (Kx prog w) A (.call (.builtin "collections.deque.__new__") ⟨[.type "collections.deque"],[]⟩) (wants Q₁ E) s:=by
 refine KV ?_
 show J6 _ A.in1 (do checkBuiltinCall "collections.deque.__new__" ⟨[.type "collections.deque"],[]⟩;again (.builtin "collections.deque.__new__" ⟨[.type "collections.deque"],[]⟩)) _ _ s
 refine J7 (Nb rg (Kb ⟨plainId_quiet jE _,Mh nV ?_⟩))
 rw[M3 jE _]
 unfold Builtin.«collections.deque.__new__» Builtin.Deque.newArgs Builtin.Deque.ty Builtin.Deque.new
 have hsub:=t5
 obtain⟨hp,g,d,tk,os⟩:=s
 dsimp only
 wp_walk
 exact h
theorem y3 (h:∀h',(∀b o,s.heap.get? b=some o->h'.get? b=some o)->h'.get? s.heap.objs.size=some ib->Q (.ref s.heap.objs.size) { s with heap:=h' }) :
  J6 (Kx prog w) A (call (.type "collections.deque") []) Q E s:=by
 refine callType_codes (Q₁:=fun obj s1=>obj=.ref s.heap.objs.size/\s1={ s with heap:=s.heap.push ib }) tc pN nc (pR ⟨rfl,rfl⟩) fun obj s1 h1=>?_
 obtain⟨rfl,rfl⟩:=h1
 have hS:(s.heap.push ib).get? s.heap.objs.size=some ib:=Ku _ rfl
 refine⟨⟨_,hS,rfl⟩,oK _,?_⟩
 unfold Builtin.«collections.deque.__init__» Builtin.Deque.clear Builtin.Deque.items
 have e2:((s.heap.push ib).update s.heap.objs.size (Mf (·.setIfInBounds 0 .none))).get? s.heap.objs.size=some ib:=by
  rw[Lr _ hS rfl];rfl
 obtain⟨hp,g,d,tk,os⟩:=s
 dsimp only
 wp_walk
 refine⟨rfl,h _ (fun b o e=>?_) e2⟩
 rw[LZ _ _ (Nat.ne_of_gt (KJ e))]
 exact Ki _ e
theorem pO (ho:s.heap.get? a=some ib) (h:∀tk,Q (.int 0 (tk + 1)) { s with toks:=tk + 1 + 1 }):J6 (Kx prog w) A (Builtin.«len» ⟨[.ref a],[]⟩) (fun fin s'=>∃r,fin=.done (.ret r)/\Q r s') E s:=by
 have hT:s.TypeIs (.ref a) "collections.deque":=⟨_,ho,rfl⟩
 unfold Builtin.«len»
 refine J7 (m:=oneArg "len" _) (Kb ?_)
 refine J7 (m:=callSpecial? (.ref a) (J8 "__len__")) (Nt (name:=J8 "__len__") hT fA
  (M6 fA hT nU ?_ (p6 _)))
 obtain⟨hp,g,d,tk,os⟩:=s
 unfold Builtin.«collections.deque.__len__» Builtin.Deque.size
 wp_walk
 refine⟨_,rfl,?_⟩
 refine J7 (KQ (Kb ?_))
 refine J7 (wpAny_letGo ?_)
 exact J7 (wpAny_mkInt (Kb ⟨_,rfl,h _⟩))
theorem th {Q:Bool->Kl->Prop} (ho:s.heap.get? a=some ib) (h:∀tk,Q false { s with toks:=tk }):J6 (Kx prog w) A (truthy (.ref a)) Q E s:=by
 have hT:s.TypeIs (.ref a) "collections.deque":=⟨_,ho,rfl⟩
 have key:J6 (Kx prog w) A (runValue (.builtin "len" ⟨[.ref a],[]⟩)) (fun r s'=>∃tk,r=.int 0 tk/\Q false s') E s:=by
  refine wpAny_runValue (Mh entry_len ?_)
  rw[M3 plain_len _]
  exact Kr (pO (Q:=fun r s'=>∃tk,r=.int 0 tk/\Q false s') ho fun tk=>⟨_,rfl,h _⟩)
   (fun fin s' h'=>by obtain⟨r,rfl,hq⟩:=h';exact hq) fun _ _ e=>e
 unfold truthy
 first
  | refine J7 (wpAny_callSpecial?_none (name:=J8 "__bool__") hT mP ?_)
  | refine J7 (Kb (J7 (wpAny_callSpecial?_none (name:=J8 "__bool__") hT mP ?_)))
 first
  | refine J7 (wpAny_specialOf (name:=J8 "__len__") hT fA.lookup ?_)
  | refine J7 (Kb (J7 (wpAny_specialOf (name:=J8 "__len__") hT fA.lookup ?_)))
 first
  | exact J7 (Kr key (fun r s' h'=>by obtain⟨tk,rfl,hq⟩:=h';exact Kb hq) fun _ _ e=>e)
  | exact J7 (Kb (J7 (Kr key (fun r s' h'=>by obtain⟨tk,rfl,hq⟩:=h';exact Kb hq) fun _ _ e=>e)))
theorem HR.dq {x:Kd} (hh:HR P ρ os h) (hi:os[i]?=some ff) (hx:RelV ρ (.ref i) x):∃a,x=.ref a/\ρ[i]?=some a/\h.get? a=some ib:=by
 obtain⟨a,ha,rfl⟩:=hx
 rcases hh.ob i _ a hi ha with q | ⟨ob,e,b,rfl,r⟩
 .cases q
 .refine⟨a,rfl,ha,?_⟩
  rw[e]
  obtain⟨l⟩:=b
  cases r with
  | cons r1 rs=>
   cases rs with
   | cons r2 rs=>
    cases rs
    obtain rfl:=r1
    obtain rfl:=r2
    rfl
theorem bV.dq (hi:os[i]?=some ff):bV g D (.ref i) os false os:=fun ρ x hx=>Lf.pure fun A s hr hh hK=>by
 obtain⟨a,rfl,ha,e⟩:=hh.dq hi hx
 exact th e fun tk=>⟨rfl,rfl,rfl,rfl⟩
theorem Cl.dq:Cl g D (.top (.type "collections.deque")) [] [] os (.ref os.length) (os++[ff]):=fun ρ f xs ks hf hxs hks A s hr hh hK=>by
 obtain rfl:f=.type "collections.deque":=hf
 cases hxs
 cases hks
 exact y3 fun h' k e=>rC (o:=ff) hh hK (fun b o e=>KJ e) k e ⟨_,rfl,.cons rfl (.cons rfl .nil)⟩
noncomputable def i8:List Kz:=(aM 34 6).2.1
noncomputable def cx:Kz:=ah i8 2
noncomputable def Bb (W:Str) (pb fs:V) (st:V) (tok:Str):List (Str×V):=[("instream",.ref 2),("infile",.none),("posix",.bool true),("eof",.none),("commenters",.str ""),("wordchars",.str W),("whitespace",.str " \t\r\n"),("whitespace_split",.bool true),("quotes",.str "'\""),("escape",.str "\\"),("escapedquotes",.str "\""),
 ("state",st),("pushback",pb),("lineno",.int 1),("debug",.int 0),("token",.str tok),("filestack",fs),("source",.none),("_punctuation_chars",.str "")]
noncomputable def lxO (W:Str) (pb fs:V) (n n2:Nat) (b:Str) (st:V) (tok:Str) (k:Nat):List O:=[.inst 866 1,.dict (Bb W pb fs st tok) n,.inst 731 3,.dict (df b (k:Int)) n2,ff,ff]
noncomputable def lRT (q:Bool) (tl:List (Str×V)):List (Str×V):=("self",.ref 0)::("quoted",.bool q)::("escapedstate",.str " ")::tl
noncomputable def dJ (w:J9) (os:List O):Prop:=aj (aa w) 3 (.ref 0) "punctuation_chars" os (.str "") os
noncomputable def dh (w:J9) (os os':List O) (c:Str):Prop:=Cl (aa w) 3 Dk [.ref 2,.int 1] [] os (.str c) os'
noncomputable def lnx (q:Bool) (c:Str):List (Str×V):=lRT q [("nextchar",.str c)]
theorem pv (w:J9) (W b y c0:Str) (pb fs:V) (n n2 k:Nat) (q:Bool) (c:Str) (hc:c="a"\/c="A"\/c="b"\/c="B"\/c="c"\/c="C") (h1:dJ w (lxO W pb fs n n2 b (.str "'") y k)) (h2:dh w (lxO W pb fs n n2 b (.str "'") y k) (lxO W pb fs n n2 b (.str "'") y (k + 1)) c) (h3:KS (y.length + 1) Kg=true) :
  Exs (aa w) 3 bp.scope ⟨lxO W pb fs n n2 b (.str "'") y k,lnx q c0⟩ (af cx) .next ⟨lxO W pb fs n n2 b (.str "'") (y++c) (k + 1),lnx true c⟩:=by
 refine iO (hk:={ c:=[(743,27,743,48,fun _ _ os=>(.str c,lxO W pb fs n n2 b (.str "'") y (k + 1)))] }) (X:=XU w 3 [("punctuation_chars",.str "")]) (n:=48) (o:={})
  (c:=[.p (dJ w (lxO W pb fs n n2 b (.str "'") y k)),.b true true,.p (dh w (lxO W pb fs n n2 b (.str "'") y k) (lxO W pb fs n n2 b (.str "'") y (k + 1)) c),.b true true,.b (KS (y.length + 1) Kg) true,.b true true]) ?_ ⟨h1,rfl,h2,rfl,h3,rfl,trivial⟩
 rcases hc with rfl | rfl | rfl | rfl | rfl | rfl <;> kernel_rfl
theorem xM (w:J9) (W b y c0:Str) (pb fs:V) (n n2 k:Nat) (q:Bool) (h1:dJ w (lxO W pb fs n n2 b (.str "'") y k)) (h2:dh w (lxO W pb fs n n2 b (.str "'") y k) (lxO W pb fs n n2 b (.str "'") y (k + 1)) "'") :
  Exs (aa w) 3 bp.scope ⟨lxO W pb fs n n2 b (.str "'") y k,lnx q c0⟩ (af cx) .next ⟨lxO W pb fs n n2 b (.str "a") y (k + 1),lnx true "'"⟩:=
 bq (hk:={ c:=[(743,27,743,48,fun _ _ os=>(.str "'",lxO W pb fs n n2 b (.str "'") y (k + 1)))] }) (X:=XU w 3 [("punctuation_chars",.str "")])
  (c:=[.p (dJ w (lxO W pb fs n n2 b (.str "'") y k)),.b true true,.p (dh w (lxO W pb fs n n2 b (.str "'") y k) (lxO W pb fs n n2 b (.str "'") y (k + 1)) "'"),.b true true,.b true true]) ∅ ⟨h1,rfl,h2,rfl,rfl,trivial⟩
theorem DM (w:J9) (W b y c0:Str) (pb fs:V) (n n2 k:Nat) (q:Bool) (h1:dJ w (lxO W pb fs n n2 b (.str "\"") y k)) (h2:dh w (lxO W pb fs n n2 b (.str "\"") y k) (lxO W pb fs n n2 b (.str "\"") y (k + 1)) "'") (h3:KS (y.length + 1) Kg=true) :
  Exs (aa w) 3 bp.scope ⟨lxO W pb fs n n2 b (.str "\"") y k,lnx q c0⟩ (af cx) .next ⟨lxO W pb fs n n2 b (.str "\"") (y++"'") (k + 1),lnx true "'"⟩:=
 bq (hk:={ c:=[(743,27,743,48,fun _ _ os=>(.str "'",lxO W pb fs n n2 b (.str "\"") y (k + 1)))] }) (X:=XU w 3 [("punctuation_chars",.str "")])
  (c:=[.p (dJ w (lxO W pb fs n n2 b (.str "\"") y k)),.b true true,.p (dh w (lxO W pb fs n n2 b (.str "\"") y k) (lxO W pb fs n n2 b (.str "\"") y (k + 1)) "'"),.b true true,.b (KS (y.length + 1) Kg) true,.b true true]) ∅ ⟨h1,rfl,h2,rfl,h3,rfl,trivial⟩
theorem Fy (w:J9) (W b y c0:Str) (pb fs:V) (n n2 k:Nat) (q:Bool) (h1:dJ w (lxO W pb fs n n2 b (.str "\"") y k)) (h2:dh w (lxO W pb fs n n2 b (.str "\"") y k) (lxO W pb fs n n2 b (.str "\"") y (k + 1)) "\"") :
  Exs (aa w) 3 bp.scope ⟨lxO W pb fs n n2 b (.str "\"") y k,lnx q c0⟩ (af cx) .next ⟨lxO W pb fs n n2 b (.str "a") y (k + 1),lnx true "\""⟩:=
 bq (hk:={ c:=[(743,27,743,48,fun _ _ os=>(.str "\"",lxO W pb fs n n2 b (.str "\"") y (k + 1)))] }) (X:=XU w 3 [("punctuation_chars",.str "")])
  (c:=[.p (dJ w (lxO W pb fs n n2 b (.str "\"") y k)),.b true true,.p (dh w (lxO W pb fs n n2 b (.str "\"") y k) (lxO W pb fs n n2 b (.str "\"") y (k + 1)) "\""),.b true true,.b true true]) ∅ ⟨h1,rfl,h2,rfl,rfl,trivial⟩
noncomputable def sI:Expr:=sN 0 (ah (bz (ah (bz (ah (bz (ah (bz (ah (af cx) 3)) 0)) 0)) 0)) 0)
noncomputable def kh (w:J9) (os:List O) (loc:List (Str×V)):Prop:=Tr (aa w) 3 bp.scope ⟨os,loc⟩ sI true ⟨os,loc⟩
theorem Fl (w:J9) (W b y c0:Str) (pb fs:V) (n n2 k:Nat) (q:Bool) (h1:dJ w (lxO W pb fs n n2 b (.str "a") y k)) (h2:dh w (lxO W pb fs n n2 b (.str "a") y k) (lxO W pb fs n n2 b (.str "a") y (k + 1)) "\"") (h3:kh w (lxO W pb fs n n2 b (.str "a") y (k + 1)) (lnx q "\"")) :
  Exs (aa w) 3 bp.scope ⟨lxO W pb fs n n2 b (.str "a") y k,lnx q c0⟩ (af cx) .next ⟨lxO W pb fs n n2 b (.str "\"") y (k + 1),lnx q "\""⟩:=
 bq (hk:={ t:=[(814,17,814,41,fun σ=>(true,σ))],c:=[(743,27,743,48,fun _ _ os=>(.str "\"",lxO W pb fs n n2 b (.str "a") y (k + 1)))] }) (X:=XU w 3 [("punctuation_chars",.str "")])
  (c:=[.p (dJ w (lxO W pb fs n n2 b (.str "a") y k)),.b true true,.p (dh w (lxO W pb fs n n2 b (.str "a") y k) (lxO W pb fs n n2 b (.str "a") y (k + 1)) "\""),.p (kh w (lxO W pb fs n n2 b (.str "a") y (k + 1)) (lnx q "\"")),.b true true,.b true true]) ∅ ⟨h1,rfl,h2,h3,rfl,rfl,trivial⟩
theorem Dw (w:J9) (W b y c0:Str) (pb fs:V) (n n2 k:Nat) (q:Bool) (h1:dJ w (lxO W pb fs n n2 b (.str "a") y k)) (h2:dh w (lxO W pb fs n n2 b (.str "a") y k) (lxO W pb fs n n2 b (.str "a") y (k + 1)) "'") (h3:kh w (lxO W pb fs n n2 b (.str "a") y (k + 1)) (lnx q "'")) :
  Exs (aa w) 3 bp.scope ⟨lxO W pb fs n n2 b (.str "a") y k,lnx q c0⟩ (af cx) .next ⟨lxO W pb fs n n2 b (.str "'") y (k + 1),lnx q "'"⟩:=
 bq (hk:={ t:=[(814,17,814,41,fun σ=>(true,σ))],c:=[(743,27,743,48,fun _ _ os=>(.str "'",lxO W pb fs n n2 b (.str "a") y (k + 1)))] }) (X:=XU w 3 [("punctuation_chars",.str "")])
  (c:=[.p (dJ w (lxO W pb fs n n2 b (.str "a") y k)),.b true true,.p (dh w (lxO W pb fs n n2 b (.str "a") y k) (lxO W pb fs n n2 b (.str "a") y (k + 1)) "'"),.p (kh w (lxO W pb fs n n2 b (.str "a") y (k + 1)) (lnx q "'")),.b true true,.b true true]) ∅ ⟨h1,rfl,h2,h3,rfl,rfl,trivial⟩
theorem ak.inT {a:V} {xs:List V} {r:Bool} (hi:os[i]?=some (.tuple xs)) (h:ll a xs=some r):ak g D .In a (.ref i) os (.bool r) os:=fun ρ x y hx hy=>Lf.pure fun A s hr hh hk=>by
 obtain⟨p,vs,m,rfl,hp,e1,r1⟩:=hh.tuple hi hy
 obtain⟨e,q1,q2⟩:=nW hx h r1
 refine SeqRoads2.in_tuple e (fun y hy=>q1 y (Array.mem_toList_iff.mpr hy)) e1 ⟨?_,rfl,rfl,rfl⟩
 show NL _=NL r
 rw[<- NG,q2]
theorem B0:sI=.Compare (eN 0 sI) [.In] [eN 1 sI] (eP sI):=∅
theorem nY (w:J9) (W b y:Str) (pb fs:V) (n n2 k:Nat) (q:Bool) (c:Str) (hp:bi 6 pb=true) (hf:bi 6 fs=true):kh w (lxO W pb fs n n2 b (.str "a") y k) (lnx q c):=by
 unfold kh
 refine Tr.drop (μ:=[.tuple [.str "a",.str "c"]]) ?_ (fun p hp=>?_)
 .rw[B0]
  exact Tr.cmp (aC (X:=XU w 3 []) (v:=.str "a") (s:=⟨lxO W pb fs n n2 b (.str "a") y k,lnx q c⟩) ∅)
   (pm (X:=XU w 3 []) (c:=[.b (KS 2 Kg) true]) (v:=.ref 6) (s:=⟨lxO W pb fs n n2 b (.str "a") y k++[.tuple [.str "a",.str "c"]],lnx q c⟩) ∅ ⟨by show KS 2 Kg=true;kernel_rfl,trivial⟩)
   (ak.inT (xs:=[.str "a",.str "c"]) rfl ∅) ∅
 .simp only[lnx,lRT,Ka,Kf,or_false] at hp
  rcases hp with rfl | rfl | rfl | rfl <;> rfl
noncomputable def ue:Expr:=sN 0 (ah (af (ah (bz (ah (af (ah (bz (ah (bz (ah (bz (ah (bz (ah (af cx) 3)) 0)) 0)) 0)) 0)) 0)) 0)) 2)
noncomputable def xV (w:J9) (os:List O) (loc:List (Str×V)):Prop:=Tr (aa w) 3 bp.scope ⟨os,loc⟩ ue true ⟨os,loc⟩
theorem EI (w:J9) (W b y c0:Str) (pb fs:V) (n n2 k:Nat) (q:Bool) (h1:dJ w (lxO W pb fs n n2 b (.str "a") y k)) (h2:dh w (lxO W pb fs n n2 b (.str "a") y k) (lxO W pb fs n n2 b (.str "a") y (k + 1)) " ") (h3:kh w (lxO W pb fs n n2 b (.str "a") y (k + 1)) (lnx q " ")) (h4:xV w (lxO W pb fs n n2 b (.str " ") y (k + 1)) (lnx q " ")) :
  Exs (aa w) 3 bp.scope ⟨lxO W pb fs n n2 b (.str "a") y k,lnx q c0⟩ (af cx) .brk ⟨lxO W pb fs n n2 b (.str " ") y (k + 1),lnx q " "⟩:=
 bq (hk:={ t:=[(814,17,814,41,fun σ=>(true,σ)),(822,23,822,60,fun σ=>(true,σ))],c:=[(743,27,743,48,fun _ _ os=>(.str " ",lxO W pb fs n n2 b (.str "a") y (k + 1)))] }) (X:=XU w 3 [("punctuation_chars",.str "")])
  (c:=[.p (dJ w (lxO W pb fs n n2 b (.str "a") y k)),.b true true,.p (dh w (lxO W pb fs n n2 b (.str "a") y k) (lxO W pb fs n n2 b (.str "a") y (k + 1)) " "),.p (kh w (lxO W pb fs n n2 b (.str "a") y (k + 1)) (lnx q " ")),.b true true,.b true true,.p (xV w (lxO W pb fs n n2 b (.str " ") y (k + 1)) (lnx q " "))]) ∅ ⟨h1,rfl,h2,h3,rfl,rfl,h4,trivial⟩
theorem E2 (w:J9) (W b y c0:Str) (pb fs:V) (n n2 k:Nat) (q:Bool) (h1:dJ w (lxO W pb fs n n2 b (.str "a") y k)) (h2:dh w (lxO W pb fs n n2 b (.str "a") y k) (lxO W pb fs n n2 b (.str "a") y k) "") (h3:kh w (lxO W pb fs n n2 b (.str "a") y k) (lnx q "")) :
  Exs (aa w) 3 bp.scope ⟨lxO W pb fs n n2 b (.str "a") y k,lnx q c0⟩ (af cx) .brk ⟨lxO W pb fs n n2 b .none y k,lnx q ""⟩:=
 bq (hk:={ t:=[(814,17,814,41,fun σ=>(true,σ))],c:=[(743,27,743,48,fun _ _ os=>(.str "",lxO W pb fs n n2 b (.str "a") y k))] }) (X:=XU w 3 [("punctuation_chars",.str "")])
  (c:=[.p (dJ w (lxO W pb fs n n2 b (.str "a") y k)),.b true true,.p (dh w (lxO W pb fs n n2 b (.str "a") y k) (lxO W pb fs n n2 b (.str "a") y k) ""),.p (kh w (lxO W pb fs n n2 b (.str "a") y k) (lnx q "")),.b true true,.b true true]) ∅ ⟨h1,rfl,h2,h3,rfl,rfl,trivial⟩
theorem Fc (w:J9) (W b y:Str) (pb fs:V) (n n2 k:Nat) (h1:dJ w (lxO W pb fs n n2 b .none y k)) (h2:dh w (lxO W pb fs n n2 b .none y k) (lxO W pb fs n n2 b .none y k) "") :
  Exs (aa w) 3 bp.scope ⟨lxO W pb fs n n2 b .none y k,lRT false []⟩ (af cx) .brk ⟨lxO W pb fs n n2 b .none "" k,lnx false ""⟩:=
 bq (hk:={ c:=[(743,27,743,48,fun _ _ os=>(.str "",lxO W pb fs n n2 b .none y k))] }) (X:=XU w 3 [("punctuation_chars",.str "")])
  (c:=[.p (dJ w (lxO W pb fs n n2 b .none y k)),.b true true,.p (dh w (lxO W pb fs n n2 b .none y k) (lxO W pb fs n n2 b .none y k) ""),.b true true]) ∅ ⟨h1,rfl,h2,rfl,trivial⟩
noncomputable def EY:Kz:=ah (bz (ah (af cx) 3)) 0
noncomputable def pa:Expr:=sN 0 (ah (bz (ah (bz (ah (bz (ah (bz (ah (af EY) 0)) 0)) 0)) 0)) 0)
theorem y7:pa=.Compare (eN 0 pa) [.In] [eN 1 pa] (eP pa):=∅
noncomputable def qX (w:J9) (os:List O) (loc:List (Str×V)):Prop:=Tr (aa w) 3 bp.scope ⟨os,loc⟩ pa false ⟨os,loc⟩
theorem yC (w:J9) (W b y:Str) (pb fs:V) (n n2 k:Nat) (q:Bool) (h:My W "'"=false):qX w (lxO W pb fs n n2 b (.str " ") y k) (lnx q "'"):=by
 unfold qX
 rw[y7,<- h]
 exact Tr.cmp (aC (X:=XU w 3 []) (v:=.str "'") (s:=⟨lxO W pb fs n n2 b (.str " ") y k,lnx q "'"⟩) ∅)
   (aC (X:=XU w 3 []) (v:=.str W) (s:=⟨lxO W pb fs n n2 b (.str " ") y k,lnx q "'"⟩) ∅) ak.inS ∅
theorem Es (w:J9) (W b y:Str) (pb fs:V) (n n2 k:Nat) (q:Bool) (h1:dJ w (lxO W pb fs n n2 b (.str " ") y k)) (h2:dh w (lxO W pb fs n n2 b (.str " ") y k) (lxO W pb fs n n2 b (.str " ") y (k + 1)) "'") (h3:qX w (lxO W pb fs n n2 b (.str " ") y (k + 1)) (lnx q "'")) (h4:dJ w (lxO W pb fs n n2 b (.str " ") y (k + 1))) :
  Exs (aa w) 3 bp.scope ⟨lxO W pb fs n n2 b (.str " ") y k,lRT q []⟩ (af cx) .next ⟨lxO W pb fs n n2 b (.str "'") y (k + 1),lnx q "'"⟩:=
 bq (hk:={ t:=[(768,21,768,47,fun σ=>(false,σ))],c:=[(743,27,743,48,fun _ _ os=>(.str "'",lxO W pb fs n n2 b (.str " ") y (k + 1)))] }) (X:=XU w 3 [("punctuation_chars",.str "")])
  (c:=[.p (dJ w (lxO W pb fs n n2 b (.str " ") y k)),.b true true,.p (dh w (lxO W pb fs n n2 b (.str " ") y k) (lxO W pb fs n n2 b (.str " ") y (k + 1)) "'"),.b true true,.p (qX w (lxO W pb fs n n2 b (.str " ") y (k + 1)) (lnx q "'")),.p (dJ w (lxO W pb fs n n2 b (.str " ") y (k + 1))),.b true true]) ∅ ⟨h1,rfl,h2,rfl,h3,h4,rfl,trivial⟩
theorem Ct:ue=.BoolOp .Or [eN 0 ue,eN 1 ue] (eP ue):=∅
theorem BW (w:J9) (W b y:Str) (pb fs:V) (n n2 k:Nat) (q:Bool) (c:Str) (hy:bV (aa w) 3 (.str y) (lxO W pb fs n n2 b (.str " ") y k) true (lxO W pb fs n n2 b (.str " ") y k)):xV w (lxO W pb fs n n2 b (.str " ") y k) (lnx q c):=by
 unfold xV
 rw[Ct]
 refine Tr.boolop (bQ.orT ?_)
 exact Tr.val (aC (X:=XU w 3 []) (v:=.str y) (s:=⟨lxO W pb fs n n2 b (.str " ") y k,lnx q c⟩) ∅) hy ∅
noncomputable def lrs (q:Bool) (c:Str) (v:V):List (Str×V):=lRT q [("nextchar",.str c),("result",v)]
theorem mI (w:J9) (W b y c:Str) (pb fs st:V) (n n2 k:Nat):Exs (aa w) 3 bp.scope ⟨lxO W pb fs n n2 b st y k,lnx true c⟩ (i8.drop 3) (.ret (.str y)) ⟨lxO W pb fs n n2 b st "" k,lrs true c (.str y)⟩:=
 mV (X:=XU w 3 []) (c:=[.b true true]) ∅ ⟨rfl,trivial⟩
theorem sV (w:J9) (W b c:Str) (pb fs st:V) (n n2 k:Nat):Exs (aa w) 3 bp.scope ⟨lxO W pb fs n n2 b st "" k,lnx false c⟩ (i8.drop 3) (.ret .none) ⟨lxO W pb fs n n2 b st "" k,lrs false c .none⟩:=
 mV (X:=XU w 3 []) (c:=[.b true true]) ∅ ⟨rfl,trivial⟩
theorem kP:i8=i8.take 2++(cx::i8.drop 3):=∅
theorem n5:cx=.While (sN 0 cx) (af cx) [] (sP cx):=∅
theorem kL (w:J9) (os:List O):Exs (aa w) 3 bp.scope ⟨os,[("self",.ref 0)]⟩ (i8.take 2) .next ⟨os,lRT false []⟩:=
 jp (X:=XU w 3 []) ∅
theorem cf (w:J9) (σ:S):Tr (aa w) 3 bp.scope σ (sN 0 cx) true σ:=pA (X:=X0 w 3 aq) ∅
theorem wR:∀x,K2 bp ⟨[x],[]⟩=pure [(J8 "self",x)]:=fun x=>∅
theorem iE (w:J9) (W b y:Str) (pb fs st:V) (n n2 k:Nat) (hb:b.length <=1000) {c:Nat} (hc:b.cps[k]?=some c):dh w (lxO W pb fs n n2 b st y k) (lxO W pb fs n n2 b st y (k + 1)) ⟨#[c]⟩:=by
 have h:SI (lxO W pb fs n n2 b st y k) 2 3 b k:=⟨rfl,n2,rfl⟩
 exact(zS w h (n:=n2) rfl hb c hc).1.up (by decide)
theorem lI (w:J9) (W b y:Str) (pb fs st:V) (n n2 k:Nat) (hb:b.length <=1000) (hk:b.length <=k):dh w (lxO W pb fs n n2 b st y k) (lxO W pb fs n n2 b st y k) "":=by
 have h:SI (lxO W pb fs n n2 b st y k) 2 3 b k:=⟨rfl,n2,rfl⟩
 exact(wu w h hb hk).up (by decide)
noncomputable def pK (K:Frag) (C:Kj) (name:Str) (p f:Kj):Bool:=plainGet K C name&&isClsIn K C&&MW K (.ref p) "__get__"==some (some (.builtin "property.__get__"))&&takesIn K (.ref p)==some true&&LG K (.ref C) name==some (some (.ref p))&&(recIn K p "property").any fun l=>l.head?==some (.ref f)
theorem aj.prop {p f:Kj} {name:Str} (hi:os[i]?=some (.inst C d)) (hd:os[d]?=some (.dict es n)) (h1:pK g.K C name p f=true) (h3:gd v=true)
  (co:Co g D (.top (.ref f)) [.ref i] [] os v os'):aj g (D + 1) (.ref i) name os v os':=fun ρ x hx A s hr hh hk=>by
 obtain⟨a,b,en,rfl,_,_,I,hO'⟩:=hh.inst hi hd hx
 obtain⟨_,r,_⟩:=hO'
 obtain⟨h1,q6⟩:=Bool.and_eq_true_iff.mp h1
 obtain⟨h1,q5⟩:=Bool.and_eq_true_iff.mp h1
 obtain⟨h1,q4⟩:=Bool.and_eq_true_iff.mp h1
 obtain⟨h1,q3⟩:=Bool.and_eq_true_iff.mp h1
 obtain⟨q1,q2⟩:=Bool.and_eq_true_iff.mp h1
 obtain⟨l,hrec,q6⟩:=bh q6
 cases l with
 | nil=>cases beq_iff_eq.mp q6
 | cons u rest=>
  cases beq_iff_eq.mp q6
  refine get_bind hk I (plainGet_of q1).1 (findObj_data q2 (beq_iff_eq.mp q5) (beq_iff_eq.mp q3) (beq_iff_eq.mp q4)) (plainGet_of q1).2 (Ll (prop_get (s:={ s with toks:=s.toks + 1 }) hk hrec (co ρ (.ref f) [.ref a] [] rfl (.cons hx .nil) .nil A.in1 { s with toks:=s.toks + 1 } _ hr.in1 hh hk fun z s' ρ' h1 h2 h3'=>handed_on (handed_rel h3 h1) ⟨ρ',h1,h2,?_⟩)))
  exact⟨h3'.pre,h3'.kept,h3'.alive,h3'.gens,h3'.os⟩
theorem Ee (P:K5):pK (KL P) 866 "punctuation_chars" 798 797=true:=∅
noncomputable def Ew:List Kz:=(aM 34 1).2.1
theorem Ig:∀x,K2 nu ⟨[x],[]⟩=pure [(J8 "self",x)]:=fun x=>∅
theorem AT (w:J9) (W b y:Str) (pb fs st:V) (n n2 k:Nat):Exs (aa w) 1 nu.scope ⟨lxO W pb fs n n2 b st y k,[("self",.ref 0)]⟩ Ew (.ret (.str "")) ⟨lxO W pb fs n n2 b st y k,[("self",.ref 0)]⟩:=
 jp (X:=XU w 1 []) ∅
theorem nG (w:J9) (W b y:Str) (pb fs st:V) (n n2 k:Nat):dJ w (lxO W pb fs n n2 b st y k):=by
 have co:=Co.def_ (Fa w) (bf.of1 Ig (a:=.ref 0) (os:=lxO W pb fs n n2 b st y k)) (fun x hx=>by
  simp only[Ka,Kf,or_false] at hx
  rcases hx with rfl
  exact .inl ∅) (KW.mpr ⟨Kf,KY⟩) (AT w W b y pb fs st n n2 k) rfl ⟨nofun,nofun⟩
 exact aj.prop (g:=aa w) (D:=2) (d:=1) rfl rfl (Ee w.params) rfl co
noncomputable def At (b:Str) (k m:Nat):Prop:=∀j,j < 10->b.cps[k + j]?=(aI m).cps[j]?
noncomputable def l1 (m:Nat):Nat:=if m % 2==0 then 97 else 65
noncomputable def l2 (m:Nat):Nat:=if m / 2 % 2==0 then 98 else 66
noncomputable def l3 (m:Nat):Nat:=if m / 4==0 then 99 else 67
theorem Ic (m:Nat):(⟨#[l1 m]⟩:Str)="a"\/(⟨#[l1 m]⟩:Str)="A":=by
 unfold l1
 split
 .exact .inl (by decide)
 .exact .inr (by decide)
theorem Ih (m:Nat):(⟨#[l2 m]⟩:Str)="b"\/(⟨#[l2 m]⟩:Str)="B":=by
 unfold l2
 split
 .exact .inl (by decide)
 .exact .inr (by decide)
theorem GV (m:Nat):(⟨#[l3 m]⟩:Str)="c"\/(⟨#[l3 m]⟩:Str)="C":=by
 unfold l3
 split
 .exact .inl (by decide)
 .exact .inr (by decide)
noncomputable def iR (m:Nat):Str:=((((J8 "")++(⟨#[l1 m]⟩:Str))++(J8 "'"))++(⟨#[l2 m]⟩:Str))++(⟨#[l3 m]⟩:Str)
theorem HQ:(⟨#[39]⟩:Str)="'":=by decide
theorem GK:(⟨#[34]⟩:Str)="\"":=by decide
theorem kW (w:J9) (W b:Str) (pb fs:V) (n n2 k m:Nat) (hb:b.length <=1000) (hW:My W "'"=false) (hp:bi 6 pb=true) (hf:bi 6 fs=true) (hA:At b k m)
  (hfin:dN (aa w) 3 bp.scope (sN 0 cx) (af cx) [] .next σe ⟨lxO W pb fs n n2 b (.str "a") (iR m) (k + 10),lnx true "'"⟩) :
  dN (aa w) 3 bp.scope (sN 0 cx) (af cx) [] .next σe ⟨lxO W pb fs n n2 b (.str " ") "" k,lRT false []⟩:=by
 have at_:∀j c,j < 10->(aI m).cps[j]?=some c->b.cps[k + j]?=some c:=fun j c h e=>(hA j h).trans e
 have pc:=fun y st k=>nG w W b y pb fs st n n2 k
 have q:∀j y st,j < 10->(aI m).cps[j]?=some 39->dh w (lxO W pb fs n n2 b st y (k + j)) (lxO W pb fs n n2 b st y (k + j + 1)) "'":=fun j y st h e=>HQ▸iE w W b y pb fs st n n2 (k + j) hb (at_ j 39 h e)
 have dq:∀j y st,j < 10->(aI m).cps[j]?=some 34->dh w (lxO W pb fs n n2 b st y (k + j)) (lxO W pb fs n n2 b st y (k + j + 1)) "\"":=fun j y st h e=>GK▸iE w W b y pb fs st n n2 (k + j) hb (at_ j 34 h e)
 have tA:=fun y k q c=>nY w W b y pb fs n n2 k q c hp hf
 have e4:∀x:Nat,(⟨#[x]⟩:Str).length=1:=fun _=>rfl
 have ln:∀y:Str,y.length <=100->KS (y.length + 1) Kg=true:=fun y h=>Nat.ble_eq_true_of_le (by rw[K4];lia)
 refine .turn (cf w _) (Es w W b _ pb fs n n2 k false (pc _ _ _) (q 0 _ _ (by decide) rfl) (yC w W b _ pb fs n n2 _ _ hW) (pc _ _ _)) (.inl rfl) ?_
 refine .turn (cf w _) (pv w W b _ _ pb fs n n2 (k + 1) _ ⟨#[l1 m]⟩ ((Ic m).elim .inl fun h=>.inr (.inl h)) (pc _ _ _) (iE w W b _ pb fs _ n n2 (k + 1) hb (at_ 1 (l1 m) (by decide) rfl)) (ln _ (by decide))) (.inl rfl) ?_
 refine .turn (cf w _) (xM w W b _ _ pb fs n n2 (k + 2) _ (pc _ _ _) (q 2 _ _ (by decide) rfl)) (.inl rfl) ?_
 refine .turn (cf w _) (Fl w W b _ _ pb fs n n2 (k + 3) _ (pc _ _ _) (dq 3 _ _ (by decide) rfl) (tA _ _ _ _)) (.inl rfl) ?_
 refine .turn (cf w _) (DM w W b _ _ pb fs n n2 (k + 4) _ (pc _ _ _) (q 4 _ _ (by decide) rfl) (ln _ (by show(1:Nat) <=100;decide))) (.inl rfl) ?_
 refine .turn (cf w _) (Fy w W b _ _ pb fs n n2 (k + 5) _ (pc _ _ _) (dq 5 _ _ (by decide) rfl)) (.inl rfl) ?_
 refine .turn (cf w _) (Dw w W b _ _ pb fs n n2 (k + 6) _ (pc _ _ _) (q 6 _ _ (by decide) rfl) (tA _ _ _ _)) (.inl rfl) ?_
 refine .turn (cf w _) (pv w W b _ _ pb fs n n2 (k + 7) _ ⟨#[l2 m]⟩ ((Ih m).elim (fun h=>.inr (.inr (.inl h))) fun h=>.inr (.inr (.inr (.inl h)))) (pc _ _ _) (iE w W b _ pb fs _ n n2 (k + 7) hb (at_ 7 (l2 m) (by decide) rfl)) (ln _ (by show(2:Nat) <=100;decide))) (.inl rfl) ?_
 refine .turn (cf w _) (pv w W b _ _ pb fs n n2 (k + 8) _ ⟨#[l3 m]⟩ ((GV m).elim (fun h=>.inr (.inr (.inr (.inr (.inl h))))) fun h=>.inr (.inr (.inr (.inr (.inr h))))) (pc _ _ _) (iE w W b _ pb fs _ n n2 (k + 8) hb (at_ 8 (l3 m) (by decide) rfl)) (ln _ (by show(3:Nat) <=100;decide))) (.inl rfl) ?_
 refine .turn (cf w _) (xM w W b _ _ pb fs n n2 (k + 9) _ (pc _ _ _) (q 9 _ _ (by decide) rfl)) (.inl rfl) ?_
 exact hfin
theorem qp:∀m:Nat,iR m=wdN m:=fun m=>by
 unfold iR wdN l1 l2 l3
 rfl
theorem Gy:(⟨#[32]⟩:Str)=" ":=by decide
theorem rm:∀x∈[((J8 "self"),V.ref 0)],bp.scope.names.lookup x.1=some .local\/bp.scope.names.lookup x.1=some .cell:=fun x hx=>by
 simp only[Ka,Kf,or_false] at hx
 rcases hx with rfl
 exact .inl ∅
noncomputable def pi:V:=.top (.ref 834)
theorem Cb (w:J9) (m:Nat) (os:List O):bV (aa w) 3 (.str (iR m)) os true os:=bV.str (g:=aa w) (D:=3) (a:=iR m) (os:=os) (by show((4:Nat):Int) < _;decide)
theorem ur (w:J9) (W b:Str) (pb fs:V) (n n2 k m:Nat) (hb:b.length <=1000) (hW:My W "'"=false) (hp:bi 6 pb=true) (hf:bi 6 fs=true) (hA:At b k m) (hs:b.cps[k + 10]?=some 32) :
  Cl (aa w) 4 pi [.ref 0] [] (lxO W pb fs n n2 b (.str " ") "" k) (.str (wdN m)) (lxO W pb fs n n2 b (.str " ") "" (k + 11)):=by
 have run:=kW w W b pb fs n n2 k m hb hW hp hf hA (.leave (cf w _) (EI w W b (iR m) _ pb fs n n2 (k + 10) true (nG w W b _ pb fs _ n n2 _) (Gy▸iE w W b _ pb fs _ n n2 (k + 10) hb hs) (nY w W b _ pb fs n n2 _ _ _ hp hf) (BW w W b _ pb fs n n2 _ _ _ (Cb w m _))) rfl)
 have e:=Ex.whRun (pos:=sP cx) run
 rw[<- n5] at e
 have all:=Exs.app (kL w _) (Exs.cons e (mI w W b (iR m) " " pb fs (.str " ") n n2 (k + 10 + 1)))
 rw[<- kP,qp] at all
 exact Cl.def_ (qT w) (bf.of1 wR (a:=.ref 0) (os:=lxO W pb fs n n2 b (.str " ") "" k)) rm (KW.mpr ⟨Kf,KY⟩) all rfl ⟨nofun,nofun⟩
theorem uw (w:J9) (W b:Str) (pb fs:V) (n n2 k m:Nat) (hb:b.length <=1000) (hW:My W "'"=false) (hp:bi 6 pb=true) (hf:bi 6 fs=true) (hA:At b k m) (hs:b.length <=k + 10) :
  Cl (aa w) 4 pi [.ref 0] [] (lxO W pb fs n n2 b (.str " ") "" k) (.str (wdN m)) (lxO W pb fs n n2 b .none "" (k + 10)):=by
 have run:=kW w W b pb fs n n2 k m hb hW hp hf hA (.leave (cf w _) (E2 w W b (iR m) _ pb fs n n2 (k + 10) true (nG w W b _ pb fs _ n n2 _) (lI w W b _ pb fs _ n n2 (k + 10) hb hs) (nY w W b _ pb fs n n2 _ _ _ hp hf)) rfl)
 have e:=Ex.whRun (pos:=sP cx) run
 rw[<- n5] at e
 have all:=Exs.app (kL w _) (Exs.cons e (mI w W b (iR m) "" pb fs .none n n2 (k + 10)))
 rw[<- kP,qp] at all
 exact Cl.def_ (qT w) (bf.of1 wR (a:=.ref 0) (os:=lxO W pb fs n n2 b (.str " ") "" k)) rm (KW.mpr ⟨Kf,KY⟩) all rfl ⟨nofun,nofun⟩
theorem sH (w:J9) (W b:Str) (pb fs:V) (n n2 k:Nat) (hb:b.length <=1000) (hs:b.length <=k):Cl (aa w) 4 pi [.ref 0] [] (lxO W pb fs n n2 b .none "" k) .none (lxO W pb fs n n2 b .none "" k):=by
 have run:dN (aa w) 3 bp.scope (sN 0 cx) (af cx) [] .next ⟨lxO W pb fs n n2 b .none "" k,lnx false ""⟩ ⟨lxO W pb fs n n2 b .none "" k,lRT false []⟩:=.leave (cf w _) (Fc w W b "" pb fs n n2 k (nG w W b _ pb fs _ n n2 _) (lI w W b _ pb fs _ n n2 k hb hs)) rfl
 have e:=Ex.whRun (pos:=sP cx) run
 rw[<- n5] at e
 have all:=Exs.app (kL w _) (Exs.cons e (sV w W b "" pb fs .none n n2 k))
 rw[<- kP] at all
 exact Cl.def_ (qT w) (bf.of1 wR (a:=.ref 0) (os:=lxO W pb fs n n2 b .none "" k)) rm (KW.mpr ⟨Kf,KY⟩) all rfl ⟨nofun,nofun⟩
theorem ak.eqSN {a:Str}:ak g D .Eq (.str a) .none os (.bool false) os:=fun ρ x y hx hy=>by
 obtain⟨t,rfl⟩:=hx
 obtain rfl:y=.none:=hy
 exact Lf.tok fun A s _=>PySem.EqNone.eq_str_none ⟨rfl,s.toks,rfl⟩
theorem ak.eqNN:ak g D .Eq .none .none os (.bool true) os:=fun ρ x y hx hy=>by
 obtain rfl:x=.none:=hx
 obtain rfl:y=.none:=hy
 exact Lf.tok fun A s _=>PySem.EqNone.eq_none_none ⟨rfl,s.toks,rfl⟩
noncomputable def kX:List Kz:=(aM 34 5).2.1
noncomputable def vE:Expr:=sN 0 (ah kX 0)
noncomputable def jo:Expr:=sN 0 (ah kX 3)
noncomputable def CV:Expr:=eN 0 (sN 0 (ah (af (ah kX 3)) 0))
noncomputable def lxQ (W:Str) (n n2:Nat) (b:Str) (st:V) (tok:Str) (k:Nat):List O:=lxO W (.ref 4) (.ref 5) n n2 b st tok k
noncomputable def lGT (tl:List (Str×V)):List (Str×V):=("self",.ref 0)::tl
section
variable (w:J9) (W b tok:Str) (n n2 k:Nat) (st:V)
theorem CB (tl:List (Str×V)):Tr (aa w) 4 cz.scope ⟨lxQ W n n2 b st tok k,lGT tl⟩ vE false ⟨lxQ W n n2 b st tok k,lGT tl⟩:=
 Tr.val (aC (X:=XU w 4 []) (v:=.ref 4) (s:=⟨lxQ W n n2 b st tok k,lGT tl⟩) ∅) (bV.dq rfl) ∅
theorem Gi (tl:List (Str×V)):Tr (aa w) 4 cz.scope ⟨lxQ W n n2 b st tok k,lGT tl⟩ CV false ⟨lxQ W n n2 b st tok k,lGT tl⟩:=
 Tr.val (aC (X:=XU w 4 []) (v:=.ref 5) (s:=⟨lxQ W n n2 b st tok k,lGT tl⟩) ∅) (bV.dq rfl) ∅
theorem qz:jo=.Compare (eN 0 jo) [.Eq] [eN 1 jo] (eP jo):=∅
theorem EN (v:Str):Tr (aa w) 4 cz.scope ⟨lxQ W n n2 b st tok k,lGT [("raw",.str v)]⟩ jo false ⟨lxQ W n n2 b st tok k,lGT [("raw",.str v)]⟩:=by
 rw[qz]
 exact Tr.cmp (aC (X:=XU w 4 []) (v:=.str v) (s:=⟨lxQ W n n2 b st tok k,lGT [("raw",.str v)]⟩) ∅)
  (aC (X:=XU w 4 []) (v:=.none) (s:=⟨lxQ W n n2 b st tok k,lGT [("raw",.str v)]⟩) ∅) ak.eqSN ∅
theorem Fz:Tr (aa w) 4 cz.scope ⟨lxQ W n n2 b st tok k,lGT [("raw",.none)]⟩ jo true ⟨lxQ W n n2 b st tok k,lGT [("raw",.none)]⟩:=by
 rw[qz]
 exact Tr.cmp (aC (X:=XU w 4 []) (v:=.none) (s:=⟨lxQ W n n2 b st tok k,lGT [("raw",.none)]⟩) ∅)
  (aC (X:=XU w 4 []) (v:=.none) (s:=⟨lxQ W n n2 b st tok k,lGT [("raw",.none)]⟩) ∅) ak.eqNN ∅
theorem BK:∀x,K2 cz ⟨[x],[]⟩=pure [(J8 "self",x)]:=fun x=>∅
theorem w7:∀x∈[((J8 "self"),V.ref 0)],cz.scope.names.lookup x.1=some .local\/cz.scope.names.lookup x.1=some .cell:=fun x hx=>by
 simp only[Ka,Kf,or_false] at hx
 rcases hx with rfl
 exact .inl ∅
noncomputable def iD:V:=.top (.ref 827)
theorem iK:([J8 "self"]:List Str).Nodup:=KW.mpr ⟨Kf,KY⟩
variable {w W b tok n n2 k st}
theorem n7 {st':V} {v:Str} (h:Cl (aa w) 4 pi [.ref 0] [] (lxQ W n n2 b st tok k) (.str v) (lxQ W n n2 b st' tok k')):Cl (aa w) 5 iD [.ref 0] [] (lxQ W n n2 b st tok k) (.str v) (lxQ W n n2 b st' tok k'):=by
 have run:Exs (aa w) 4 cz.scope ⟨lxQ W n n2 b st tok k,lGT []⟩ kX (.ret (.str v)) ⟨lxQ W n n2 b st' tok k',lGT [("raw",.str v)]⟩:=
  bq (hk:={ t:=[(710,11,710,24,fun σ=>(false,σ)),(723,14,723,29,fun σ=>(false,σ))],c:=[(715,14,715,31,fun _ _ _=>(.str v,lxQ W n n2 b st' tok k'))] }) (X:=XU w 4 [])
   (c:=[.p (Tr (aa w) 4 cz.scope ⟨lxQ W n n2 b st tok k,lGT []⟩ vE false ⟨lxQ W n n2 b st tok k,lGT []⟩),.p (Cl (aa w) 4 pi [.ref 0] [] (lxQ W n n2 b st tok k) (.str v) (lxQ W n n2 b st' tok k')),.p (Tr (aa w) 4 cz.scope ⟨lxQ W n n2 b st' tok k',lGT [("raw",.str v)]⟩ jo false ⟨lxQ W n n2 b st' tok k',lGT [("raw",.str v)]⟩)]) ∅
   ⟨CB w W b tok n n2 k st _,h,EN w W b tok n n2 k' st' v,trivial⟩
 exact Cl.def_ (xq w) (bf.of1 BK (a:=.ref 0) (os:=lxQ W n n2 b st tok k)) w7 iK run rfl ⟨nofun,nofun⟩
theorem y4 (h:Cl (aa w) 4 pi [.ref 0] [] (lxQ W n n2 b st tok k) .none (lxQ W n n2 b st tok k)):Cl (aa w) 5 iD [.ref 0] [] (lxQ W n n2 b st tok k) .none (lxQ W n n2 b st tok k):=by
 have run:Exs (aa w) 4 cz.scope ⟨lxQ W n n2 b st tok k,lGT []⟩ kX (.ret .none) ⟨lxQ W n n2 b st tok k,lGT [("raw",.none)]⟩:=
  bq (hk:={ t:=[(710,11,710,24,fun σ=>(false,σ)),(723,14,723,29,fun σ=>(true,σ)),(724,19,724,33,fun σ=>(false,σ))],c:=[(715,14,715,31,fun _ _ _=>(V.none,lxQ W n n2 b st tok k))] }) (X:=XU w 4 [])
   (c:=[.p (Tr (aa w) 4 cz.scope ⟨lxQ W n n2 b st tok k,lGT []⟩ vE false ⟨lxQ W n n2 b st tok k,lGT []⟩),.p (Cl (aa w) 4 pi [.ref 0] [] (lxQ W n n2 b st tok k) .none (lxQ W n n2 b st tok k)),.p (Tr (aa w) 4 cz.scope ⟨lxQ W n n2 b st tok k,lGT [("raw",.none)]⟩ jo true ⟨lxQ W n n2 b st tok k,lGT [("raw",.none)]⟩),.p (Tr (aa w) 4 cz.scope ⟨lxQ W n n2 b st tok k,lGT [("raw",.none)]⟩ CV false ⟨lxQ W n n2 b st tok k,lGT [("raw",.none)]⟩)]) ∅
   ⟨CB w W b tok n n2 k st _,h,Fz w W b tok n n2 k st,Gi w W b tok n n2 k st _,trivial⟩
 exact Cl.def_ (xq w) (bf.of1 BK (a:=.ref 0) (os:=lxQ W n n2 b st tok k)) w7 iK run rfl ⟨nofun,nofun⟩
end
noncomputable def bB (g:G) (D:Nat) (sc:Scope) (σ:S) (t:Env->Sem α) (σ':S):Prop:=
 ∀(A:Lj) (env:Env) (ρ:List Kj) (s:Kl),env.scope=sc->aB D A->St g env σ ρ s->
  J6 (Kx PW g.w) A (t env) (fun _ _=>False) (fun e s'=>∃a tt ρ',e=.ref a/\s'.heap.get? a=some ⟨.type "StopIteration",none,.fields #[.ref tt,.none,.none,.none,.bool false,.none],#[]⟩/\s.heap.get? a=none/\g.K.lookup a=none/\a∉ρ'/\St g env σ' ρ' s'/\Go (own env) ρ s ρ' s') s
theorem lH (y:Go (own env) ρ s ρ1 s1) {t:Sem α} {Q:α->Kl->Prop}
  (h:J6 M A t (fun _ _=>False) (fun e s'=>∃a tt ρ',e=.ref a/\s'.heap.get? a=some ⟨.type "StopIteration",none,.fields #[.ref tt,.none,.none,.none,.bool false,.none],#[]⟩/\s1.heap.get? a=none/\g.K.lookup a=none/\a∉ρ'/\St g env σ₂ ρ' s'/\Go (own env) ρ1 s1 ρ' s') s1) :
  J6 M A t Q (fun e s'=>∃a tt ρ',e=.ref a/\s'.heap.get? a=some ⟨.type "StopIteration",none,.fields #[.ref tt,.none,.none,.none,.bool false,.none],#[]⟩/\s.heap.get? a=none/\g.K.lookup a=none/\a∉ρ'/\St g env σ₂ ρ' s'/\Go (own env) ρ s ρ' s') s1:=
 Kr h (fun _ _ z=>z.elim) fun e s' h=>by
  obtain⟨a,tt,ρ',h1,h2,h3,h⟩:=h
  obtain⟨h4,h5,h6,h7⟩:=h
  refine⟨a,tt,ρ',h1,h2,?_,h4,h5,h6,y.trans h7⟩
  cases q:s.heap.get? a with
  | none=>rfl
  | some o=>
   obtain⟨o',e⟩:=y.alive a o q
   rw[h3] at e;exact nS e
theorem bB.here {st:Kz} {r:List Kz} (k:bB g D sc σ (fun env=>exec st env) σ₂):bB g D sc σ (fun env=>Lq (st::r) env) σ₂:=fun A env ρ s he hr hs=>
 LN (Kr (k A env ρ s he hr hs) (fun _ _ z=>z.elim) fun _ _ z=>z)
theorem bB.iteT {t:Expr} {b o:List Kz} (h:Tr g D sc σ t true σ₁) (k:bB g D sc σ₁ (fun env=>Lq b env) σ₂):bB g D sc σ (fun env=>exec (.If t b o pos) env) σ₂:=fun A env ρ s he hr hs=>
 wpAny_If (h.use he hr hs fun x s1 ρ1 e st1 g1=>by
  obtain rfl:x=true:=e
  exact lH g1 (k A env ρ1 s1 he hr st1))
theorem bB.raise {np:Pos} (hx:∀(A:Lj) (env:Env) (ρ:List Kj) (s:Kl),env.scope=sc->St g env σ ρ s->J6 (Kx PW g.w) A (KP (.Name x np) env) (fun c s'=>c=.type "StopIteration"/\s'=s) (fun _ _=>False) s) :
  bB g D sc σ (fun env=>exec (.Raise (some (.Name x np)) none pos) env) σ:=fun A env ρ s he hr hs=>by
 refine owsi_raiseC hr.handled (Kr (hx A env ρ s he hs) (fun _ _ z=>z) fun _ _ z=>z.elim) fun h' e hm=>?_
 obtain⟨t,ht,_⟩:=hm.there
 have nk:g.K.lookup e=none:=by
  cases q:g.K.lookup e with
  | none=>rfl
  | some o=>have:=hs.k _ _ q;rw[hm.new] at this;exact nS this
 refine⟨e,t,ρ,rfl,ht,hm.new,nk,fun hmem=>?_,⟨hs.hr.keeps hm.keeps,?_,fun b o q=>hm.keeps _ _ (hs.k b o q)⟩,.of ⟨[],(KZ _).symm,fun _ h=>(nomatch h)⟩ (fun b o q _ _=>hm.keeps b o q) (fun b o q=>⟨o,hm.keeps b o q⟩) rfl rfl⟩
 .obtain⟨_,ob,q⟩:=hs.hr.hi e hmem
  rw[hm.new] at q;exact nS q
 .exact hs.er.go (s':={ s with heap:=h' }) (.of ⟨[],(KZ _).symm,fun _ h=>(nomatch h)⟩ (fun b o q _ _=>hm.keeps b o q) (fun b o q=>⟨o,hm.keeps b o q⟩) rfl rfl)
noncomputable def im (g:G) (D:Nat) (f:V) (args:List V) (os os':List O):Prop:=
 ∀ρ x xs,RelV ρ f x->ae (RelV ρ) args xs->∀(A:Lj) (s:Kl) (l:List Env),aB D A->A.frames=some l->cJ l ρ s.heap->HR g.w.params ρ os s.heap->g.K.In s.heap->
  J6 (Kx PW g.w) A (call x xs []) (fun _ _=>False) (fun e s'=>∃a oe ρ',e=.ref a/\s'.heap.get? a=some oe/\oe.cls=.type "StopIteration"/\HR g.w.params ρ' os' s'.heap/\Go (aH l) ρ s ρ' s'/\aS (aH l) s.heap s'.heap) s
theorem jC.stK (st:St g env σ ρ s) (fe:cF env outer ρ s.heap) (na:a∉ρ) (x:jC a (aH (env::outer)) s.heap h') (ha:g.K.lookup a=none) :
  HR g.w.params ρ σ.os h'/\Go ([a]++bS env outer) ρ s ρ { s with heap:=h' }/\aS (aH outer) s.heap h':=by
 have nr:∀b∈ρ,b∉aH (env::outer):=fun b hb hm=>(fe.fr.at_ hm).choose_spec.2.1 hb
 have go:Go ([a]++aH (env::outer)) ρ s ρ { s with heap:=h' }:=.of ⟨[],(KZ _).symm,fun _ h=>(nomatch h)⟩ (fun b o e _ h2=>x.keep b o (fun q=>h2 (Kt _ q)) (fun q=>h2 (q▸.head _)) e)
  (fun b o e=>by
   by_cases q:b=a
   .subst q;obtain⟨oe,_,_,_,_,e1,_⟩:=x.exc;exact⟨oe,e1⟩
   .by_cases q2:b∈aH (env::outer)
    .obtain⟨sl,e2⟩:=x.up b q2 o e;exact⟨_,e2⟩
    .exact⟨o,x.keep b o q2 q e⟩) rfl rfl
 refine⟨st.hr.keepsIn fun b hb o e=>x.keep b o (nr b hb) (fun q=>na (q▸hb)) e,go.weak fun b hb=>?_,x.up.sub fun L hL=>by rw[dD fe.frm];exact .tail _ hL⟩
 rcases List.mem_append.mp hb with q | q
 .exact KD _ q
 .exact Kt _ (ka fe.frm b q)
theorem im.def_ {fd:KN} (fn:Fn g a fd body) (hb:bf g D fd args [] os bs os₁)
  (hk:∀x∈bs,fd.scope.names.lookup x.1=some .local\/fd.scope.names.lookup x.1=some .cell) (nd:(bs.map (·.1)).Nodup)
  (h:bB g D fd.scope ⟨os₁,bs⟩ (fun env=>Lq body env) σ₁):im g (D + 1) (.top (.ref a)) args os σ₁.os:=fun ρ x xs hx hxs A s l hr fa fl hh hK=>Ll (by
 obtain rfl:x=.ref a:=hx
 obtain⟨oc,od,sl,hat⟩:=fn.at_
 refine ME (by have:=hr.depth;lia) (hK _ _ hat) rfl fn.co fn.gen fn.body (codeRec_of hK fn.code) ?_
 refine Kr (hb ρ xs [] hxs .nil A.in1 s hr.in1 hh hK) (fun cs s1 ⟨ρ1,hbs,hr1,g1⟩=>?_) (fun _ _ z=>z.elim)
 have hK1:g.K.In s1.heap:=bY (ow:=[]) hK hh (fun _ h=>(nomatch h)) g1
 have hN1:N0 <=s1.heap.objs.size:=aV hK1
 rw[fn.clo]
 refine Mi fn.kind (fun c hc=>?_) fun env he s2 ic=>?_
 .obtain⟨b,h1,h2⟩:=iS hbs hc
  rw[<- h2]
  exact(hk b h1).imp id fun q=>⟨q,fn.cells _ (.inl q) _⟩
 .have hsc:env.scope=fd.scope:=by rw[he];rfl
  have hloc:env.locals=s1.heap.objs.size:=by rw[he];rfl
  have hcel:env.cells=K7 (s1.heap.objs.size + 1) fd.scope.names []:=by rw[he];rfl
  have hglo:env.globals=K9:=by rw[he];exact fn.glob
  have hblt:env.builtins=LL:=by rw[he];exact fn.blt
  have hfrm:env.frame=some env.locals:=by rw[he];rfl
  have keep:=ic.toInCall.keep
  obtain⟨h₂,tk,es₂,_⟩:=ic.done
  have hK2:g.K.In s2.heap:=fun b o e=>keep _ _ (hK1 b o e)
  have hns:=ic.toInCall.ns
  have sz:s1.heap.objs.size <=s2.heap.objs.size:=by
   have:=hns.lt
   rw[hloc] at this
   exact Nat.le_of_lt this
  have old:∀{b:Kj},b∈ρ1->b < s1.heap.objs.size:=fun hb=>hr1.lt hb
  have clow:∀p∈env.cells,s1.heap.objs.size + 1 <=p.2:=by rw[hcel];exact dZ _ _ _ _ (fun _ h=>(nomatch h)) (Km _)
  have er:ER ρ1 s2.heap env bs:=by
   refine⟨hglo,hblt,by rw[hsc];exact fn.kind,⟨_,hns,fun z hz=>et (gY hbs nd _ z hz) rfl⟩,fun z hz=>?_,⟨by rw[hloc];exact hN1,fun hm=>?_⟩,fun p hp=>?_,fun z z' c h1 h2=>name_of_addr ic.apart h1 h2⟩
   .have hz':fd.scope.names.lookup z=some .cell\/fd.scope.names.lookup z=some .free:=by rw[<- hsc];exact hz
    obtain⟨c,hc⟩:=Option.isSome_iff_exists.mp (fn.cells z hz' (s1.heap.objs.size + 1))
    rw[<- hcel] at hc
    refine⟨c,_,hc,ic.cell z c hc,et (gM hbs nd _ z fun q=>?_) rfl⟩
    rcases hz with q' | q' <;> (rw[q] at q';cases q')
   .have:=old hm
    rw[hloc] at this
    exact KM _ this
   .have lo:=clow _ hp
    have hc:env.cells.lookup p.1=some p.2:=Nf (by rw[hcel];exact NT fd.scope.names 0 (s1.heap.objs.size + 1) [] [] rfl▸fn.cnd) hp
    refine⟨Lh hN1 (Lo lo),let⟨ob,e,_⟩:=ic.cell p.1 p.2 hc;⟨ob,e⟩,fun hm=>?_,fun q=>?_⟩
    .have:=old hm
     exact absurd this (Nat.not_lt.mpr (Lo lo))
    .rw[hloc] at q
     have:s1.heap.objs.size + 1 <=p.2:=lo
     rw[q] at this
     exact KM _ this
  have st:St g env ⟨os₁,bs⟩ ρ1 s2:=⟨hr1.keeps keep,er,hK2⟩
  have ownNew:∀b∈own env,s1.heap.objs.size <=b:=fun b hm=>by
   rcases Ka.mp hm with q | q
   .rw[q,hloc];exact Km _
   .obtain⟨p,hp,rfl⟩:=List.mem_map.mp q
    exact Lo (clow p hp)
  have fl1:cJ l ρ1 s1.heap:=fl.go g1
  have fl2:cJ l ρ1 s2.heap:=⟨fun e he=>let⟨a1,L,o,a2,a3,a4,a5⟩:=fl1.all e he;⟨a1,L,o,a2,keep _ _ a3,a4,a5⟩⟩
  have fe2:cF env l ρ1 s2.heap:=by
   refine⟨⟨fun e he=>?_⟩,hfrm,fun L hL hm=>?_⟩
   .rcases Ka.mp he with rfl | q
    .obtain⟨oL,es,ep,hoL,_⟩:=hns
     refine⟨by rw[hsc,fn.kind];decide,e.locals,oL,hfrm,hoL,er.low.2,er.low.1⟩
    .exact fl2.all e q
   .obtain⟨o,e,_⟩:=fl1.at_ hL
    exact absurd (KJ e) (Nat.not_lt.mpr (ownNew L hm))
  refine⟨g.lim _ hK2,NS ?_⟩
  have fa2:((A.in1).deeper env).frames=some (env::l):=by show A.frames.map (env::·)=_;rw[fa];rfl
  refine Kr (h _ env ρ1 s2 hsc hr.deeper st) (fun _ _ z=>z.elim) ?_
  rintro e s3 ⟨x,tt,ρ3,rfl,hob,hnew,nK,hni,st₃,g3⟩
  have fe3:cF env l ρ3 s3.heap:=fe2.go g3
  have nfr:x∉aH (env::l):=fun hm=>by
   obtain⟨o,e,_⟩:=fe2.fr.at_ hm
   rw[hnew] at e;exact nS e
  unfold leaving
  refine J7 (qe fa2 (fun e he=>let⟨a1,L,o,a2,a3,_⟩:=fe3.fr.all e he;⟨a1,L,o,a2,a3⟩) hfrm hob nfr fun h4 x4=>?_)
  refine jC.flight (s:={ s3 with heap:=h4 }) x4 fun h5 x5=>?_
  obtain⟨hr5,g5,u5⟩:=x5.stK st₃ fe3 hni nK
  have gens2:s2.gens=s1.gens:=by rw[es₂]
  have os₂:s2.os=s1.os:=by rw[es₂]
  have dr2:s2.drawn=s1.drawn:=by rw[es₂]
  have g35:Go ([x]++bS env l) ρ1 s2 ρ3 { s3 with heap:=h5 }:=(g3.weak fun _ q=>Kt _ (fh _ q)).trans g5
  have gW:Go (aH l) ρ s ρ3 { s3 with heap:=h5 }:=by
   refine g1.nil.trans ⟨?_,fun b o e h1 h2=>g35.kept b o (keep _ _ e) h1 fun hm=>?_,fun b o e=>g35.alive b o (keep _ _ e),g35.gens.trans gens2,g35.os.1.trans os₂,g35.os.2.trans dr2⟩
   .obtain⟨ν,e,hν⟩:=g35.pre
    refine⟨ν,e,fun a ha=>?_⟩
    cases q:s1.heap.get? a with
    | none=>rfl
    | some o=>have:=keep _ _ q;rw[hν a ha] at this;exact nS this
   .rcases List.mem_append.mp hm with q | q
    .rw[Kw] at q
     have:=keep _ _ e
     rw[q,hnew] at this;exact nS this
    .rcases List.mem_append.mp q with q | q
     .exact absurd (KJ e) (Nat.not_lt.mpr (ownNew b q))
     .exact h2 q
  have uW:aS (aH l) s.heap h5:=by
   refine(aS.go g1 (fun L hL=>?_) (fun _ _ q=>nomatch q)).trans ((aS.kept fun L hL o e=>keep _ _ e).trans ((aS.go g3 (fun L hL=>(fe2.fr.tail.at_ hL).choose_spec.2.1) fe2.apart).trans u5))
   obtain⟨e,he,hf⟩:=fg.mp hL
   obtain⟨_,M,o,h1,h2,h3,_⟩:=‹cJ l ρ s.heap›.all e he
   rw[hf] at h1
   cases h1
   exact h3
  obtain⟨oe,_,_,_,_,e1,e2,_⟩:=x5.exc
  exact⟨x,oe,ρ3,rfl,e1,e2,hr5,gW,uW⟩)
structure jS (K:Frag) (C fi fn:Kj):Prop where
 iter:LG K (.ref C) "__iter__"=some (some (.ref fi))
 iterF:Na K (.ref fi)=some (.type "function")
 next:LG K (.ref C) "__next__"=some (some (.ref fn))
 nextF:Na K (.ref fn)=some (.type "function")
 len:LG K (.ref C) "__len__"=some none
 hint:LG K (.ref C) "__length_hint__"=some none
theorem zq {K:Frag} {x:Kj} (o:jS K C fi fn) (X:K.In s.heap) (I:InstAt s.heap x ox C od)
  (h:J6 M A (call (.ref fi) [.ref x]) (fun v s'=>v=.ref x/\K.In s'.heap/\(∃ox' od',InstAt s'.heap x ox' C od')/\Q (.ref x) s') E s):J6 M A (pyIter (.ref x)) Q E s:=by
 have fin:J6 M A (call (.ref fi) [.ref x] >>=fun v=>pure (some v)) (fun r s'=>r=some (.ref x)/\K.In s'.heap/\(∃ox' od',InstAt s'.heap x ox' C od')/\Q (.ref x) s') E s:=
  J7 (Kr h (fun v s' ⟨e,h'⟩=>Kb ⟨by rw[e],h'⟩) fun _ _ z=>z)
 unfold pyIter
 refine J7 (J7 (I.type.here ((Mz X o.iter).here ?_)))
 show J6 M A (callSpecialIfBoundUnlessNone? (.ref x) "__iter__" _ >>=_) Q E s
 refine J7 ?_
 unfold callSpecialIfBoundUnlessNone? bindSpecialIfBound?
 refine KQ (J7 (J7 (J7 (I.type.here ((Mz X o.iter).here ?_)))))
 have go:∀(refuse:Sem Kd) (Q':Option Kd->Kl->Prop),(∀s',(K.In s'.heap/\(∃ox' od',InstAt s'.heap x ox' C od')/\Q (.ref x) s')->Q' (some (.ref x)) s')->
   J6 M A (if(Value.ref fi==Value.none)=true then(refuse >>=fun v=>pure (some v)) else(call (.ref fi) [.ref x] >>=fun v=>pure (some v))) Q' E s:=fun refuse Q' k=>by
  rw[if_neg (show ¬ ((Value.ref fi==Value.none)=true) from Bool.false_ne_true)]
  exact Kr fin (fun r s' ⟨e,h'⟩=>by rw[e];exact k s' h') fun _ _ z=>z
 have last:∀s',(K.In s'.heap/\(∃ox' od',InstAt s'.heap x ox' C od')/\Q (.ref x) s')->J6 M A (specialOf (.ref x) "__next__" >>=fun r=>match r with
   | none=>(rule "iter.non-iterator" >>=fun _=>typeNameOf (.ref x) >>=fun t=>raiseError "TypeError" s!"iter() returned non-iterator of type '{t}'")
   | some _=>pure (.ref x)) Q E s':=fun s' ⟨X',⟨ox',od',I'⟩,q⟩=>
  J7 (J7 (I'.type.here ((Mz X' o.next).here (Kb q))))
 refine J7 (wpAny_askSetting (wpAny_ite ?_))
 split
 .exact J7 ((bind_fn X _ o.iterF).here (Kb (go _ _ last)))
 .exact wpAny_tryCatch (J7 ((bind_fn X _ o.iterF).here (Kb (go _ _ last))))
theorem qD {K:Frag} {x:Kj} {Q:Option Kd->Kl->Prop} (o:jS K C fi fn) (X:K.In s.heap) (I:InstAt s.heap x ox C od)
  (h:J6 M A (call (.ref fn) [.ref x]) (fun v s'=>Q (some v) s') (fun e s'=>∃a oe,e=.ref a/\s'.heap.get? a=some oe/\oe.cls=.type "StopIteration"/\Q none s') s):J6 M A (pyNext (.ref x)) Q E s:=by
 unfold pyNext
 refine J7 (wpAny_attempt (special_fn (name:="__next__") (args:=[]) X I o.next o.nextF (Kr h (fun v s' hq=>?_) (fun e s' he=>?_))))
 .exact Kb hq
 .obtain⟨a,oe,rfl,e1,e2,q⟩:=he
  refine J7 (wpAny_isInstance (T:="StopIteration") ⟨oe,e1,e2⟩ isSubtype_stop ?_)
  exact Kb q
structure kZ (g:G) (D:Nat) (C fi fn:Kj) (i:Nat) (vs:List V) (W:Nat->List O) (Wz:List O):Prop where
 inst:∀k,k <=vs.length->∃d es n,(W k)[i]?=some (.inst C d)/\(W k)[d]?=some (.dict es n)
 len:∀k,k <=vs.length->(W k).length=(W 0).length
 lenz:Wz.length=(W 0).length
 next:∀k v acc,vs[k]?=some v->cY g D (.top (.ref fn)) [.ref i] [] (W k++[.list acc]) v (W (k + 1)++[.list acc])
 stop:∀acc,im g D (.top (.ref fn)) [.ref i] (W vs.length++[.list acc]) (Wz++[.list acc])
 iter:cY g D (.top (.ref fi)) [.ref i] [] (W 0++[.list []]) (.ref i) (W 0++[.list []])
theorem cJ.kIn {l:List Env} (fl:cJ l ρ s.heap) (hh:HR g.w.params ρ os s.heap) (hK:g.K.In s.heap) (y:Go (aH l) ρ s ρ' s'):g.K.In s'.heap:=
 bY hK hh (fun L hL=>(fl.at_ hL).choose_spec.2.2) y
theorem k8 {o':O}:(os++[o]).set os.length o'=os++[o']:=by
 rw[List.set_append_right (h:=Km _),Lg];rfl
theorem jc (h1:os[i]?=some (.inst C d)) (h2:os[d]?=some (.dict es n)):(os++[o])[i]?=some (.inst C d)/\(os++[o])[d]?=some (.dict es n):=by
 constructor
 .rw[Kn (List.getElem?_eq_some_iff.mp h1).1];exact h1
 .rw[Kn (List.getElem?_eq_some_iff.mp h2).1];exact h2
theorem uR {vs:List V} {W:Nat->List O} (o:jS g.K C fi fn) (r:kZ g D C fi fn i vs W Wz) (hv:vs.length <=1000):∀(m k:Nat),vs.length - k=m->k <=vs.length->∀(A:Lj) (s:Kl) (l:List Env) (ρ:List Kj) (S x:Kj) (R:Mo->Kl->Prop),
  aB (D + 1) A->A.frames=some l->cJ l ρ s.heap->HR g.w.params ρ (W k++[.list (vs.take k)]) s.heap->g.K.In s.heap->ρ[i]?=some x->ρ[(W 0).length]?=some S->
  (∀s' ρ',HR g.w.params ρ' (Wz++[.list vs]) s'.heap->Go (aH l) ρ s ρ' s'->aS (aH l) s.heap s'.heap->R (.ok (.ret .none)) s')->
  Ky (Kx PW g.w) A (.builtin "list.extend.loop" ⟨[.ref S,.ref x,.none],[]⟩) R s:=by
 intro m
 induction m with
 | zero=>
  intro k hm hk A s l ρ S x R hr fa fl hh hK hi hS hR
  obtain rfl:k=vs.length:=by lia
  obtain⟨d,es,n,q1,q2⟩:=r.inst vs.length (Km _)
  obtain⟨q1,q2⟩:=jc (o:=.list (vs.take vs.length)) q1 q2
  obtain⟨a,b,en,ha,_,_,I,_⟩:=hh.inst q1 q2 ⟨x,hi,rfl⟩
  cases ha
  refine Mh F.entry_extend_loop ?_
  rw[M3 Nd _]
  show J6 _ A.in1 (pyNext (.ref x) >>=_) _ _ s
  refine J7 (qD o hK I (Kr (r.stop _ ρ (.ref fn) [.ref x] rfl (.cons ⟨x,hi,rfl⟩ .nil) A.in1 s l hr.in1 fa fl hh hK) (fun _ _ z=>z.elim) ?_))
  rintro e s1 ⟨a,oe,ρ1,rfl,e1,e2,h1,g1,u1⟩
  refine⟨a,oe,rfl,e1,e2,?_⟩
  rw[M4] at h1
  exact Kb (hR s1 ρ1 h1 g1 u1)
 | succ m ih=>
  intro k hm hk A s l ρ S x R hr fa fl hh hK hi hS hR
  have lt:k < vs.length:=by lia
  have ob':∃v,vs[k]?=some v:=⟨_,Kc lt⟩
  obtain⟨v,hv1⟩:=ob'
  obtain⟨d,es,n,q1,q2⟩:=r.inst k hk
  obtain⟨q1,q2⟩:=jc (o:=.list (vs.take k)) q1 q2
  obtain⟨a,b,en,ha,_,_,I,_⟩:=hh.inst q1 q2 ⟨x,hi,rfl⟩
  cases ha
  refine Mh F.entry_extend_loop ?_
  rw[M3 Nd _]
  show J6 _ A.in1 (pyNext (.ref x) >>=_) _ _ s
  refine J7 (qD o hK I (Kr (r.next k v (vs.take k) hv1 ρ (.ref fn) [.ref x] [] rfl (.cons ⟨x,hi,rfl⟩ .nil) .nil A.in1 s l hr.in1 fa fl hh hK) ?_ (fun _ _ z=>z.elim)))
  rintro y s1 ⟨ρ1,ry,h1,g1,u1⟩
  have hL:(W (k + 1)).length=(W 0).length:=r.len _ lt
  have hS1:ρ1[(W 0).length]?=some S:=by obtain⟨ν,e,_⟩:=g1.pre;rw[e];exact get_app hS
  have hi1:ρ1[i]?=some x:=by obtain⟨ν,e,_⟩:=g1.pre;rw[e];exact get_app hi
  have hTop:(W (k + 1)++[O.list (vs.take k)])[(W 0).length]?=some (.list (vs.take k)):=by rw[<- hL];exact am _ _
  obtain⟨_,ys,n,e0,_,e,q⟩:=h1.list hTop ⟨S,hS1,rfl⟩
  cases e0
  have ln:ys.size=k:=by rw[<- KH,q.length,M9];lia
  show J6 _ A.in1 (updateSeq S (·.push y) >>=_) _ _ _
  obtain⟨m',hm'⟩:=cM (f:=(·.push y)) e
  have g2:Go (aH l) ρ1 s1 ρ1 { s1 with heap:=s1.heap.update S (Nn (·.push y)) }:=(eS (Kq hS1) hm').nil
  have h2:=h1.set hS1 (Lc ..) hm' (o':=.list (vs.take (k + 1))) ⟨_,m',rfl,by
   rw[Array.toList_push,List.take_succ,hv1]
   exact(ae.cons ry .nil).append q⟩
  rw[<- hL,k8] at h2
  have fl1:cJ l ρ1 s1.heap:=fl.go g1
  refine J7 (Ni e rfl (Kb ⟨plainId_quiet Nd _,ih (k + 1) (by lia) lt A _ l ρ1 S x R hr fa (fl1.go g2) h2 (fl1.kIn h1 (fl.kIn hh hK g1) g2) hi1 hS1 fun s' ρ' h3 g3 u3=>?_⟩) (by rw[ln,K4];lia) (by rw[NK,ln,K4];lia))
  exact hR s' ρ' h3 ((g1.trans g2).trans g3) ((u1.trans (.go (eS (Kq hS1) hm') (fun L hL=>(fl1.at_ hL).choose_spec.2.1) (fun _ _ q=>nomatch q))).trans u3)
theorem Go.upd {l:List Env} {f:Obj->Obj} (fl:cJ l ρ s.heap) (ha:a∈ρ) (ho:(s.heap.update a f).get? a=some o'):Go (aH l) ρ s ρ { s with heap:=s.heap.update a f }/\aS (aH l) s.heap (s.heap.update a f):=
 ⟨(eS ha ho).nil,.go (eS ha ho) (fun L hL=>(fl.at_ hL).choose_spec.2.1) (fun _ _ q=>nomatch q)⟩
theorem nh {vs:List V} {W:Nat->List O} (o:jS g.K C fi fn) (r:kZ g D C fi fn i vs W Wz) (hv:vs.length <=1000) {l:List Env} {S x:Kj} {R:Mo->Kl->Prop}
  (hr:aB (D + 1) A) (fa:A.frames=some l) (fl:cJ l ρ s.heap) (hh:HR g.w.params ρ (W 0++[.list []]) s.heap) (hK:g.K.In s.heap) (hi:ρ[i]?=some x) (hS:ρ[(W 0).length]?=some S)
  (hR:∀s' ρ',HR g.w.params ρ' (Wz++[.list vs]) s'.heap->Go (aH l) ρ s ρ' s'->aS (aH l) s.heap s'.heap->R (.ok (.ret .none)) s') :
  J6 (Kx PW g.w) A.in1 (Builtin.«list.__init__» ⟨[.ref S,.ref x],[]⟩)
   (fun fin s'=>match fin with | .done f=>R (.ok f) s' | .again c'=>c'.quiet=true/\Ky (Kx PW g.w) A c' R s') (fun e s'=>R (.error e) s') s:=by
 obtain⟨d,es,n,q1,q2⟩:=r.inst 0 (Nat.zero_le _)
 have lti:i < (W 0).length:=(List.getElem?_eq_some_iff.mp q1).1
 obtain⟨q1,q2⟩:=jc (o:=.list []) q1 q2
 have ne:S≠x:=fun e=>by
  subst e
  have:=(List.getElem?_inj (List.getElem?_eq_some_iff.mp hi).1 hh.nd).mp (hi.trans hS.symm)
  lia
 obtain⟨_,ys,n0,e0,_,e,q⟩:=hh.list (am _ _) ⟨S,hS,rfl⟩
 cases e0
 have ey:ys=#[]:=by
  have:ys.toList.length=0:=q.length
  rw[KH] at this
  exact Array.eq_empty_of_size_eq_zero this
 subst ey
 show J6 _ A.in1 (do let old <- Builtin.List.listItems (.ref S);Builtin.List.listUpdate (.ref S) (fun _=>#[]);letGo old.toList.reverse;M2 (.ref S) (.ref x) .none) _ _ s
 refine J7 ?_
 unfold Builtin.List.listItems
 refine J7 (Mu e rfl (Kb ?_))
 show J6 _ A.in1 (updateSeq S (fun _=>#[]) >>=fun _=>letGo (#[]:Array Kd).toList.reverse >>=fun _=>M2 (.ref S) (.ref x) .none) _ _ s
 refine J7 (Ni e rfl ?_ (by show 0 <=Kg;rw[K4];lia) (by show 0 <=Kg + 1;lia))
 obtain⟨m1,hm1⟩:=cM (f:=fun _=>(#[]:Array Kd)) e
 have hh1:=hh.set hS (Lc ..) hm1 (o':=.list []) ⟨_,m1,rfl,.nil⟩
 rw[k8] at hh1
 obtain⟨g1,u1⟩:=Go.upd fl (Kq hS) hm1
 generalize hs1:({ s with heap:=s.heap.update S (Nn fun _=>(#[]:Array Kd)) }:Kl)=s1
 rw[hs1] at g1
 have hh1':HR g.w.params ρ (W 0++[.list []]) s1.heap:=by rw[<- hs1];exact hh1
 have u1':aS (aH l) s.heap s1.heap:=by rw[<- hs1];exact u1
 have hK1:g.K.In s1.heap:=fl.kIn hh hK g1
 have fl1:cJ l ρ s1.heap:=fl.go g1
 obtain⟨_,b,en,e5,_,_,I,_⟩:=hh1'.inst q1 q2 ⟨x,hi,rfl⟩
 cases e5
 refine J7 (wpAny_letGo ?_)
 unfold M2
 refine J7 (I.type.here ?_)
 have h1:Builtin.List.listSameRef (.ref S) (.ref x)=false:=by simp[Builtin.List.listSameRef,ne]
 have h2:(Value.ref C==Nm "list")=false:=rfl
 have h3:(Value.ref C==Nm "tuple")=false:=rfl
 simp only[h1,h2,h3,Bool.or_false,LJ,if_false]
 refine J7 (zq o hK1 I (Kr (r.iter ρ (.ref fi) [.ref x] [] rfl (.cons ⟨x,hi,rfl⟩ .nil) .nil A.in1 s1 l hr.in1 fa fl1 hh1' hK1) ?_ (fun _ _ z=>z.elim)))
 rintro y s2 ⟨ρ2,⟨x',hx',rfl⟩,hh2,g2,u2⟩
 have hi2:ρ2[i]?=some x:=by obtain⟨ν,e,_⟩:=g2.pre;rw[e];exact get_app hi
 have hS2:ρ2[(W 0).length]?=some S:=by obtain⟨ν,e,_⟩:=g2.pre;rw[e];exact get_app hS
 rw[hi2] at hx'
 cases hx'
 have hK2:g.K.In s2.heap:=fl1.kIn hh1' hK1 g2
 have fl2:cJ l ρ2 s2.heap:=fl1.go g2
 obtain⟨_,b2,en2,e6,_,_,I2,_⟩:=hh2.inst q1 q2 ⟨x,hi2,rfl⟩
 cases e6
 refine⟨rfl,hK2,⟨_,_,I2⟩,?_⟩
 refine J7 (KQ ?_)
 unfold Builtin.List.listLengthHint
 refine J7 (J7 (I2.type.here ((Mz hK2 o.len).here ?_)))
 show J6 _ A.in1 (specialOf (Value.ref x) (J8 "__length_hint__") >>=_) _ _ _
 refine J7 (J7 (I2.type.here ((Mz hK2 o.hint).here ?_)))
 refine Kb ?_
 show J6 _ A.in1 (rule "list.extend.makes-room" >>=fun _=>Builtin.List.listTouch (.ref S) >>=fun _=>
  again (.builtin "list.extend.loop" ⟨[.ref S,.ref x,.none],[]⟩)) _ _ _
 refine J7 (wpAny_rule ?_)
 refine J7 ?_
 show J6 _ A.in1 (updateSeq S (·.push .none) >>=fun _=>updateSeq S (·.pop)) _ _ _
 obtain⟨_,zs,n2,e7,_,e8,q8⟩:=hh2.list (am _ _) ⟨S,hS2,rfl⟩
 cases e7
 have ez:zs=#[]:=by
  have:zs.toList.length=0:=q8.length
  rw[KH] at this
  exact Array.eq_empty_of_size_eq_zero this
 subst ez
 refine J7 (Ni e8 rfl ?_ (by show 0 <=Kg;rw[K4];lia) (by show 1 <=Kg + 1;rw[K4];lia))
 obtain⟨m3,hm3⟩:=cM (f:=fun xs=>xs.push Value.none) e8
 obtain⟨g3,u3⟩:=Go.upd fl2 (Kq hS2) hm3
 have hh3:=hh2.set hS2 (Lc ..) hm3 (o':=.list [.none]) ⟨_,m3,rfl,.cons rfl .nil⟩
 rw[k8] at hh3
 have fl3:=fl2.go g3
 refine Ni hm3 rfl ?_ (by show 1 <=Kg;rw[K4];lia) (by show 0 <=Kg + 1;lia)
 obtain⟨m4,hm4⟩:=cM (f:=fun xs=>xs.pop) hm3
 obtain⟨g4,u4⟩:=Go.upd (s:={ s2 with heap:=s2.heap.update S (Nn fun xs=>xs.push Value.none) }) fl3 (Kq hS2) hm4
 have hh4:=hh3.set hS2 (Lc ..) hm4 (o':=.list []) ⟨_,m4,rfl,.nil⟩
 rw[k8] at hh4
 have fl4:=fl3.go g4
 refine Kb ⟨plainId_quiet Nd _,uR o r hv vs.length 0 (Nat.sub_zero _) (Nat.zero_le _) A _ l ρ2 S x R hr fa fl4 hh4 ((fl3.kIn hh3 (fl2.kIn hh2 hK2 g3) g4)) hi2 hS2 fun s' ρ' h5 g5 u5=>?_⟩
 exact hR s' ρ' h5 ((((g1.trans g2).trans g3).trans g4).trans g5) ((((u1'.trans u2).trans u3).trans u4).trans u5)
theorem cY.listOwn {vs:List V} {W:Nat->List O} (o:jS g.K C fi fn) (r:kZ g D C fi fn i vs W Wz) (hv:vs.length <=1000):cY g (D + 2) (.top (.type "list")) [.ref i] [] (W 0) (.ref (W 0).length) (Wz++[.list vs]):=fun ρ f xs ks hf hxs hks A s l hr fa fl hh hK=>by
 obtain rfl:f=.type "list":=hf
 cases hks
 cases hxs with
 | cons r1 rs=>
  cases rs
  obtain⟨x,hi,rfl⟩:=r1
  refine callType_codes (Q₁:=fun obj s1=>obj=.ref s.heap.objs.size/\s1={ s with heap:=s.heap.push { cls:=.type "list",data:=.seq #[] } }) F.called_list (F.typeCall_list_1 _) F.entry_list_init
   (code_list_new _ ⟨rfl,rfl⟩) fun obj s1 h1=>?_
  obtain⟨rfl,rfl⟩:=h1
  have hS:(s.heap.push { cls:=.type "list",data:=.seq #[] }).get? s.heap.objs.size=some { cls:=.type "list",data:=.seq #[] }:=Ku _ rfl
  have kp:∀b ob,s.heap.get? b=some ob->(s.heap.push { cls:=.type "list",data:=.seq #[] }).get? b=some ob:=fun b ob e=>Ki _ e
  have hh1:HR g.w.params (ρ++[s.heap.objs.size]) (W 0++[.list []]) (s.heap.push { cls:=.type "list",data:=.seq #[] }):=HR.push hh (Km _) (aV hK) kp hS ⟨#[],_,rfl,.nil⟩
  have g1:Go [] ρ s (ρ++[s.heap.objs.size]) { s with heap:=s.heap.push { cls:=.type "list",data:=.seq #[] } }:=.of ⟨[s.heap.objs.size],rfl,fun b hb=>by
   rw[Kw] at hb
   rw[hb]
   exact NO (Km _)⟩ (fun b ob e _ _=>kp b ob e) (fun b ob e=>⟨ob,kp b ob e⟩) rfl rfl
  have u1:aS (aH l) s.heap (s.heap.push { cls:=.type "list",data:=.seq #[] }):=.kept fun L _ ob e=>kp L ob e
  have hS1:(ρ++[s.heap.objs.size])[(W 0).length]?=some s.heap.objs.size:=by rw[<- hh.len,Ke (Km _),Lg];rfl
  refine⟨⟨_,hS,rfl⟩,F.args_list_init_2 _ _,nh o r hv (S:=s.heap.objs.size) (x:=x) hr.in1 fa (fl.go g1) hh1 (fun b ob e=>kp b ob (hK b ob e)) (get_app hi) hS1 fun s' ρ' h2 g2 u2=>⟨rfl,ρ',?_,h2,g1.nil.trans g2,u1.trans u2⟩⟩
  obtain⟨ν,e,_⟩:=g2.pre
  rw[e]
  exact⟨_,get_app hS1,rfl⟩
theorem ae.downs {e:List Nat} (hN:ρ.length <=N) {l:List V} {xs:List Kd} (h:ae (RelV ρ) (l.map (bx (rn e N))) xs):ae (RelV (sub ρ e)) l xs:=h.of_map fun _ _=>RelV.down hN
theorem Cl.frame {f:V} {W:List O} {e:List Nat} (h:Cl g D f args [] W v W') (w:eY e os W) (u:gU e os W' os'):Cl g D (bx (rn e os.length) f) (args.map (bx (rn e os.length))) [] os (bx (rn e os.length) v) os':=fun ρ x xs ks hx hxs hks A s hr hh hk=>by
 have hN:ρ.length <=os.length:=MM hh.len
 refine Lf.frame (h (sub ρ e) x xs ks (hx.down hN) (ae.downs hN hxs) (by cases hks;exact .nil)) w u (fun ν z hl r=>?_) A s hr hh hk
 rw[<- hl]
 exact RelV.up (fun i hi=>by rw[hl];exact w.lt i hi) r
noncomputable def oV (W:Str) (p:Nat) (st:V) (tok:Str):List (Str×V):=[("instream",.ref (p + 5)),("infile",.none),("posix",.bool true),("eof",.none),("commenters",.str ""),("wordchars",.str W),("whitespace",.str " \t\r\n"),("whitespace_split",.bool true),("quotes",.str "'\""),("escape",.str "\\"),("escapedquotes",.str "\""),
 ("state",st),("pushback",.ref (p + 6)),("lineno",.int 1),("debug",.int 0),("token",.str tok),("filestack",.ref (p + 7)),("source",.none),("_punctuation_chars",.str "")]
noncomputable def i9 (W:Str) (p n n2:Nat) (b:Str) (st:V) (tok:Str) (k:Nat):List O:=[.dict (oV W p st tok) n,.inst 866 p,.tuple [.str b],.dict [] 0,.dict (df b (k:Int)) n2,.inst 731 (p + 4),ff,ff]
noncomputable def fR (p:Nat):List Nat:=[p + 1,p,p + 5,p + 4,p + 6,p + 7]
theorem bA (base l:List α) (j:Nat):(base++l)[base.length + j]?=l[j]?:=by
 rw[Ke (Nat.le_add_right _ _),Nat.add_sub_cancel_left]
theorem yP (W tok:Str) (st:V) (p N:Nat) (hs:∀f,bx f st=st):(Bb W (.ref 4) (.ref 5) st tok).map (fun q=>(q.1,bx (rn (fR p) N) q.2))=oV W p st tok:=by
 unfold Bb oV
 simp only[K6,List.map_nil,hs]
 rfl
theorem uK {base:List O} {tok b:Str} {st:V} (hs:∀f,bx f st=st) (j i:Nat) (o:O) (hj:(fR base.length)[j]?=some i) (ho:(lxQ W n n2 b st tok k)[j]?=some o) :
  (base++(i9 W base.length n n2 b st tok k++tl))[i]?=some (o.ren (rn (fR base.length) N)):=by
 refine wf (P:=fun j=>(fR base.length)[j]?=some i->(lxQ W n n2 b st tok k)[j]?=some o->(base++(i9 W base.length n n2 b st tok k++tl))[i]?=some (o.ren (rn (fR base.length) N))) ?_ ?_ ?_ ?_ ?_ ?_ nofun j hj ho <;> (intro hj ho;cases hj;cases ho)
 .exact bA base _ 1
 .refine(bA base _ 0).trans ?_
  show some (O.dict (oV W base.length st tok) n)=_
  rw[<- yP W tok st base.length N hs]
  rfl
 .exact bA base _ 5
 .exact bA base _ 4
 .exact bA base _ 6
 .exact bA base _ 7
theorem zu (p j i:Nat) (h:(fR p)[j]?=some i):i < p + 8:=
 wf (P:=fun j=>(fR p)[j]?=some i->i < p + 8) (fun h=>by cases h;lia) (fun h=>by cases h;lia) (fun h=>by cases h;lia) (fun h=>by cases h;lia) (fun h=>by cases h;lia) (fun h=>by cases h;lia) nofun j h
theorem xN (base tl:List O) (W tok b:Str) (n n2 k:Nat) (st:V) (hs:∀f,bx f st=st):eY (fR base.length) (base++(i9 W base.length n n2 b st tok k++tl)) (lxQ W n n2 b st tok k) where
 len:=rfl
 nd:=by
  unfold fR
  simp only[KW,Ka,Kf,or_false,not_or,KY,and_true,not_false_eq_true]
  refine⟨⟨?_,?_,?_,?_,?_⟩,⟨?_,?_,?_,?_⟩,⟨?_,?_,?_⟩,⟨?_,?_⟩,?_⟩ <;> lia
 lt:=fun i hi=>by
  obtain⟨j,hj⟩:=List.mem_iff_getElem?.mp hi
  have:=zu _ _ _ hj
  simp only[KC]
  have:(i9 W base.length n n2 b st tok k).length=8:=rfl
  lia
 ob:=fun j i o hj ho=>.inr (uK hs j i o hj ho)
theorem we:∀j < 8,j≠2->j≠3->j∈[1,0,5,4,6,7]:=by decide
theorem xT (base tl:List O) (W tok tok' b:Str) (n n2 k k':Nat) (st st':V) (hs':∀f,bx f st'=st'):gU (fR base.length) (base++(i9 W base.length n n2 b st tok k++tl)) (lxQ W n n2 b st' tok' k') (base++(i9 W base.length n n2 b st' tok' k'++tl)) where
 len:=by
  simp only[KC]
  rfl
 inn:=fun j o ho=>by
  have lt:j < 6:=(List.getElem?_eq_some_iff.mp ho).1
  have ob':∃i,(fR base.length)[j]?=some i:=⟨_,Kc lt⟩
  obtain⟨i,hj⟩:=ob'
  rw[show rn (fR base.length) (base++(i9 W base.length n n2 b st tok k++tl)).length j=i by unfold rn;rw[hj];rfl]
  exact uK hs' j i o hj ho
 out:=fun i hi hn=>by
  by_cases q:i < base.length
  .rw[Kn q,Kn q]
  .have ob':∃j,i=base.length + j:=⟨i - base.length,by lia⟩
   obtain⟨j,rfl⟩:=ob'
   rw[bA,bA]
   by_cases q6:j < 8
   .by_cases q2:j=2
    .subst q2;rfl
    .by_cases q3:j=3
     .subst q3;rfl
     .exact absurd (List.mem_map_of_mem (f:=(base.length + ·)) (we j q6 q2 q3)) hn
   .rw[Ke (by show 8 <=j;lia),Ke (by show 8 <=j;lia)]
    rfl
theorem Co.frame {f:V} {W:List O} {e:List Nat} (h:Co g D f args [] W v W') (w:eY e os W) (u:gU e os W' os'):Co g D (bx (rn e os.length) f) (args.map (bx (rn e os.length))) [] os (bx (rn e os.length) v) os':=fun ρ x xs ks hx hxs hks A s R hr hh hK hR=>by
 have hN:ρ.length <=os.length:=MM hh.len
 have he:∀i∈e,i < ρ.length:=fun i hi=>by rw[hh.len];exact w.lt i hi
 refine h (sub ρ e) x xs ks (hx.down hN) (ae.downs hN hxs) (by cases hks;exact .nil) A s R hr (hh.sub w) hK fun z s' ρ'' hz hh' go=>?_
 obtain⟨ν,rfl,hν⟩:=go.pre
 obtain⟨hh2,go2⟩:=hh.up (ow:=[]) w u hh' (fun _ h=>(nomatch h)) go
 exact hR z s' (ρ++ν) (by rw[<- hh.len];exact RelV.up he hz) hh2 go2
noncomputable def cT (L n:Nat):List Nat:=(K0 n).map (L + ·)
theorem mF {L:Nat} (h:(cT L n)[k]?=some i):k < n/\i=L + k:=by
 unfold cT at h
 rw[KX] at h
 obtain⟨j,h1,h2⟩:=Option.map_eq_some_iff.mp h
 obtain⟨q1,q2⟩:=List.getElem?_eq_some_iff.mp h1
 rw[List.getElem_range] at q2
 rw[M0] at q1
 exact⟨q1,by rw[<- h2,q2]⟩
theorem pr (L n k:Nat) (h:k < n):(cT L n)[k]?=some (L + k):=by
 unfold cT
 rw[KX,MP h]
 rfl
theorem yx (L n k:Nat):rn (cT L n) (L + n) k=L + k:=by
 unfold rn
 by_cases h:k < n
 .rw[pr L n k h];rfl
 .rw[Kv (by simp[cT];lia)]
  show L + n + (k - (cT L n).length)=L + k
  have:(cT L n).length=n:=by simp[cT]
  lia
noncomputable def shO (L:Nat) (o:O):O:=o.ren (L + ·)
theorem gD (L n:Nat):rn (cT L n) (L + n)=(L + ·):=funext fun k=>yx L n k
theorem qJ (os W:List O):eY (cT os.length W.length) (os++W.map (shO os.length)) W where
 len:=by simp[cT]
 nd:=by
  unfold cT
  rw[List.Nodup,List.pairwise_map]
  exact List.Pairwise.imp (fun h q=>h (Nat.add_left_cancel q)) (List.nodup_range)
 lt:=fun i hi=>by
  obtain⟨k,hk⟩:=List.mem_iff_getElem?.mp hi
  obtain⟨h1,h2⟩:=mF hk
  simp only[KC,KU]
  lia
 ob:=fun k i o hk ho=>by
  obtain⟨h1,rfl⟩:=mF hk
  refine .inr ?_
  rw[bA,KX,ho,show(os++W.map (shO os.length)).length=os.length + W.length by simp,gD]
  rfl
theorem mC (os W W':List O):gU (cT os.length W.length) (os++W.map (shO os.length)) W' (os++W'.map (shO os.length)) where
 len:=by simp[cT];lia
 inn:=fun k o ho=>by
  rw[show(os++W.map (shO os.length)).length=os.length + W.length by simp,gD]
  show(os++W'.map (shO os.length))[os.length + k]?=_
  rw[bA,KX,ho]
  rfl
 out:=fun i hi hn=>by
  have:i < os.length:=by
   refine Nat.lt_of_not_le fun h=>hn ?_
   simp only[KC,KU] at hi
   have:=pr os.length W.length (i - os.length) (by lia)
   rw[show os.length + (i - os.length)=i by lia] at this
   exact Kq this
  rw[Kn this,Kn this]
theorem Co.tail {f:V} {W:List O} (os:List O) (h:Co g D f args [] W v W'):Co g D (bx (os.length + ·) f) (args.map (bx (os.length + ·))) [] (os++W.map (shO os.length)) (bx (os.length + ·) v) (os++W'.map (shO os.length)):=by
 have c:=Co.frame h (qJ os W) (mC os W W')
 rw[show(os++W.map (shO os.length)).length=os.length + W.length by simp,gD] at c
 exact c
theorem Cy (w:J9) {s:Str}:bf (aa w) D dY [.ref 1,.str s] [] wd0 (lSi s) wd0:=fun ρ xs ks hx hk=>by
 cases hk
 cases hx with
 | cons r rs=>
  cases rs with
  | cons r2 rs=>
   cases rs
   have ob':∃o n,(KL w.params).lookup 494=some o/\o.data=.seq #[.str "" 973,.str "\n" 974] n:=eD ∅
   obtain⟨o,n,ho,hs⟩:=ob'
   refine Lf.pure fun A s hr hh hK=>?_
   rw[show(KB (·.1) ([]:List (Str×V))).zip ([]:List Kd)=[] from rfl,(fJ dY [_,_]).2]
   refine J7 (Mu (hK _ _ ho) hs ?_)
   rw[HV]
   exact Kb ⟨.cons ⟨rfl,r⟩ (.cons ⟨rfl,r2⟩ (.cons ⟨rfl,974,rfl⟩ .nil)),rfl,rfl,rfl⟩
theorem nd_sin:([J8 "self",J8 "initial_value",J8 "newline"]:List Str).Nodup:=by decide +kernel
theorem yR (w:J9) (s:Str):Co (aa w) 4 (.top (.ref 501)) [.ref 1,.str s] [] wd0 .none (wd2 s):=
 Co.def_ (Eb w) (Cy w) (fun x hx=>by
  simp only[lSi,Ka,Kf,or_false] at hx
  rcases hx with rfl | rfl | rfl <;> exact .inl ∅) nd_sin (init_run w s) rfl ⟨nofun,nofun⟩
set_option tactic.hygienic true in
theorem CY (w:J9) {s:Str}:bf (aa w) D f0 [.top (.ref 731),.str s] [] os (lNw os.length (os.length + 1)) (os++[.tuple [.str s]]++[.dict [] 0]):=fun ρ xs ks hx hk=>by
 cases hk
 cases hx with
 | cons r rs=>
  cases rs with
  | cons r2 rs=>
   cases rs
   obtain rfl:=r
   intro A st hr hh hK
   obtain⟨h,gn,dr,t,os_⟩:=st
   rw[show(KB (·.1) ([]:List (Str×V))).zip ([]:List Kd)=[] from rfl,Hl]
   have hN:N0 <=h.objs.size:=aV hK
   refine J7 (L7 ?_ (by size_fits))
   refine J7 (wpAny_alloc (Kb ?_))
   rename_i y
   have k1:∀b o,h.get? b=some o->(h.push { cls:=.type "tuple",data:=.seq [y].toArray }).get? b=some o:=fun b o e=>Ki _ e
   have h1:HR w.params (ρ++[h.objs.size]) (os++[.tuple [.str s]]) (h.push { cls:=.type "tuple",data:=.seq [y].toArray }):=HR.push hh (Km _) hN k1 (Ku _ rfl) ⟨#[y],_,rfl,.cons r2.mono .nil⟩
   have e1:(h.push { cls:=.type "tuple",data:=.seq [y].toArray }).objs.size=h.objs.size + 1:=L6 ..
   have h2:HR w.params (ρ++[h.objs.size]++[h.objs.size + 1]) (os++[.tuple [.str s]]++[.dict [] 0]) ((h.push { cls:=.type "tuple",data:=.seq [y].toArray }).push { cls:=.type "dict",data:=.dict #[] }):=
    HR.push h1 (by rw[e1];exact Km _) (by rw[e1];lia) (fun b o e=>Ki _ e) (by rw[<- e1];exact Ku _ rfl) ⟨#[],rfl,.nil,KY⟩
   refine⟨_,.cons ⟨rfl,rfl⟩ (.cons ⟨rfl,h.objs.size,?_,rfl⟩ (.cons ⟨rfl,h.objs.size + 1,?_,?_⟩ .nil)),h2,ly _ _⟩
   .rw[<- hh.len,KG,Ke (Km _),Lg];rfl
   .rw[<- hh.len,KG,Ke (by lia),show ρ.length + 1 - ρ.length=1 by lia];rfl
   .show Value.ref _=Value.ref _
    rw[e1]
theorem nd_nw3:([J8 "cls",J8 "args",J8 "kwargs"]:List Str).Nodup:=by decide +kernel
theorem CU (w:J9) (s:Str) (os:List O):Cl (aa w) 5 (.top (.ref 224)) [.top (.ref 731),.str s] [] os (.ref (os.length + 3)) (madeO (os++[.tuple [.str s]]++[.dict [] 0]) 731):=by
 have c:=Cl.def_ (D0 w) (CY w (D:=4) (s:=s) (os:=os)) (fun x hx=>by
  simp only[lNw,Ka,Kf,or_false] at hx
  rcases hx with rfl | rfl | rfl <;> exact .inl ∅) nd_nw3 (new_run w _ _ _) rfl ⟨nofun,nofun⟩
 rw[show(os++[O.tuple [.str s]]++[O.dict [] 0]).length + 1=os.length + 3 by simp] at c
 exact c
noncomputable def mo (s:Str) (p:Nat):List O:=[.tuple [.str s],.dict [] 0,.dict (df s 0) 3,.inst 731 (p + 2)]
theorem BG (w:J9) (s:Str) (os:List O):Cl (aa w) 6 (.top (.ref 731)) [.str s] [] os (.ref (os.length + 3)) (os++mo s os.length):=fun ρ f xs ks hf hxs hks A st hr hh hK=>by
 obtain rfl:f=.ref 731:=hf
 cases hks
 cases hxs with
 | cons r rs=>
  cases rs
  obtain⟨h,gn,dr,t,os_⟩:=st
  refine Ll (zM hK ?_)
  have hh':HR w.params ρ os (⟨h,gn,dr,t + 1,os_⟩:Kl).heap:=hh
  refine Kr (CU w s os ρ (.ref 224) _ [] rfl (.cons rfl (.cons r .nil)) .nil _ ⟨h,gn,dr,t + 1,os_⟩ hr.create hh' hK) ?_ (fun _ _ z=>z.elim)
  rintro z s1 ⟨ρ1,⟨a,ha,rfl⟩,h1,g1⟩
  have hK':(aa w).K.In (⟨h,gn,dr,t + 1,os_⟩:Kl).heap:=hK
  have hK1:=bY (ow:=[]) hK' hh' (fun _ h=>(nomatch h)) g1
  have hL:(os++[O.tuple [.str s]]++[O.dict [] 0]).length=os.length + 2:=by simp
  have i1:(madeO (os++[O.tuple [.str s]]++[O.dict [] 0]) 731)[os.length + 3]?=some (.inst 731 (os.length + 2)):=by
   unfold madeO
   rw[Ke (by simp),hL]
   simp
  have i2:(madeO (os++[O.tuple [.str s]]++[O.dict [] 0]) 731)[os.length + 2]?=some (.dict [] 0):=by
   unfold madeO
   rw[KG,Ke (by rw[hL];exact Km _),hL,Lg]
   rfl
  obtain⟨_,b,en,e5,_,_,I,_⟩:=h1.inst i1 i2 ⟨a,ha,rfl⟩
  cases e5
  refine⟨a,_,_,rfl,hK1,I,?_⟩
  have c:=Co.tail (os++[O.tuple [.str s]]++[O.dict [] 0]) (yR w s)
  rw[hL] at c
  have em:madeO (os++[O.tuple [.str s]]++[O.dict [] 0]) 731=os++[O.tuple [.str s]]++[O.dict [] 0]++wd0.map (shO (os.length + 2)):=by
   unfold madeO
   rw[hL,KG (os++[O.tuple [.str s]]++[O.dict [] 0])]
   rfl
  rw[em] at h1
  refine c ρ1 (.ref 501) [.ref a,_] [] rfl (.cons ⟨a,ha,rfl⟩ (.cons (r.go g1) .nil)) .nil _ s1 _ (hr.create.up (by decide)) h1 hK1 fun z s' ρ' hz hh2 g2=>⟨hz,ρ',?_,?_,?_⟩
  .obtain⟨ν,e,_⟩:=g2.pre
   exact⟨a,by rw[e];exact get_app ha,rfl⟩
  .rw[KG,KG] at hh2
   exact hh2
  .exact(Go.toks [] ρ ⟨h,gn,dr,t,os_⟩ (t + 1)).trans (g1.trans g2)
theorem Cl.isStr {a:Str}:Cl g D (.top (.builtin "isinstance")) [.str a,.top (.type "str")] [] os (.bool true) os:=fun ρ f xs ks hf hxs hks=>Lf.pure fun A s hr hh hK=>by
 obtain rfl:f=.builtin "isinstance":=hf
 cases hks
 cases hxs with
 | cons r rs=>
  cases rs with
  | cons r2 rs=>
   cases rs
   obtain⟨t,rfl⟩:=r
   obtain rfl:=r2
   exact call_isinstance_yes (Tx:="str") (by rfl) (kitMeta_of ∅) (by rw[Mn];kernel_rfl) ⟨rfl,rfl,rfl,rfl⟩
noncomputable def qZ:List Kz:=(aM 34 0).2.1
noncomputable def JU:Str:=tH (sN 0 (ah qZ 5))
noncomputable def It:Str:=tH (sN 0 (ah (af (ah qZ 6)) 0))
noncomputable def lZ:Str:=JU++It
theorem CK:My lZ "'"=false:=∅
noncomputable def Ch (W:Str) (a b c:Nat) (ws:Bool) (cm:Str):List (Str×V):=[("instream",.ref a),("infile",.none),("posix",.bool true),("eof",.none),("commenters",.str cm),("wordchars",.str W),("whitespace",.str " \t\r\n"),("whitespace_split",.bool ws),("quotes",.str "'\""),("escape",.str "\\"),("escapedquotes",.str "\""),
 ("state",.str " "),("pushback",.ref b),("lineno",.int 1),("debug",.int 0),("token",.str ""),("filestack",.ref c),("source",.none),("_punctuation_chars",.str "")]
noncomputable def kc:List O:=[.dict [] 0,.inst 866 0]
noncomputable def C1 (s:Str):List (Str×V):=[("self",.ref 1),("instream",.str s),("infile",.none),("posix",.bool true),("punctuation_chars",.bool false)]
noncomputable def lLx' (s:Str):List (Str×V):=[("self",.ref 1),("instream",.ref 5),("infile",.none),("posix",.bool true),("punctuation_chars",.str "")]
noncomputable def wl2 (s:Str):List O:=[.dict (Ch lZ 5 6 7 false "#") 19,.inst 866 0]++mo s 2++[ff,ff]
noncomputable def xY (s:Str) (k:Nat):List O:=[.dict ((Ch lZ 5 6 7 false "#").take k) k,.inst 866 0]++mo s 2
theorem shInit_run (w:J9) (s:Str):Exs (aa w) 6 jg.scope ⟨kc,C1 s⟩ qZ .next ⟨wl2 s,lLx' s⟩:=
 bq (hk:={ c:=[(642,11,642,36,fun _ _ os=>(V.bool true,os)),(643,23,643,41,fun _ _ os=>(V.ref 5,os++mo s 2)),(665,24,665,31,fun _ _ os=>(V.ref 6,os++[ff])),(669,25,669,32,fun _ _ os=>(V.ref 7,os++[ff]))] }) (X:=XU w 6 [])
  (c:=[.p (Cl (aa w) 6 (.top (.builtin "isinstance")) [.str s,.top (.type "str")] [] kc (.bool true) kc),.p (Cl (aa w) 6 (.top (.ref 731)) [.str s] [] kc (.ref 5) (kc++mo s 2)),.b true true,.b true true,.b true true,.b true true,.b true true,.b true true,.b true true,.b true true,.b true true,.b true true,.b true true,.b true true,.b true true,.b true true,
   .p (Cl (aa w) 6 (.top (.type "collections.deque")) [] [] (xY s 12) (.ref 6) (xY s 12++[ff])),.b true true,.b true true,.b true true,.b true true,.p (Cl (aa w) 6 (.top (.type "collections.deque")) [] [] (xY s 16++[ff]) (.ref 7) (xY s 16++[ff]++[ff])),.b true true,.b true true,.b true true,.b true true]) ∅
  ⟨Cl.isStr,BG w s kc,rfl,rfl,rfl,rfl,rfl,rfl,rfl,rfl,rfl,rfl,rfl,rfl,rfl,rfl,Cl.dq,rfl,rfl,rfl,rfl,Cl.dq,rfl,rfl,rfl,rfl,trivial⟩
noncomputable def oI (x y p:Kd):{ k:Option (Array Kd)->Sem (List (Str×Kd)) // K2 jg ⟨[x,y],[(J8 "posix",p)]⟩=seqItems? jg.defaults >>=k }:=⟨_,rfl⟩
theorem H4:∀x y p d1 d2 d3 d4,(oI x y p).1 (some #[d1,d2,d3,d4])=pure [(J8 "self",x),(J8 "instream",y),(J8 "infile",d2),(J8 "posix",p),(J8 "punctuation_chars",d4)]:=fun x y p d1 d2 d3 d4=>∅
theorem Cf (w:J9) {s:Str}:bf (aa w) D jg [.ref 1,.str s] [(J8 "posix",.bool true)] kc (C1 s) kc:=fun ρ xs ks hx hk=>by
 cases hx with
 | cons r rs=>
  cases rs with
  | cons r2 rs=>
   cases rs
   cases hk with
   | cons r3 rs=>
    cases rs
    have ob':∃o n,(KL w.params).lookup 783=some o/\o.data=.seq #[.none,.none,.bool false,.bool false] n:=eD ∅
    obtain⟨o,n,ho,hs⟩:=ob'
    refine Lf.pure fun A s hr hh hK=>?_
    show J6 _ _ (K2 jg ⟨[_,_],[(J8 "posix",_)]⟩) _ _ _
    rw[(oI _ _ _).2]
    refine J7 (Mu (hK _ _ ho) hs ?_)
    rw[H4]
    exact Kb ⟨.cons ⟨rfl,r⟩ (.cons ⟨rfl,r2⟩ (.cons ⟨rfl,rfl⟩ (.cons ⟨rfl,r3⟩ (.cons ⟨rfl,rfl⟩ .nil)))),rfl,rfl,rfl⟩
theorem nd_lx5:([J8 "self",J8 "instream",J8 "infile",J8 "posix",J8 "punctuation_chars"]:List Str).Nodup:=by decide +kernel
theorem sE (w:J9) (s:Str):Co (aa w) 7 (.top (.ref 790)) [.ref 1,.str s] [(J8 "posix",.bool true)] kc .none (wl2 s):=
 Co.def_ (El w) (Cf w) (fun x hx=>by
  simp only[C1,Ka,Kf,or_false] at hx
  rcases hx with rfl | rfl | rfl | rfl | rfl <;> exact .inl ∅) nd_lx5 (shInit_run w s) rfl ⟨nofun,nofun⟩
theorem bB.app {l r:List Kz} (h:Exs g D sc σ l .next σ₁) (k:bB g D sc σ₁ (fun env=>Lq r env) σ₂):bB g D sc σ (fun env=>Lq (l++r) env) σ₂:=fun A env ρ s he hr hs=>by
 show J6 _ _ (Lq (l++r) env) _ _ _
 rw[dv]
 refine J7 (h.use he hr hs fun x s1 ρ1 e st1 g1=>?_)
 obtain rfl:x=.next:=e
 exact lH g1 (k A env ρ1 s1 he hr st1)
noncomputable def iT:List Kz:=(aM 34 10).2.1
noncomputable def E7:List Kz:=(aM 34 9).2.1
noncomputable def qr:Kz:=ah iT 1
noncomputable def mR:Expr:=sN 0 qr
noncomputable def I6:Expr:=sN 0 (ah (af qr) 0)
noncomputable def IN:Pos:=sP (ah (af qr) 0)
theorem CP:qr=.If mR [.Raise (some (.Name "StopIteration" (eP I6))) none IN] [] (sP qr):=∅
theorem wa:iT=[ah iT 0]++(qr::[ah iT 2]):=∅
theorem sA:mR=.Compare (eN 0 mR) [.Eq] [eN 1 mR] (eP mR):=∅
theorem xO:mt 866 "get_token"=some 827:=∅
theorem qf:ow 866 "eof"=true:=∅
structure fS (os:List O) (i:Nat):Prop where
 at_:∃d es n,os[i]?=some (.inst 866 d)/\os[d]?=some (.dict es n)/\es.lookup (J8 "get_token")=none/\es.lookup (J8 "eof")=some V.none
theorem fS.eof (h:fS os i) (w:J9) (D:Nat):aj (aa w) D (.ref i) "eof" os .none os:=by
 obtain⟨d,es,n,h1,h2,_,h4⟩:=h.at_
 exact aj.own (g:=aa w) h1 h2 h4 (bP w.params _ _ qf).1.1 (bP w.params _ _ qf).1.2 rfl
theorem fS.mth (h:fS os i) (w:J9):an (aa w) (.ref i) "get_token" os iD:=by
 obtain⟨d,es,n,h1,h2,h3,_⟩:=h.at_
 exact an.own (g:=aa w) h1 h2 h3 (mt_ok w.params _ _ _ xO).1 (mt_ok w.params _ _ _ xO).2
noncomputable def lNq (i:Nat):List (Str×V):=[("self",.ref i)]
noncomputable def lNTq (i:Nat) (v:V):List (Str×V):=[("self",.ref i),("token",v)]
section
variable (w:J9)
theorem Gd (v:Str) (h:fS os i):Tr (aa w) 5 dX.scope ⟨os,lNTq i (.str v)⟩ mR false ⟨os,lNTq i (.str v)⟩:=by
 rw[sA]
 exact Tr.cmp (aC (X:=XU w 5 []) (v:=.str v) (s:=⟨os,lNTq i (.str v)⟩) ∅)
  (pm (X:=XU w 5 [("eof",.none)]) (c:=[.p (aj (aa w) 5 (.ref i) "eof" os .none os)]) (v:=.none) (s:=⟨os,lNTq i (.str v)⟩) ∅ ⟨h.eof w 5,trivial⟩) ak.eqSN ∅
theorem HH (h:fS os i):Tr (aa w) 5 dX.scope ⟨os,lNTq i .none⟩ mR true ⟨os,lNTq i .none⟩:=by
 rw[sA]
 exact Tr.cmp (aC (X:=XU w 5 []) (v:=.none) (s:=⟨os,lNTq i .none⟩) ∅)
  (pm (X:=XU w 5 [("eof",.none)]) (c:=[.p (aj (aa w) 5 (.ref i) "eof" os .none os)]) (v:=.none) (s:=⟨os,lNTq i .none⟩) ∅ ⟨h.eof w 5,trivial⟩) ak.eqNN ∅
theorem BO:∀x,K2 dX ⟨[x],[]⟩=pure [(J8 "self",x)]:=fun x=>∅
theorem G8:∀x,K2 jX ⟨[x],[]⟩=pure [(J8 "self",x)]:=fun x=>∅
theorem xw (i:Nat):∀x∈lNq i,dX.scope.names.lookup x.1=some .local\/dX.scope.names.lookup x.1=some .cell:=fun x hx=>by
 simp only[lNq,Ka,Kf,or_false] at hx
 rcases hx with rfl
 exact .inl ∅
theorem Fh (i:Nat):∀x∈lNq i,jX.scope.names.lookup x.1=some .local\/jX.scope.names.lookup x.1=some .cell:=fun x hx=>by
 simp only[lNq,Ka,Kf,or_false] at hx
 rcases hx with rfl
 exact .inl ∅
theorem sZ {v:Str} (h:fS os i) (h':fS os' i) (c:Cl (aa w) 5 iD [.ref i] [] os (.str v) os'):Cl (aa w) 6 (.top (.ref 863)) [.ref i] [] os (.str v) os':=by
 have run:Exs (aa w) 5 dX.scope ⟨os,lNq i⟩ iT (.ret (.str v)) ⟨os',lNTq i (.str v)⟩:=
  bq (hk:={ m:=[(887,16,887,32,iD)],t:=[(888,11,888,28,fun σ=>(false,σ))],c:=[(887,16,887,32,fun _ _ _=>(.str v,os'))] }) (X:=XU w 5 [])
   (c:=[.p (an (aa w) (.ref i) "get_token" os iD),.p (Cl (aa w) 5 iD [.ref i] [] os (.str v) os'),.p (Tr (aa w) 5 dX.scope ⟨os',lNTq i (.str v)⟩ mR false ⟨os',lNTq i (.str v)⟩)]) ∅
   ⟨h.mth w,c,Gd w v h',trivial⟩
 exact Cl.def_ (xK w) (bf.of1 BO (a:=.ref i) (os:=os)) (xw i) iK run rfl ⟨nofun,nofun⟩
theorem rO:Cl (aa w) 6 (.top (.ref 856)) [.ref i] [] os (.ref i) os:=by
 have run:Exs (aa w) 5 jX.scope ⟨os,lNq i⟩ E7 (.ret (.ref i)) ⟨os,lNq i⟩:=
  jp (X:=XU w 5 []) ∅
 exact Cl.def_ (EH w) (bf.of1 G8 (a:=.ref i) (os:=os)) (Fh i) iK run rfl ⟨nofun,nofun⟩
theorem wJ (P:K5):dX.scope.names.lookup (J8 "StopIteration")=some Nq/\nsIn (KL P) K9 "StopIteration"=some none/\nsIn (KL P) LL "StopIteration"=some (some (.type "StopIteration")):=⟨∅,∅,∅⟩
theorem vj (h:fS os i) (h':fS os' i) (c:Cl (aa w) 5 iD [.ref i] [] os .none os'):im (aa w) 6 (.top (.ref 863)) [.ref i] os os':=by
 have run:Exs (aa w) 5 dX.scope ⟨os,lNq i⟩ [ah iT 0] .next ⟨os',lNTq i .none⟩:=
  bq (hk:={ m:=[(887,16,887,32,iD)],c:=[(887,16,887,32,fun _ _ _=>(V.none,os'))] }) (X:=XU w 5 [])
   (c:=[.p (an (aa w) (.ref i) "get_token" os iD),.p (Cl (aa w) 5 iD [.ref i] [] os .none os')]) ∅
   ⟨h.mth w,c,trivial⟩
 have st:bB (aa w) 5 dX.scope ⟨os,lNq i⟩ (fun env=>Lq iT env) ⟨os',lNTq i .none⟩:=by
  rw[wa]
  refine bB.app run (bB.here ?_)
  rw[CP]
  refine bB.iteT (HH w h') (bB.here (bB.raise fun A env ρ s he hs=>?_))
  obtain⟨h1,h2,h3⟩:=wJ w.params
  refine Mk ?_ (by decide)
  rw[ND hs.er.kind (by show env.scope.names.lookup _=_;rw[he];exact h1)]
  unfold loadGlobal
  rw[hs.er.glob,hs.er.blt]
  refine J7 ((M8 hs.k h2).here ?_)
  refine J7 ((M8 hs.k h3).here ?_)
  exact Kb ⟨rfl,rfl⟩
 exact im.def_ (xK w) (bf.of1 BO (a:=.ref i) (os:=os)) (xw i) iK st
end
noncomputable def lnQ (ms:List Nat):Str:=MN " " (ms.map aI)
noncomputable def jm:List Nat->List Nat
 | []=>[]
 | [m]=>(aI m).cps.toList
 | m::m'::r=>(aI m).cps.toList++32::jm (m'::r)
theorem pd:∀ms:List Nat,(Str.join " " (ms.map aI)).cps.toList=jm ms
 | []=>rfl
 | [m]=>rfl
 | m::m'::r=>by
  show((aI m++(" " : Str))++Str.join " " ((m'::r).map aI)).cps.toList=_
  show(((aI m).cps++(" " : Str).cps)++(Str.join " " ((m'::r).map aI)).cps).toList=_
  rw[NU,NU,pd (m'::r)]
  show(aI m).cps.toList++[32]++jm (m'::r)=_
  rw[KG]
  rfl
theorem mB (ms:List Nat):(lnQ ms).cps.toList=jm ms:=by
 unfold lnQ
 rw[show MN " " (ms.map aI)=Str.join " " (ms.map aI) from PySem.StrLaws.glued_eq_join ..]
 exact pd ms
theorem qg:∀ms:List Nat,ms≠[]->(jm ms).length + 1=11 * ms.length
 | [],h=>absurd rfl h
 | [m],_=>rfl
 | m::m'::r,_=>by
  have:=qg (m'::r) (List.cons_ne_nil _ _)
  show((aI m).cps.toList++32::jm (m'::r)).length + 1=_
  rw[KC]
  have e:(aI m).cps.toList.length=10:=rfl
  simp only[Li] at this ⊢
  lia
theorem uC:∀(ms:List Nat) (k m j:Nat),ms[k]?=some m->j < 10->(jm ms)[11 * k + j]?=(aI m).cps.toList[j]?
 | [],k,m,j,h,_=>by simp at h
 | [m0],0,m,j,h,hj=>by
  cases h
  show(aI m0).cps.toList[11 * 0 + j]?=_
  rw[Nat.mul_zero,Nat.zero_add]
 | [m0],k + 1,m,j,h,_=>by simp at h
 | m0::m1::r,0,m,j,h,hj=>by
  cases h
  show((aI m0).cps.toList++32::jm (m1::r))[11 * 0 + j]?=_
  rw[Nat.mul_zero,Nat.zero_add,Kn (by exact hj)]
 | m0::m1::r,k + 1,m,j,h,hj=>by
  show((aI m0).cps.toList++32::jm (m1::r))[11 * (k + 1) + j]?=_
  have e:(aI m0).cps.toList.length=10:=rfl
  rw[Ke (by lia),e,show 11 * (k + 1) + j - 10=(11 * k + j) + 1 by lia,Nr]
  exact uC (m1::r) k m j h hj
theorem tf:∀(ms:List Nat) (k:Nat),k + 1 < ms.length->(jm ms)[11 * k + 10]?=some 32
 | [],k,h=>by simp at h
 | [m0],k,h=>by simp at h
 | m0::m1::r,0,h=>by
  show((aI m0).cps.toList++32::jm (m1::r))[10]?=_
  have e:(aI m0).cps.toList.length=10:=rfl
  rw[Ke (by lia),e]
  rfl
 | m0::m1::r,k + 1,h=>by
  show((aI m0).cps.toList++32::jm (m1::r))[11 * (k + 1) + 10]?=_
  have e:(aI m0).cps.toList.length=10:=rfl
  rw[Ke (by lia),e,show 11 * (k + 1) + 10 - 10=(11 * k + 10) + 1 by lia,Nr]
  exact tf (m1::r) k (by simp only[Li] at h ⊢;lia)
theorem qn (ms:List Nat) (h:ms≠[]):(lnQ ms).length + 1=11 * ms.length:=by
 rw[<- qg ms h,<- mB]
 rfl
theorem tP (ms:List Nat) (h:ms[k]?=some m):At (lnQ ms) (11 * k) m:=fun j hj=>by
 rw[<- Lm,mB,uC ms k m j h hj,Lm]
theorem DB (ms:List Nat) (h:k + 1 < ms.length):(lnQ ms).cps[11 * k + 10]?=some 32:=by
 rw[<- Lm,mB,tf ms k h]
noncomputable def dS (N k:Nat):V:=if k < N then .str " " else .none
noncomputable def fj (N k:Nat):Nat:=if k < N then 11 * k else 11 * N - 1
noncomputable def qy (W:Str) (n n2:Nat) (ms:List Nat) (k:Nat):List O:=lxQ W n n2 (lnQ ms) (dS ms.length k) "" (fj ms.length k)
noncomputable def ed (W:Str) (p n n2:Nat) (ms:List Nat) (k:Nat):List O:=i9 W p n n2 (lnQ ms) (dS ms.length k) "" (fj ms.length k)
theorem j5 (N k:Nat):∀f,bx f (dS N k)=dS N k:=fun f=>by
 unfold dS
 split <;> rfl
section
variable (w:J9) (hW:My W "'"=false) (hm:ms.length <=80) (hne:ms≠[])
include hW hm hne
theorem Hp (h:ms[k]?=some m):Cl (aa w) 5 iD [.ref 0] [] (qy W n n2 ms k) (.str (wdN m)) (qy W n n2 ms (k + 1)):=by
 have hk:k < ms.length:=(List.getElem?_eq_some_iff.mp h).1
 have hl:=qn ms hne
 have e1:dS ms.length k=.str " ":=if_pos hk
 have e2:fj ms.length k=11 * k:=if_pos hk
 unfold qy
 rw[e1,e2]
 by_cases q:k + 1 < ms.length
 .rw[show dS ms.length (k + 1)=.str " " from if_pos q,show fj ms.length (k + 1)=11 * k + 11 from(if_pos q).trans (by lia)]
  exact n7 (ur w W (lnQ ms) (.ref 4) (.ref 5) n n2 (11 * k) m (by lia) hW rfl rfl (tP ms h) (DB ms q))
 .rw[show dS ms.length (k + 1)=.none from if_neg q,show fj ms.length (k + 1)=11 * k + 10 from(if_neg q).trans (by lia)]
  exact n7 (uw w W (lnQ ms) (.ref 4) (.ref 5) n n2 (11 * k) m (by lia) hW rfl rfl (tP ms h) (by lia))
theorem Dg:Cl (aa w) 5 iD [.ref 0] [] (qy W n n2 ms ms.length) .none (qy W n n2 ms ms.length):=by
 have hl:=qn ms hne
 unfold qy
 rw[show dS ms.length ms.length=.none from if_neg (KM _),show fj ms.length ms.length=11 * ms.length - 1 from if_neg (KM _)]
 exact y4 (sH w W (lnQ ms) (.ref 4) (.ref 5) n n2 (11 * ms.length - 1) (by lia) (by lia))
end
theorem Eg (P:K5):jS (KL P) 866 856 863:=⟨∅,∅,∅,∅,∅,∅⟩
theorem cY.ofS {f:V} (h:Cl g D f args kw os v os'):cY g D f args kw os v os':=fun ρ x xs ks hx hxs hks=>qS.ofS (h ρ x xs ks hx hxs hks)
theorem fS.of (base tl:List O) (W tok b:Str) (n n2 k:Nat) (st:V):fS (base++(i9 W base.length n n2 b st tok k++tl)) (base.length + 1):=
 ⟨base.length,oV W base.length st tok,n,bA base _ 1,bA base _ 0,rfl,rfl⟩
section
variable (w:J9) (hW:My W "'"=false) (hm:ms.length <=80) (hne:ms≠[]) (base:List O)
include hW hm hne
theorem Hq (h:ms[k]?=some m) (tl:List O):Cl (aa w) 6 (.top (.ref 863)) [.ref (base.length + 1)] [] (base++(ed W base.length n n2 ms k++tl)) (.str (wdN m)) (base++(ed W base.length n n2 ms (k + 1)++tl)):=by
 have c:=Cl.frame (Hp w (n:=n) (n2:=n2) hW hm hne h) (xN base tl W "" (lnQ ms) n n2 (fj ms.length k) (dS ms.length k) (j5 _ _)) (xT base tl W "" "" (lnQ ms) n n2 (fj ms.length k) (fj ms.length (k + 1)) (dS ms.length k) (dS ms.length (k + 1)) (j5 _ _))
 exact sZ w (fS.of ..) (fS.of ..) c
theorem B5 (tl:List O):im (aa w) 6 (.top (.ref 863)) [.ref (base.length + 1)] (base++(ed W base.length n n2 ms ms.length++tl)) (base++(ed W base.length n n2 ms ms.length++tl)):=by
 have c:=Cl.frame (Dg w (n:=n) (n2:=n2) hW hm hne) (xN base tl W "" (lnQ ms) n n2 (fj ms.length ms.length) (dS ms.length ms.length) (j5 _ _)) (xT base tl W "" "" (lnQ ms) n n2 (fj ms.length ms.length) (fj ms.length ms.length) (dS ms.length ms.length) (dS ms.length ms.length) (j5 _ _))
 exact vj w (fS.of ..) (fS.of ..) c
theorem Da:kZ (aa w) 6 866 856 863 (base.length + 1) (mkW ms) (fun k=>base++ed W base.length n n2 ms k) (base++ed W base.length n n2 ms ms.length) where
 inst:=fun k _=>⟨base.length,_,n,bA base _ 1,bA base _ 0⟩
 len:=fun k _=>by simp only[KC];rfl
 lenz:=by simp only[KC];rfl
 next:=fun k v acc hv=>by
  have ob':∃m,ms[k]?=some m/\v=.str (wdN m):=by
   unfold mkW at hv
   rw[KX] at hv
   obtain⟨m,h1,h2⟩:=Option.map_eq_some_iff.mp hv
   exact⟨m,h1,h2.symm⟩
  obtain⟨m,hm1,rfl⟩:=ob'
  have c:=cY.ofS (Hq w (n:=n) (n2:=n2) hW hm hne base hm1 [.list acc])
  rw[<- KG,<- KG] at c
  exact c
 stop:=fun acc=>by
  have c:=B5 w (n:=n) (n2:=n2) hW hm hne base [.list acc]
  rw[<- KG] at c
  rw[show(mkW ms).length=ms.length by simp[mkW]]
  exact c
 iter:=cY.ofS (rO w)
theorem vn:cY (aa w) 8 (.top (.type "list")) [.ref (base.length + 1)] [] (base++ed W base.length n n2 ms 0) (.ref (base.length + 8)) (base++ed W base.length n n2 ms ms.length++[.list (mkW ms)]):=by
 have c:=cY.listOwn (Eg w.params) (Da w (n:=n) (n2:=n2) hW hm hne base) (by simp[mkW];lia)
 rw[show(base++ed W base.length n n2 ms 0).length=base.length + 8 by simp only[KC];rfl] at c
 exact c
end
theorem Co.frameK {f:V} {W:List O} {e:List Nat} (h:Co g D f args kw W v W') (w:eY e os W) (u:gU e os W' os') :
  Co g D (bx (rn e os.length) f) (args.map (bx (rn e os.length))) (kw.map fun p=>(p.1,bx (rn e os.length) p.2)) os (bx (rn e os.length) v) os':=fun ρ x xs ks hx hxs hks A s R hr hh hK hR=>by
 have hN:ρ.length <=os.length:=MM hh.len
 have he:∀i∈e,i < ρ.length:=fun i hi=>by rw[hh.len];exact w.lt i hi
 have e1:(kw.map fun p=>(p.1,bx (rn e os.length) p.2)).map (·.1)=kw.map (·.1):=by rw[LU];rfl
 rw[e1]
 have hks':ae (RelV ρ) ((kw.map (·.2)).map (bx (rn e os.length))) ks:=by
  rw[LU] at hks ⊢
  exact hks
 refine h (sub ρ e) x xs ks (hx.down hN) (ae.downs hN hxs) (ae.downs hN hks') A s R hr (hh.sub w) hK fun z s' ρ'' hz hh' go=>?_
 obtain⟨ν,rfl,hν⟩:=go.pre
 obtain⟨hh2,go2⟩:=hh.up (ow:=[]) w u hh' (fun _ h=>(nomatch h)) go
 exact hR z s' (ρ++ν) (by rw[<- hh.len];exact RelV.up he hz) hh2 go2
theorem Co.tailK {f:V} {W:List O} (os:List O) (h:Co g D f args kw W v W') :
  Co g D (bx (os.length + ·) f) (args.map (bx (os.length + ·))) (kw.map fun p=>(p.1,bx (os.length + ·) p.2)) (os++W.map (shO os.length)) (bx (os.length + ·) v) (os++W'.map (shO os.length)):=by
 have c:=Co.frameK h (qJ os W) (mC os W W')
 rw[show(os++W.map (shO os.length)).length=os.length + W.length by simp,gD] at c
 exact c
theorem sf (P:K5):makesIn (KL P) 866=true/\LG (KL P) (.ref 866) "__init__"=some (some (.ref 790))/\Na (KL P) (.ref 790)=some (.type "function"):=⟨∅,∅,∅⟩
theorem vr (w:J9) (s:Str) (os:List O):Co (aa w) 8 (.top (.ref 866)) [.str s] [(J8 "posix",.bool true)] os (.ref (os.length + 1)) (os++(wl2 s).map (shO os.length)):=by
 have c:=Co.tailK os (sE w s)
 refine Co.make (sf w.params).1 (sf w.params).2.1 (sf w.params).2.2 ?_
 rw[show madeO os 866=os++kc.map (shO os.length) from by unfold madeO;rw[KG];rfl]
 exact c
noncomputable def fY:List Kz:=(bt 35).2.1
noncomputable def lSp (s:Str) (tl:List (Str×V)):List (Str×V):=("s",.str s)::("comments",.bool false)::("posix",.bool true)::tl
noncomputable def wl3 (s:Str):List O:=[.dict (Ch lZ 5 6 7 true "") 19,.inst 866 0]++mo s 2++[ff,ff]
theorem p7 (w:J9) (s:Str):Exs (aa w) 8 hV.scope ⟨[],lSp s []⟩ (fY.take 4) .next ⟨wl3 s,lSp s [("lex",.ref 1)]⟩:=
 bq (hk:={ c:=[(894,10,894,31,fun _ _ _=>(V.ref 1,wl2 s))] }) (X:=XU w 8 [])
  (c:=[.p (Cl (aa w) 8 (.top (.ref 866)) [.str s] [(J8 "posix",.bool true)] [] (.ref 1) (wl2 s)),.b true true,.b true true]) ∅
  ⟨by
   have c:=(vr w s []).cl
   rw[show([]:List O)++(wl2 s).map (shO ([]:List O).length)=wl2 s from ∅] at c
   exact c,rfl,rfl,trivial⟩
theorem yW (p:Nat) (h:ms≠[]):(wl3 (lnQ ms)).map (shO p)=ed lZ p 19 3 ms 0:=by
 have hp:0 < ms.length:=List.length_pos_iff.mpr h
 unfold ed
 rw[show dS ms.length 0=.str " " from if_pos hp,show fj ms.length 0=0 from if_pos hp]
 rfl
theorem sF (w:J9) (s:Str) (os:List O):Exs (aa w) 8 hV.scope ⟨os,lSp s []⟩ (fY.take 4) .next ⟨os++(wl3 s).map (shO os.length),lSp s [("lex",.ref (os.length + 1))]⟩:=by
 have u:=mC os [] (wl3 s)
 rw[List.map_nil,KZ] at u
 refine Exs.frame (p7 w s) (eY.nil os) u rfl ?_ rfl
 rw[show rn [] os.length=(os.length + ·) from by have:=gD os.length 0;exact this]
 rfl
theorem vK:fY=fY.take 4++[ah fY 4]:=∅
noncomputable def vx:Expr:=sN 0 (ah fY 4)
theorem wG:ah fY 4=.Return (some (.Call (eN 0 vx) [eN 1 vx] [] (eP vx))) (sP (ah fY 4)):=∅
theorem HZ:∀x d1 d2,(fJ hV [x]).1 (some #[d1,d2])=pure [(J8 "s",x),(J8 "comments",d1),(J8 "posix",d2)]:=fun x d1 d2=>∅
theorem Dl (w:J9) {s:Str}:bf (aa w) D hV [.str s] [] os (lSp s []) os:=fun ρ xs ks hx hk=>by
 cases hk
 cases hx with
 | cons r rs=>
  cases rs
  have ob':∃o n,(KL w.params).lookup 871=some o/\o.data=.seq #[.bool false,.bool true] n:=eD ∅
  obtain⟨o,n,ho,hs⟩:=ob'
  refine Lf.pure fun A s hr hh hK=>?_
  rw[show(KB (·.1) ([]:List (Str×V))).zip ([]:List Kd)=[] from rfl,(fJ hV [_]).2]
  refine J7 (Mu (hK _ _ ho) hs ?_)
  rw[HZ]
  exact Kb ⟨.cons ⟨rfl,r⟩ (.cons ⟨rfl,rfl⟩ (.cons ⟨rfl,rfl⟩ .nil)),rfl,rfl,rfl⟩
theorem nd_scp:([J8 "s",J8 "comments",J8 "posix"]:List Str).Nodup:=by decide +kernel
noncomputable def spO (p:Nat) (ms:List Nat):List O:=ed lZ p 19 3 ms ms.length++[.list (mkW ms)]
theorem wU (w:J9) (hm:ms.length <=80) (hne:ms≠[]) (os:List O):cY (aa w) 9 (.top (.ref 878)) [.str (lnQ ms)] [] os (.ref (os.length + 8)) (os++spO os.length ms):=by
 have l:=vn w (n:=19) (n2:=3) CK hm hne os
 have pre:=sF w (lnQ ms) os
 rw[yW os.length hne] at pre
 have run:aQ (aa w) 8 hV.scope ⟨os,lSp (lnQ ms) []⟩ fY (.ret (.ref (os.length + 8))) ⟨os++spO os.length ms,lSp (lnQ ms) [("lex",.ref (os.length + 1))]⟩:=by
  rw[vK]
  refine aQ.app (bm.ofS pre) (aQ.stop ?_ nofun)
  rw[wG]
  refine cy.ret ?_
  have e:os++spO os.length ms=os++ed lZ os.length 19 3 ms ms.length++[.list (mkW ms)]:=by unfold spO;rw[KG]
  rw[e]
  exact dQ.call (aC (X:=XU w 8 []) (v:=.top (.type "list")) (s:=⟨os++ed lZ os.length 19 3 ms 0,lSp (lnQ ms) [("lex",.ref (os.length + 1))]⟩) ∅)
   (bU.cons (aC (X:=XU w 8 []) (v:=.ref (os.length + 1)) (s:=⟨os++ed lZ os.length 19 3 ms 0,lSp (lnQ ms) [("lex",.ref (os.length + 1))]⟩) ∅) bU.nil) dC.nil Kp.typ l ∅ ∅
 exact(jD.def_ (xP w) (Dl w (D:=8) (s:=lnQ ms) (os:=os)) (fun x hx=>by
  simp only[lSp,Ka,Kf,or_false] at hx
  rcases hx with rfl | rfl | rfl <;> exact .inl ∅) nd_scp run rfl ⟨nofun,nofun⟩).cl
theorem tx {f:V->V->Option Bool} {xs:List V} (h:ae (fun x y=>f x y=some true) xs ys):∃l,qI f xs ys=some l/\l.all id=true:=by
 induction h with
 | nil=>exact⟨[],rfl,rfl⟩
 | cons h _ ih=>
  obtain⟨l,e,a⟩:=ih
  exact⟨true::l,by show(f _ _).bind (fun b=>(qI f _ _).map (b::·))=_;rw[h,e];rfl,a⟩
theorem mL {α β:Type} {R:α->α->Prop} (f:β->α):∀(l:List β),(∀x∈l,R (f x) (f x))->ae R (l.map f) (l.map f)
 | [],_=>.nil
 | a::r,h=>.cons (h a (.head _)) (mL f r fun x hx=>h x (.tail _ hx))
theorem jt {xs:List V} (hi:os[i]?=some (.list xs)) (hj:os[j]?=some (.list ys)) (ne:i≠j) (h:ae (fun x y=>iI os n x y=some true) xs ys):iI os (n + 1) (.ref i) (.ref j)=some true:=by
 obtain⟨l,e,a⟩:=tx h
 have hl:Lw xs.length ys.length=true:=by rw[Nat.beq_eq];exact h.length.symm
 show mW os (iI os n) i j=_
 rw[AX hi hj ne hl,e]
 show some (l.all id)=some true
 rw[a]
theorem zR (a:Str):sq a a=true:=by rw[ca];exact beq_self_eq_true a
theorem qC (n:Nat) (a:Str):iI os n (.str a) (.str a)=some true:=by
 cases n <;> (show some (sq a a)=some true;rw[zR])
theorem kM (f:α->Str) {l:List α} (hi:os[i]?=some (.list (l.map fun x=>.str (f x)))) (hj:os[j]?=some (.list (l.map fun x=>.str (f x)))) (ne:i≠j):iI os (n + 1) (.ref i) (.ref j)=some true:=
 jt hi hj ne (mL (fun x=>V.str (f x)) l fun x _=>qC n (f x))
noncomputable def nE (P:Nat->Prop) (os:List O) (r:Nat) (t:List (Nat×List Nat)):Prop:=
 P r/\∃rs,os[r]?=some (.list rs)/\ae (fun(v:V) (p:Nat×List Nat)=>∃i j,v=.ref i/\P i/\P j/\os[i]?=some (.list [.str (wdN p.1),.ref j])/\os[j]?=some (.list (mkW p.2))) rs t
theorem rN {rs rs':List V} {t:List (Nat×List Nat)} (h:ae (fun(v:V) (p:Nat×List Nat)=>∃i j,v=.ref i/\i < N/\j < N/\os[i]?=some (.list [.str (wdN p.1),.ref j])/\os[j]?=some (.list (mkW p.2))) rs t)
  (h':ae (fun(v:V) (p:Nat×List Nat)=>∃i j,v=.ref i/\N <=i/\N <=j/\os[i]?=some (.list [.str (wdN p.1),.ref j])/\os[j]?=some (.list (mkW p.2))) rs' t):ae (fun x y=>iI os 2 x y=some true) rs rs':=by
 induction h generalizing rs' with
 | nil=>
  cases h'
  exact .nil
 | cons h _ ih=>
  cases h' with
  | cons h' r'=>
   obtain⟨i,j,rfl,a1,a2,a3,a4⟩:=h
   obtain⟨i',j',rfl,b1,b2,b3,b4⟩:=h'
   exact .cons (jt a3 b3 (M1 (Nj a1 b1)) (.cons (qC 1 _) (.cons (kM (n:=0) wdN a4 b4 (M1 (Nj a2 b2))) .nil))) (ih r')
theorem AK {r r':Nat} {t:List (Nat×List Nat)} (h:nE (· < N) os r t) (h':nE (N <=·) os r' t):iI os 3 (.ref r) (.ref r')=some true:=by
 obtain⟨p,rs,e,a⟩:=h
 obtain⟨p',rs',e',a'⟩:=h'
 exact jt e e' (by have q1:r < N:=p;have q2:N <=r':=p';lia) (rN a a')
theorem Fj (i N:Nat):rn [i] N 0=i:=rfl
theorem lJ (i N k:Nat):rn [i] N (k + 1)=N + k:=by
 unfold rn
 rw[Kv (by simp)]
 show N + (k + 1 - 1)=_
 lia
theorem GT (ho:os[i]?=some o) (hr:∀f,o.ren f=o):eY [i] os [o] where
 len:=rfl
 nd:=by simp
 lt:=fun j hj=>by
  rw[Kw] at hj
  exact hj▸(List.getElem?_eq_some_iff.mp ho).1
 ob:=fun k j p hk hp=>by
  match k with
  | 0=>cases hk;cases hp;exact .inr (by rw[hr];exact ho)
  | k + 1=>exact nS hk
noncomputable def lj (i N:Nat) (tl:List O):List O:=tl.map (O.ren (rn [i] N))
theorem HL (ho:os[i]?=some o) (hr:∀f,o.ren f=o):gU [i] os (o::tl) (os++lj i os.length tl) where
 len:=by simp[lj];lia
 inn:=fun k p hp=>by
  match k with
  | 0=>
   cases hp
   rw[hr,Fj]
   exact ab ho
  | k + 1=>
   rw[lJ]
   show(os++lj i os.length tl)[os.length + k]?=_
   rw[bA]
   unfold lj
   rw[KX,show tl[k]?=some p from hp]
   rfl
 out:=fun j hj hn=>by rw[Kn hj]
theorem mD (ms:List Nat) (f:Nat->Nat):(O.list (mkI ms)).ren f=.list (mkI ms):=by
 show O.list ((mkI ms).map (bx f))=_
 unfold mkI
 rw[LU]
 rfl
theorem qq (ms:List Nat) (f:Nat->Nat):(O.list (mkW ms)).ren f=.list (mkW ms):=by
 show O.list ((mkW ms).map (bx f))=_
 unfold mkW
 rw[LU]
 rfl
theorem vC {r:Nat} {t:List (Nat×List Nat)} (hne:ms≠[]) (h:sn (.list (mkI ms)::tl) r t) :
  nE (os.length <=·) (os++lj i os.length tl) (rn [i] os.length r) t:=by
 have ob':∃a l,ms=a::l:=by cases ms with | nil=>exact absurd rfl hne | cons a l=>exact⟨a,l,rfl⟩
 obtain⟨a,ms',rfl⟩:=ob'
 obtain⟨rs,e,al⟩:=h
 have at_:∀{k:Nat} {o:O},(O.list (mkI (a::ms'))::tl)[k + 1]?=some o->(os++lj i os.length tl)[os.length + k]?=some (o.ren (rn [i] os.length)):=fun {k o} q=>by
  rw[bA]
  unfold lj
  rw[KX,show tl[k]?=some o from q]
  rfl
 have hr:∃k,r=k + 1:=by
  match r with
  | k + 1=>exact⟨k,rfl⟩
  | 0=>
   cases e
   cases al with
   | cons h1 _=>obtain⟨i,j,q,_⟩:=h1;cases q
 obtain⟨k,rfl⟩:=hr
 refine⟨by rw[lJ];lia,_,by rw[lJ];exact at_ e,?_⟩
 refine al.to_map (f:=bx (rn [i] os.length)) fun v p hp=>?_
 obtain⟨x,y,rfl,q1,q2⟩:=hp
 have ob':∃k,x=k + 1:=by
  match x with
  | k + 1=>exact⟨k,rfl⟩
  | 0=>cases q1
 obtain⟨x',rfl⟩:=ob'
 have ob':∃k,y=k + 1:=by
  match y with
  | k + 1=>exact⟨k,rfl⟩
  | 0=>
   have q3:some (O.list (mkI (a::ms')))=some (O.list (mkW p.2)):=q2
   cases hp2:p.2 with
   | nil=>rw[hp2] at q3;cases q3
   | cons b l=>rw[hp2] at q3;cases q3
 obtain⟨y',rfl⟩:=ob'
 refine⟨os.length + x',os.length + y',?_,by lia,by lia,?_,?_⟩
 .show V.ref (rn [i] os.length (x' + 1))=_
  rw[lJ]
 .have:=at_ q1
  rw[this]
  show some (O.list [V.str (wdN p.1),V.ref (rn [i] os.length (y' + 1))])=_
  rw[lJ]
 .have:=at_ q2
  rw[this,qq]
theorem uJ {r:Nat} {t:List (Nat×List Nat)} (h:sn os r t):nE (· < os.length) (os++tl) r t:=by
 obtain⟨rs,e,al⟩:=h
 refine⟨(List.getElem?_eq_some_iff.mp e).1,rs,ab e,?_⟩
 have:∀{l:List V} {l':List (Nat×List Nat)},ae (fun(v:V) (p:Nat×List Nat)=>∃i j,v=.ref i/\os[i]?=some (.list [.str (wdN p.1),.ref j])/\os[j]?=some (.list (mkW p.2))) l l'->
   ae (fun(v:V) (p:Nat×List Nat)=>∃i j,v=.ref i/\i < os.length/\j < os.length/\(os++tl)[i]?=some (.list [.str (wdN p.1),.ref j])/\(os++tl)[j]?=some (.list (mkW p.2))) l l':=fun {l l'} q=>
  q.mono fun v p ⟨i,j,e1,e2,e3⟩=>⟨i,j,e1,(List.getElem?_eq_some_iff.mp e2).1,(List.getElem?_eq_some_iff.mp e3).1,ab e2,ab e3⟩
 exact this al
theorem HW {a b:O} (hi:os[i]?=some a) (hj:os[j]?=some b) (ne:i≠j) (ha:∀f,a.ren f=a) (hb:∀f,b.ren f=b):eY [i,j] os [a,b]/\gU [i,j] os [a,b] os:=by
 refine⟨⟨rfl,by simp[ne],fun k hk=>?_,fun k x p hk hp=>?_⟩,⟨rfl,fun k p hp=>?_,fun k hk hn=>rfl⟩⟩
 .simp only[Ka,Kf,or_false] at hk
  rcases hk with rfl | rfl
  .exact(List.getElem?_eq_some_iff.mp hi).1
  .exact(List.getElem?_eq_some_iff.mp hj).1
 .match k with
  | 0=>cases hk;cases hp;exact .inr (by rw[ha];exact hi)
  | 1=>cases hk;cases hp;exact .inr (by rw[hb];exact hj)
  | k + 2=>exact nS hk
 .match k with
  | 0=>cases hp;rw[ha];exact hi
  | 1=>cases hp;rw[hb];exact hj
  | k + 2=>exact nS hp
theorem cY.up {E:Nat} {f:V} (h:cY g D f args kw os v os') (le:D <=E):cY g E f args kw os v os':=fun ρ x xs ks hx hxs hks A s l hr fa fl hh hK=>h ρ x xs ks hx hxs hks A s l (hr.up le) fa fl hh hK
noncomputable def rJ:Expr:=sN 0 (ah aA 5)
noncomputable def ei (k:Nat):Expr:=eN k rJ
theorem yA:rJ=.BoolOp .Or [ei 0,ei 1,ei 2] (eP rJ):=∅
noncomputable def dR (k:Nat):Expr:=eN 0 (ei k)
theorem yQ:ei 0=.Compare (.Call (eN 0 (dR 0)) [eN 1 (dR 0)] [] (eP (dR 0))) [.NotEq] [eN 1 (ei 0)] (eP (ei 0)):=∅
theorem yj:ei 1=.Compare (dR 1) [.NotEq] [eN 1 (ei 1)] (eP (ei 1)):=∅
theorem yH:ei 2=.Compare (.Call (eN 0 (dR 2)) [eN 1 (dR 2)] [] (eP (dR 2))) [.NotEq] [eN 1 (ei 2)] (eP (ei 2)):=∅
theorem zO:dR 1=fb aw.scope (dR 1):=∅
noncomputable def jO:Expr:=sN 0 (ah aA 6)
noncomputable def pq:Expr:=eN 1 jO
theorem yl:ah aA 6=.Return (some jO) (sP (ah aA 6)):=∅
theorem yt:jO=.BoolOp .And [eN 0 jO,eN 1 jO] (eP jO):=∅
theorem Bq:eN 1 jO=.Compare (.Call (eN 0 (eN 0 pq)) [eN 1 (eN 0 pq)] [] (eP (eN 0 pq))) [.Eq] [.Call (eN 0 (eN 1 pq)) [eN 1 (eN 1 pq)] [] (eP (eN 1 pq))] (eP pq):=∅
theorem zH:ah aA 5=.If rJ (af (ah aA 5)) [] (sP (ah aA 5)):=∅
theorem wm:aA=[ah aA 0,ah aA 1,ah aA 2,ah aA 3,ah aA 4]++[ah aA 5,ah aA 6]:=∅
theorem ER.keepTJ {loc:List (Str×V)} (x:ER ρ h env loc) (k:∀b o,b≠TJ->h.get? b=some o->h'.get? b=some o):ER ρ h' env loc:=by
 obtain⟨m,⟨oL,es,ep,hoL,r⟩,hl⟩:=x.loc
 refine⟨x.glob,x.blt,x.kind,⟨m,⟨oL,es,ep,k _ _ (dg x.low.1) hoL,r⟩,hl⟩,fun z hz=>?_,x.low,fun p hp=>?_,x.capart⟩
 .obtain⟨c,o,h1,⟨ob,h2,h3⟩,h4⟩:=x.cell z hz
  exact⟨c,o,h1,⟨ob,k _ _ (dg (x.clow _ (mem_of_lookup h1)).1) h2,h3⟩,h4⟩
 .obtain⟨a1,⟨ob,a2⟩,a3⟩:=x.clow p hp
  exact⟨a1,⟨ob,k _ _ (dg a1) a2⟩,a3⟩
theorem St.keepTJ (x:St (aa w) env σ ρ s) (k:∀b o,b≠TJ->s.heap.get? b=some o->s'.heap.get? b=some o):St (aa w) env σ ρ s':=
 ⟨x.hr.keepsIn fun b hb o e=>k b o (dg (x.hr.hi b hb).1) e,x.er.keepTJ k,fun b o e=>k b o (fun q=>C4 q e) (x.k b o e)⟩
theorem cF.keepTJ (x:cF env outer ρ h) (k:∀b o,b≠TJ->h.get? b=some o->h'.get? b=some o):cF env outer ρ h':=
 ⟨⟨fun e he=>let⟨a1,L,o,a2,a3,a4,a5⟩:=x.fr.all e he;⟨a1,L,o,a2,k _ _ (dg a5) a3,a4,a5⟩⟩,x.frm,x.apart⟩
theorem HJ (P:K5):(KL P).lookup 4=some vN:=∅
section
variable (w:J9)
noncomputable def QS (vs:Array Kd) (n:Nat) (xs:List Int):S:=⟨osQr vs n xs,lwF xs⟩
theorem gh (xs:List Int):6 <=(bG xs).length/\(bG xs).length <=11:=⟨uP xs,jd xs⟩
theorem uH (xs:List Int):bG xs≠[]:=fun e=>by
 have:=(gh xs).1
 rw[e] at this
 simp at this
theorem um {Q:Bool->Kl->Prop} (he:env.scope=aw.scope) (hr:aB 10 A) (fe:cF env [] ρ s.heap) (st:St (aa w) env (QS vs n xs) ρ s) (hJ:s.heap.get? TJ=some (dT #[])) (hG:AllBare s.gens)
  (k:∀s' ρ',St (aa w) env (QS vs n xs) ρ' s'->cF env [] ρ' s'.heap->mZ (own env) ρ s ρ' s'->Q false s'):J6 (Kx PW w) A (isTrue (ei 0) env (KP (ei 0) env)) Q E s:=by
 rw[yQ]
 have hf:Ev (aa w) 10 aw.scope (QS vs n xs) (eN 0 (dR 0)) (.top (.ref 885)) (QS vs n xs):=aC (X:=X0 w 10 aq) ∅
 have hw:bU (aa w) 10 aw.scope (QS vs n xs) [eN 1 (dR 0)] [.ref 7] (QS vs n xs):=bU.cons (aC (X:=X0 w 10 aq) ∅) bU.nil
 have hl:Ev (aa w) 10 aw.scope (QS vs n xs) (eN 1 (ei 0)) (.str (MN " " ((bG xs).map aI))) (QS vs n xs):=aC (X:=X0 w 10 aq) ∅
 refine NI ?_ ∅
 rw[fK ∅,aF ∅,aO]
 refine J7 (hf.use he hr st fun x s1 ρ1 rx st1 g1=>bd (bc (bM _) (bD (by rfl)) (hw.use he hr st1 fun ys s2 ρ2 rs st2 g2=>kwAll_nil ?_)))
 obtain rfl:x=.ref 885:=rx
 refine(sd w).kp _ A ρ2 s2 _ _ _ rfl st2.hr st2.k fun kk=>?_
 cases rs with
 | cons r1 rs=>
  cases rs
  have g12:Go (own env) ρ s ρ2 s2:=g1.trans g2
  have L12:=g12.toL st.hr.ntj st.ntj
  refine uy w (iM xs) (by have:=gh xs;unfold bG at this;lia) (hr.up (by decide)) st2.hr st2.k (g12.kept TJ _ hJ st.hr.ntj st.ntj) (st2.k _ _ (HJ w.params)) (L12.gens hG) (i:=7) rfl r1 (mK (by have:=gh xs;unfold bG at this;lia)) fun s3 t' kp gG gO gT=>?_
  have st₃:=st2.keepTJ kp
  have fe3:=(fe.go g12).keepTJ kp
  have L23:mZ (own env) ρ2 s2 ρ2 s3:=⟨⟨[],(KZ _).symm,fun _ h=>(nomatch h)⟩,fun b o e _ _ h3=>kp b o h3 e,fun b o e=>by
   by_cases q:b=TJ
   .obtain⟨vs,e'⟩:=gT
    exact⟨_,q▸e'⟩
   .exact⟨o,kp b o q e⟩,fun _=>gG,gO,fun _ _=>gT⟩
  refine hl.use he hr st₃ fun y s4 ρ4 ry st4 g4=>((ak.neS (g:=aa w) (D:=10) (a:=MN " " ((bG xs).map aI)) (b:=MN " " ((bG xs).map aI)) (os:=osQr vs n xs)) ρ4 _ _ ⟨t',rfl⟩ ry).use hr st4 fun z s5 ρ5 rz st5 g5=>?_
  have rz':z=.bool false:=by
   have:z=.bool (MN " " ((bG xs).map aI) !=MN " " ((bG xs).map aI)):=rz
   rw[this,bne_self_eq_false]
  subst rz'
  have g45:=g4.trans g5
  exact Nw (k s5 ρ5 st5 (fe3.go g45) ((L12.trans L23).trans (g45.toL st₃.hr.ntj st₃.ntj)))
end
section
variable (w:J9)
noncomputable def osK (vs:Array Kd) (n:Nat) (xs:List Int):List O:=osQr vs n xs++[.list (uN (bG xs))]
theorem sR (os:List O) (m:Nat) (hm:m < 8):Ev (aa w) 10 (compSc (cN (dR 1)) aw.scope) ⟨os,[("word",.str (wdN m))]⟩ (eN 0 (dR 1)) (.str (aI m)) ⟨os,[("word",.str (wdN m))]⟩:=
 dp (hk:={ c:=[(967,37,967,48,fun _ _ os=>(.str (aI m),os))] }) (X:=X0 w 10 aq) (c:=[.p (Cl (aa w) 10 (.top (.ref 893)) [.str (wdN m)] [] os (.str (aI m)) os)]) ∅ ⟨(i5 w m hm os).up (by decide),trivial⟩
theorem Ec:Tr (aa w) 10 aw.scope (QS vs n xs) (ei 1) false ⟨osK vs n xs,lwF xs⟩:=by
 have hc:=Ev.compL (g:=aa w) (D:=10) (sc:=aw.scope) (os:=osQr vs n xs) (loc:=lwF xs) (l0:=[]) (elt:=eN 0 (dR 1)) (t:=(ag (dR 1)).target) (iter:=(ag (dR 1)).iter) (ifs:=(ag (dR 1)).ifs) (scope:=cN (dR 1)) (pos:=eP (dR 1)) (i:=7) (x:="word") (ms:=bG xs) (W:=fun m=>V.str (wdN m)) (F:=fun m=>V.str (aI m)) (fun _=>true)
  (aC (X:=X0 w 10 aq) ∅) rfl ∅ ⟨eP (ag (dR 1)).target,∅⟩ (.inl ∅) (by rw[K4];have:=gh xs;lia) ∅ (fun v u=>rfl) (fun y hy=>(dz ∅ hy).elim)
  (fun m hm acc=>by rw[show(ag (dR 1)).ifs=[] by kernel_rfl];exact .nil)
  (fun m hm _ acc=>sR w _ m (iM xs m hm))
 rw[fE] at hc
 have h1:Ev (aa w) 10 aw.scope (QS vs n xs) (dR 1) (.ref 9) ⟨osK vs n xs,lwF xs⟩:=by
  rw[zO]
  exact hc
 have h2:Ev (aa w) 10 aw.scope ⟨osK vs n xs,lwF xs⟩ (eN 1 (ei 1)) (.ref 8) ⟨osK vs n xs,lwF xs⟩:=aC (X:=X0 w 10 aq) ∅
 have h3:=ak.neL (g:=aa w) (D:=10) (n:=1) (i:=9) (j:=8) (os:=osK vs n xs) (r:=true) (kM (n:=0) aI (l:=bG xs) rfl rfl (by decide)) (by decide)
 rw[yj]
 exact Tr.cmp h1 h2 h3 ∅
noncomputable def osSp (vs:Array Kd) (n:Nat) (xs:List Int):List O:=osK vs n xs++spO 10 (bG xs)
theorem yD:(osK vs n xs).length=10:=rfl
theorem FB:xJ (aa w) 10 aw.scope ⟨osK vs n xs,lwF xs⟩ (ei 2) false ⟨osSp vs n xs,lwF xs⟩:=by
 have sp:=(wU w (ms:=bG xs) (by have:=gh xs;lia) (uH xs) (osK vs n xs)).up (E:=10) (by decide)
 rw[yD] at sp
 have h2:Ev (aa w) 10 aw.scope ⟨osSp vs n xs,lwF xs⟩ (eN 1 (ei 2)) (.ref 7) ⟨osSp vs n xs,lwF xs⟩:=aC (X:=X0 w 10 aq) ∅
 have h3:=ak.neL (g:=aa w) (D:=10) (n:=1) (i:=18) (j:=7) (os:=osSp vs n xs) (r:=true) (kM (n:=0) wdN (l:=bG xs) rfl rfl (by decide)) (by decide)
 rw[yH]
 exact xJ.cmp (dQ.call (aC (X:=X0 w 10 aq) (v:=.top (.ref 878)) (s:=⟨osK vs n xs,lwF xs⟩) ∅)
  (bU.cons (aC (X:=X0 w 10 aq) (v:=.str (lnQ (bG xs))) (s:=⟨osK vs n xs,lwF xs⟩) ∅) bU.nil) dC.nil ((xP w).kp _) sp ∅ ∅) h2 h3 ∅
theorem CG:∃σ',dQ (aa w) 10 aw.scope ⟨osSp vs n xs,lwF xs⟩ jO (.bool true) σ'/\σ'.os[0]?=some (dw vs n):=by
 have h8:∀m∈bG xs,m < 8:=iM xs
 have nd:(bG xs).Nodup:=rS _
 have hl:=gh xs
 obtain⟨y,hy⟩:=vm h8 (sK xs)
 obtain⟨os',r,told,nt,kp⟩:=zF w (bG xs) h8 nd 7 (osSp vs n xs) rfl y hy
 have o6:os'[6]?=some (.list (mkI (bG xs))):=kp 6 _ rfl
 obtain⟨tl,r2,due,nd2⟩:=Ce w 9 (by decide) (bG xs) h8 nd (by lia) (by lia) (by
  unfold wait0
  exact Lh (LC _ _) (by lia)) y hy
 have due':=Cl.frame due (GT o6 (mD _)) (HL o6 (mD _))
 have n1:=uJ (tl:=lj 6 os'.length tl) nt
 have n2:=vC (os:=os') (i:=6) (uH xs) nd2
 have eqq:=AK n1 n2
 have stp:Cl (aa w) 10 (.top (.ref 919)) [.ref 6,.ref 7] [] (osSp vs n xs) (.bool true) (osSp vs n xs):=by
  obtain⟨wi,up⟩:=HW (os:=osSp vs n xs) (i:=6) (j:=7) rfl rfl (by decide) (mD (bG xs)) (qq (bG xs))
  exact(Cl.frame (v5 w (bG xs) h8 (by lia) (by lia)) wi up).up (by decide)
 refine⟨⟨os'++lj 6 os'.length tl,lwF xs⟩,?_,ab (kp 0 _ rfl)⟩
 rw[yt]
 refine dQ.andT (σ₁:=⟨osSp vs n xs,lwF xs⟩) (dp (hk:={ c:=[(969,11,969,35,fun _ _ os=>(V.bool true,os))] }) (X:=X0 w 10 aq) (c:=[.p (Cl (aa w) 10 (.top (.ref 919)) [.ref 6,.ref 7] [] (osSp vs n xs) (.bool true) (osSp vs n xs))]) ∅ ⟨stp,trivial⟩) bV.bool ?_
 rw[Bq]
 exact dQ.cmp (dQ.call (aC (X:=X0 w 10 aq) (v:=.top (.ref 924)) (s:=⟨osSp vs n xs,lwF xs⟩) ∅)
   (bU.cons (aC (X:=X0 w 10 aq) (v:=.ref 7) (s:=⟨osSp vs n xs,lwF xs⟩) ∅) bU.nil) dC.nil ((xp w).kp _) (told.up (by decide)) ∅ ∅)
  (Ev.call (σ₁:=⟨os',lwF xs⟩) (σ₂:=⟨os',lwF xs⟩) (σ₃:=⟨os',lwF xs⟩) (f:=.top (.ref 929)) (vs:=[.ref 6]) (kvs:=[]) (aC (X:=X0 w 10 aq) ∅)
   (bU.cons (aC (X:=X0 w 10 aq) (v:=.ref 6) (s:=⟨os',lwF xs⟩) ∅) bU.nil) dC.nil ((yc w).kp _) due' ∅ ∅) (ak.eqL eqq (by decide)) ∅
end
theorem Go.wL (x:Go (bS env []) ρ s ρ' s'):Go (own env) ρ s ρ' s':=x.weak fun a ha=>by
 rcases List.mem_append.mp ha with h | h
 .exact h
 .exact nomatch h
section
variable (w:J9)
theorem yV (hv:ae (RelV []) (xs.map V.int) vs.toList) (hx:xs.length <=63):Exs (aa w) 10 aw.scope ⟨[dw vs n],lwA⟩ [ah aA 0,ah aA 1,ah aA 2,ah aA 3,ah aA 4] .next (QS vs n xs):=
 Exs.cons (Ac w hv hx) (Exs.cons (AF w) (Exs.cons (yY w) (Exs.cons (zJ w) (Ax w))))
theorem uX (hv:ae (RelV []) (xs.map V.int) vs.toList) (hx:xs.length <=63) (he:env.scope=aw.scope) (hr:aB 10 A) (fa:A.frames=some [env]) (fe:cF env [] ρ s.heap) (st:St (aa w) env ⟨[dw vs n],lwA⟩ ρ s)
  (hJ:s.heap.get? TJ=some (dT #[])) (hG:AllBare s.gens):J6 (Kx PW w) A (Lq aA env) (fun f s'=>∃ρ' σ',f=.ret (.bool true)/\St (aa w) env σ' ρ' s'/\σ'.os[0]?=some (dw vs n)/\mZ (own env) ρ s ρ' s') (fun _ _=>False) s:=by
 rw[wm,dv]
 refine J7 ((yV w hv hx).use he hr st fun x s1 ρ1 e st1 g1=>?_)
 obtain rfl:x=.next:=e
 have L1:=g1.toL st.hr.ntj st.ntj
 have fe1:=fe.go g1
 obtain⟨σ',ans,h0⟩:=CG w (vs:=vs) (n:=n) (xs:=xs)
 show J6 _ _ (Lq [ah aA 5,ah aA 6] env) _ _ _
 rw[zH,yl]
 refine LN (wpAny_If ?_)
 rw[yA]
 refine wpAny_isTrue_BoolOp (MD (um w he hr fe1 st1 (g1.kept TJ _ hJ st.hr.ntj st.ntj) (L1.gens hG) fun s2 ρ2 st2 fe2 L2=>?_))
 refine MD ((Ec w).use he hr st2 fun b s3 ρ3 e st₃ g3=>?_)
 obtain rfl:b=false:=e
 have fe3:=fe2.go g3
 have L3:=g3.toL st2.hr.ntj st2.ntj
 refine MD ((FB w).use he hr fa fe3 st₃ fun b s4 ρ4 e st4 fe4 g4 u4=>?_)
 obtain rfl:b=false:=e
 have L4:=g4.wL.toL st₃.hr.ntj st₃.ntj
 refine wpAny_allTrue_Or_nil ?_
 refine wpAny_execs_nil ?_
 refine LN (Ny (ans.use he hr fa fe4 st4 fun x s5 ρ5 rx st5 fe5 g5 u5=>?_))
 obtain rfl:x=.bool true:=rx
 exact⟨ρ5,σ',rfl,st5,h0,(((L1.trans L2).trans L3).trans L4).trans (g5.wL.toL st4.hr.ntj st4.ntj)⟩
end
theorem Hw:∀x,K2 aw ⟨[x],[]⟩=pure [(J8 "script",x)]:=fun x=>∅
theorem va (w:J9) (hv:ae (RelV []) (xs.map V.int) vs.toList) (hx:xs.length <=63) (hr:aB 11 A) (fa:A.frames=some []) (hK:(KL w.params).In s.heap)
  (hJ:s.heap.get? TJ=some (dT #[])) (hG:s.gens=#[]) (ha:N0 <=a) (hat:s.heap.get? a=some ⟨.type "list",none,.seq vs n,#[]⟩) :
  J6 (Kx PW w) A (call (.ref 934) [.ref a]) (fun v s'=>v=.bool true/\(∀b o,b≠TJ->s.heap.get? b=some o->s'.heap.get? b=some o)/\(∃vs',s'.heap.get? TJ=some (dT vs'))/\AllBare s'.gens/\s'.os=s.os) E s:=by
 have hh:HR w.params [a] [dw vs n] s.heap:=⟨rfl,by simp,fun b hb=>by
  rw[Kw] at hb
  exact hb▸⟨ha,_,hat⟩,fun i o b h1 h2=>by
  match i with
  | 0=>cases h1;cases h2;exact .inr ⟨_,hat,rfl⟩
  | i + 1=>exact nS h1⟩
 have fn:=DS w
 obtain⟨oc,od,sl,hcat⟩:=fn.at_
 refine Ll (ME (by have:=hr.depth;lia) (hK _ _ hcat) rfl fn.co fn.gen fn.body (codeRec_of hK fn.code) ?_)
 rw[Hw]
 refine Kb ?_
 have hbs:ae (ch [a]) lwA [(J8 "script",Value.ref a)]:=.cons ⟨rfl,a,rfl,rfl⟩ .nil
 have hk:∀x∈lwA,aw.scope.names.lookup x.1=some .local\/aw.scope.names.lookup x.1=some .cell:=fun x hx=>by
  simp only[lwA,Ka,Kf,or_false] at hx
  rcases hx with rfl
  exact .inl ∅
 have nd:(lwA.map (·.1)).Nodup:=KW.mpr ⟨Kf,KY⟩
 have hN1:N0 <=s.heap.objs.size:=aV (g:=aa w) hK
 rw[fn.clo]
 refine Mi fn.kind (fun c hc=>?_) fun env he s2 ic=>?_
 .obtain⟨b,h1,h2⟩:=iS hbs hc
  rw[<- h2]
  exact(hk b h1).imp id fun q=>⟨q,fn.cells _ (.inl q) _⟩
 .have hsc:env.scope=aw.scope:=by rw[he];rfl
  have hloc:env.locals=s.heap.objs.size:=by rw[he];rfl
  have hcel:env.cells=K7 (s.heap.objs.size + 1) aw.scope.names []:=by rw[he];rfl
  have hglo:env.globals=K9:=by rw[he];exact fn.glob
  have hblt:env.builtins=LL:=by rw[he];exact fn.blt
  have hfrm:env.frame=some env.locals:=by rw[he];rfl
  have keep:=ic.toInCall.keep
  obtain⟨h₂,tk,es₂,_⟩:=ic.done
  have hK2:(aa w).K.In s2.heap:=fun b o e=>keep _ _ (hK b o e)
  have hns:=ic.toInCall.ns
  have sz:s.heap.objs.size <=s2.heap.objs.size:=by
   have:=hns.lt
   rw[hloc] at this
   exact Nat.le_of_lt this
  have old:∀{b:Kj},b∈[a]->b < s.heap.objs.size:=fun hb=>hh.lt hb
  have clow:∀p∈env.cells,s.heap.objs.size + 1 <=p.2:=by rw[hcel];exact dZ _ _ _ _ (fun _ h=>(nomatch h)) (Km _)
  have er:ER [a] s2.heap env lwA:=by
   refine⟨hglo,hblt,by rw[hsc];exact fn.kind,⟨_,hns,fun z hz=>et (gY hbs nd _ z hz) rfl⟩,fun z hz=>?_,⟨by rw[hloc];exact hN1,fun hm=>?_⟩,fun p hp=>?_,fun z z' c h1 h2=>name_of_addr ic.apart h1 h2⟩
   .have hz':aw.scope.names.lookup z=some .cell\/aw.scope.names.lookup z=some .free:=by rw[<- hsc];exact hz
    obtain⟨c,hc⟩:=Option.isSome_iff_exists.mp (fn.cells z hz' (s.heap.objs.size + 1))
    rw[<- hcel] at hc
    refine⟨c,_,hc,ic.cell z c hc,et (gM hbs nd _ z fun q=>?_) rfl⟩
    rcases hz with q' | q' <;> (rw[q] at q';cases q')
   .have:=old hm
    rw[hloc] at this
    exact KM _ this
   .have lo:=clow _ hp
    have hc:env.cells.lookup p.1=some p.2:=Nf (by rw[hcel];exact NT aw.scope.names 0 (s.heap.objs.size + 1) [] [] rfl▸fn.cnd) hp
    refine⟨Lh hN1 (Lo lo),let⟨ob,e,_⟩:=ic.cell p.1 p.2 hc;⟨ob,e⟩,fun hm=>?_,fun q=>?_⟩
    .have:=old hm
     exact absurd this (Nat.not_lt.mpr (Lo lo))
    .rw[hloc] at q
     have:s.heap.objs.size + 1 <=p.2:=lo
     rw[q] at this
     exact KM _ this
  have st:St (aa w) env ⟨[dw vs n],lwA⟩ [a] s2:=⟨hh.keeps keep,er,hK2⟩
  have ownNew:∀b∈own env,s.heap.objs.size <=b:=fun b hm=>by
   rcases Ka.mp hm with q | q
   .rw[q,hloc];exact Km _
   .obtain⟨p,hp,rfl⟩:=List.mem_map.mp q
    exact Lo (clow p hp)
  have fe2:cF env [] [a] s2.heap:=by
   refine⟨⟨fun e he=>?_⟩,hfrm,fun L hL=>nomatch hL⟩
   rcases Ka.mp he with rfl | q
   .obtain⟨oL,es,ep,hoL,_⟩:=hns
    exact⟨by rw[hsc,fn.kind];decide,e.locals,oL,hfrm,hoL,er.low.2,er.low.1⟩
   .exact nomatch q
  have gens2:s2.gens=s.gens:=by rw[es₂]
  have os₂:s2.os=s.os:=by rw[es₂]
  refine⟨(aa w).lim _ hK2,NS ?_⟩
  refine Kr (uX w hv hx hsc hr.deeper (by show A.frames.map (env::·)=_;rw[fa];rfl) fe2 st (keep _ _ hJ) (by rw[gens2,hG];exact AllBare.empty)) (fun f s3 hz=>?_) (fun _ _ z=>z.elim)
  obtain⟨ρ',σ',rfl,st₃,h0,L⟩:=hz
  refine⟨rfl,fun b o hb e=>?_,L.tj _ (keep _ _ hJ),L.gens (by rw[gens2,hG];exact AllBare.empty),L.os.trans os₂⟩
  by_cases q:b=a
  .subst q
   obtain⟨ν,e',_⟩:=L.pre
   have a0:ρ'[0]?=some b:=by rw[e'];rfl
   obtain⟨b',e1,_,e2⟩:=st₃.hr.fixL h0 ⟨b,a0,rfl⟩
   cases e1
   rw[hat] at e
   cases e
   exact e2
  .exact L.kept b o (keep _ _ e) (by simpa using q) (fun hm=>absurd (KJ e) (Nat.not_lt.mpr (ownNew b hm))) hb
abbrev RL:OpenLaw:=PySem.Challenge.rw_op0290_01
theorem Gg:RL.wellSaid=true:=lkA PW ((lkE PW).2 lz1 lz2 lz3 lz4 lz5) lz6
noncomputable def CJ (s:Kl):List (Option Obj)×Option Obj:=(KA.map s.heap.get?,s.heap.get? 880)
noncomputable def Bz (w:J9):List (Option Obj)×Option Obj:=((KL w.params).map fun p=>some p.2,some (dT #[]))
noncomputable def FV (_:Kl):Bool:=true
theorem Ea:LeftO PW q (iB PW) FV CJ Bz 6400:=y5 fun w=>(congrFun (congrFun PySem.W.Fast.te10661973635909022255 PW) w).trans (As w)
noncomputable def Bw (w:J9) (h:Heap):Prop:=(KL w.params).In h/\h.get? TJ=some (dT #[])
theorem Ff (P:K5):KA=(KL P).map (·.1):=∅
theorem DK (K:Frag) (q:(K.map (·.1)).map h.get?=K.map (fun p=>some p.2)):K.In h:=by
 induction K with
 | nil=>exact fun b o e=>nomatch e
 | cons p r ih=>
  intro b o e
  obtain⟨q1,q2⟩:=List.cons_eq_cons.mp q
  rw[K1] at e
  cases hb:b==p.1 with
  | true=>
   rw[hb] at e
   cases e
   rw[MB hb]
   exact q1
  | false=>
   rw[hb] at e
   exact ih q2 b o e
theorem JK (w:J9) (s:Kl) (e:CJ s=Bz w):Bw w s.heap:=by
 obtain⟨e1,e2⟩:=Prod.mk.inj e
 refine⟨DK _ ?_,e2⟩
 rw[<- Ff]
 exact e1
noncomputable def G4:Pos:=match PW.main.body[47]? with
 | some s=>s.pos
 | none=>default
noncomputable def qb:DefRec:=⟨J8 "law",(bt 47).1,(bt 47).2.1,(bt 47).2.2,G4⟩
theorem E0:defOf q RL.row.name=some (qb,[]):=∅
theorem IH:RL.row.prog.theDef RL.row.name=some (qb.params,qb.body,qb.scope):=∅
theorem Iv:kwWritten? qb.params.kwonlyargs qb.params.kw_defaults=some []:=∅
theorem EG:RL.row.prog.bare:=⟨rfl,rfl,rfl,rfl,rfl,by decide +kernel⟩
noncomputable def Jk (P:K5):Bool:=(nsIn? (KL P) K9).any fun es=>nsFind es (J8 "law")==some (.ref 934)
theorem De (P:K5):Jk P=true:=∅
theorem Bh {mg:Str->Option Kd} (hK:(KL P).In h) (hn:h.Ns K9 mg):mg (J8 "law")=some (.ref 934):=by
 obtain⟨es,e,h1⟩:=bh (De P)
 obtain⟨o,ep,a,b⟩:=nsIn?_some e
 obtain⟨o',es',ep',a',b',_,f⟩:=hn
 cases (hK _ _ a).symm.trans a'
 cases b.symm.trans b'
 rw[<- f]
 exact beq_iff_eq.mp h1
theorem Jd:(chainsOk q&&opensWell RL.row.toRowW.prog&&(frees RL.row.toRowW&&RL.row.toRowW.within.isEmpty))=true:=∅
theorem x8:RL.row.toRowW.promised:=⟨[.list []],∅,∅⟩
theorem G9 {args:List WData} (h:RL.row.toRowW.claim.pre args=true):∃ns:List Int,args=[.list (ns.map .int)]/\ns.length <=63:=by
 obtain⟨h1,h2⟩:=pre_splitW h
 obtain⟨d,r,rfl,h3,h4⟩:=hasAllW_cons (e:=.list .int) (es:=[]) h1
 obtain rfl:=hasAllW_nil h4
 obtain⟨xs,rfl,h5⟩:=hasW_list h3
 obtain⟨ns,rfl⟩:=items_int h5
 refine⟨ns,rfl,Lv fun lt=>?_⟩
 have h6:WTm.holds RL.row.toRowW.records (.and (.not (.lt (.lit (.int 63)) (.len (.arg 0)))) (.lit (.bool true))) { args:=[.list (ns.map .int)] }=true:=h2
 dsimp only [WTm.holds,WTm.value,List.getElem?_cons_zero] at h6
 rw[show less? (WData.int 63) (WData.int ((ns.map WData.int).length:Int))=some (decide ((63:Int) < (ns.map WData.int).length)) from rfl,decide_eq_true (by rw[KU];lia)] at h6
 exact nB h6
theorem qj {R:WRecords} {cl:Str->Option Kj} {P:K5} {ord:List Me->List Me}:∀(ns:List Int) (s:Kl),∃vs tk,layAllW R cl P ord (ns.map .int) s=some (vs,{ s with toks:=tk })/\ae (RelV []) (ns.map V.int) vs
 | [],s=>⟨[],s.toks,rfl,.nil⟩
 | i::r,s=>by
  obtain⟨vs,tk,e,a⟩:=qj (R:=R) (cl:=cl) (P:=P) (ord:=ord) r { s with toks:=s.toks + 1 }
  refine⟨.int i s.toks::vs,tk,?_,.cons ⟨_,rfl⟩ a⟩
  show layAllW R cl P ord (.int i::r.map .int) s=_
  unfold layAllW
  unfold layW
  dsimp only
  rw[e]
theorem CM {R:WRecords} {cl:Str->Option Kj} {ord:List Me->List Me} {ns:List Int} {vs:List Kd} (h:layAllW R cl P ord [.list (ns.map .int)] s=some (vs,s1)) :
  ∃items,vs=[.ref s.heap.objs.size]/\s1.heap=s.heap.push { cls:=.type "list",data:=.seq items }/\ae (RelV []) (ns.map V.int) items.toList:=by
 obtain⟨us,tk,e,a⟩:=qj (R:=R) (cl:=cl) (P:=P) (ord:=ord) ns s
 unfold layAllW at h
 unfold layW at h
 rw[e] at h
 unfold layAllW at h
 cases h
 exact⟨us.toArray,rfl,rfl,by simpa using a⟩
theorem td (hK:(KL P).In h) (hJ:h.get? TJ=some (dT #[])):isCodeTable h TJ:=(tR hK hJ (by exact trivial)).2.isCodeTable
theorem Ca:aB 11 callerA:=⟨rfl,by decide +kernel,by decide +kernel⟩
theorem Gk (hK:(KL P).In h) (hJ:h.get? TJ=some (dT #[])) (k:∀b o,b≠TJ->h.get? b=some o->h'.get? b=some o) (t:∃vs',h'.get? TJ=some (dT vs')):OldK h h':=by
 obtain⟨vs',e'⟩:=t
 refine⟨fun b o e=>?_,fun b o e=>?_⟩
 .by_cases q:b=TJ
  .subst q
   rw[hJ] at e
   cases e
   exact .inr (.inl ⟨td hK hJ,rfl,#[],vs',rfl,by rw[e'];simp[dT]⟩)
  .exact .inl (k b o q e)
 .by_cases q:b=TJ
  .subst q;exact⟨_,e'⟩
  .exact⟨o,k b o q e⟩
noncomputable def EE (vs:List Kd):Sem PySem.Fin:=do match <- nsGet mainNs RL.row.name with
 | some f=>do ret (<- PySem.call f vs)
 | none=>unsupported "claim.caller:no-such-global"
theorem EQ (w:J9) (s₀ s1:Kl) (mg mb:Str->Option Kd) (G:Ground q (iB PW) RL.row.toRowW.records (fun _ _=>True) w s₀ mg mb s1.heap) (Y:Bw w s1.heap) (args:List WData) (vs:List Kd) (as:List Kj) (hp:RL.row.toRowW.claim.pre args=true) (L:Laid RL.row.toRowW.records w s₀ s1 args vs as) :
  ∃f,mg RL.row.name=some f/\J6 (Kx PW w) callerA (PySem.call f vs) (fun v s'=>GoodWG RL.row.toRowW.claim (classAt s₀.heap) (ExcName.means s₀.heap) args s1 (.ok (.ret v)) s')
   (fun e s'=>GoodWG RL.row.toRowW.claim (classAt s₀.heap) (ExcName.means s₀.heap) args s1 (.error e) s') s1:=by
 obtain⟨hK,hJ⟩:=Y
 obtain⟨ns,rfl,hl⟩:=G9 hp
 obtain⟨ord,_,lay⟩:=L.laid
 obtain⟨items,rfl,hh,hi⟩:=CM lay
 refine⟨.ref 934,Bh hK G.T.g,?_⟩
 have hat:s1.heap.get? s₀.heap.objs.size=some ⟨.type "list",none,.seq items 0,#[]⟩:=by rw[hh];exact Ku _ rfl
 have low:N0 <=s₀.heap.objs.size:=by
  have ob':∃o,(KL w.params).lookup (N0 - 1)=some o/\o.cls=.type "function":=⟨_,rfl,rfl⟩
  obtain⟨o,e,hc⟩:=ob'
  have e2:=hK _ _ e
  have lt:=KJ e2
  have sz:s1.heap.objs.size=s₀.heap.objs.size + 1:=by rw[hh];exact L6 ..
  have ne:N0 - 1≠s₀.heap.objs.size:=fun q=>by
   rw[q,hat] at e2
   have e3:=Lu e2
   rw[<- e3] at hc
   exact absurd (show(Nm "list")=.type "function" from hc) (by decide)
  have lt':(934:Nat) < s1.heap.objs.size:=lt
  rw[sz] at lt'
  have ne':(934:Nat)≠s₀.heap.objs.size:=ne
  show(935:Nat) <=s₀.heap.objs.size
  lia
 refine Kr (va w (n:=0) hi hl Ca rfl hK hJ L.gens low hat (E:=fun _ _=>False)) (fun v s' hz=>?_) (fun _ _ z=>z.elim)
 obtain⟨rfl,k1,k2,k3,k4⟩:=hz
 exact⟨.inl ⟨.bool true,.bool true,[],rfl,fun _=>rfl,.bool true,∅,fun _=>⟨KY,fun _ h=>nomatch h⟩⟩,Gk hK hJ k1 k2,k4,k3⟩
theorem JT:RL.Holds:=holds_law Gg fun k1=>⟨k1,x8,open_anyG (r:=RL.row.toRowW) (q:=q) (loose:=iB PW) (Xt:=FV) (XP:=fun _ _=>True) (Yf:=CJ) (Ya:=Bz) (YP:=Bw) (N:=6400) (run:=fun f vs=>PySem.call f vs) (tree:=EE)
 Ea JK (fun w h h' y k=>⟨fun b o e=>k _ _ (y.1 b o e),k _ _ y.2⟩) (fun _ _=>trivial) (fun _ _ _ _ _=>trivial) (fun s _=>recFacts_of (s:=s) rfl) (by rfl) Jd EG x8
 (fun vs w s mg f Q E hg hf h=>J7 (wpAny_nsGet hg (by rw[hf];exact J7 (Kr h (fun _ _ x=>Kb x) fun _ _ x=>x))))
 (fun w s hg G n hn=>by
  obtain rfl:n=RL.row.name:=by split at hn <;> simp_all
  exact pinned_of_view hg G E0 IH Iv)
 fun w s₀ s1 mg mb G Y args vs as hpre hlay L low=>EQ w s₀ s1 mg mb G Y args vs as hpre L⟩
end Mine.Internal
theorem PySem.Challenge.cw_op0290_01_holds : PySem.Challenge.rw_op0290_01.Holds :=
 Mine.Internal.JT
