import PyProof.Rows.All
import Wide.All
import OpenK.AllK
import Wide.FinOn
import Lean
import PySem.Challenge.RW_ai0008_01
set_option Elab.async false
set_option linter.all false
set_option genSizeOf false
set_option genInjectivity false
set_option tactic.hygienic false
set_option compiler.extract_closed false
open PySem renaming wpAny_bind → aa, wpAny_pure → ai, wpAny_mono → ay, wpAny_standAt → aI, wpAny_holding → aO, wpAny_loadName_local → ba, wpAny_execs_cons → bx, wpAny_execs_nil → bY, wpAny_Name → b8, wpAny_newObj_type → cq, wpAny_seqItems → cJ, wpAny_Return_some → cK, wpAny_storeName_local → cM, wpAny_assign_Name → cZ, wpAny_Assign_Name → c4, wpAny_of_eq → dq, codeAny_builtin → dJ, builtinLookup_eq_fast → dO, wpAny_newFunctionEnv → dR, wpAny_pyIter_list → eF, wpAny_isInstance → eP, entryFor_of_tree → eQ, plainId_quiet → eT, wpAny_updateSeq → fb, wpAny_specialOf → fe, wpAny_operating → fh, typeLookup_type → fj, codeAny_of_tree → fm, wpAny_call → fG, wpAny_Expr_any → fH, isSubtype_type → fJ, arm_eval_Tuple → fK, wpAny_field → fS, setGen_self → fT, wpAny_callSpecial?_slot → f8, arm_assign_Tuple → gg, wpAny_noteFrame_againW → gw, codeAny_call_function → gJ, seg_wrap → iq, codeAny_mono → iu, wpAny_call_entry → iH, wpAny_throw → iT, exec_Assign_arm → i3, wpAny_setField → jj, wpAny_runValue → jk, wpAny_rule → jl, wpAny_If → jm, wpAny_handled → jD, wpAny_attempt → jE, arm_eval_List → jF, wpAny_list_append_plain → jM, wpAny_callSpecial?_none → jN, wpAny_pyNext_list_item → jV, richCompare_meets_room → jX, codeAny_func → j0, wpAny_pyNext_list_end → ki, getitemInPython_of_ne → kj, wpAny_noted → kI, wpAny_letTemporaryGo → kJ, wpAny_loadName_free → kU, wpAny_Constant_bool → kW, list_getitem_lookup → kX, wpAny_unpack_tuple → lj, wpAny_pyIter_tuple → lk, wpAny_evalAll_cons → ll, call_function_tree → lq, wpAny_truthy_bool → lA, wpAny_pyIter_enum → lC, wpAny_evalAll_nil → lD, slot_list_setitem → lE, slot_dict_getitem → lF, richCompare_gives → lG, arm_isTrue_BoolOp → lI, wpAny_pyIter_zip → lM, wpAny_getItem_of → lN, wpAny_For → lO, arm_eval_UnaryOp → lQ, arm_allTrue_cons → lR, wpAny_passesOwn → lZ, arm_eval_BoolOp → l3, wpAny_Continue → ml, seg_execs_cons → mm, isSubtype_stop → mq, arm_eval_BinOp → mu, wpAny_onRaise → mA, wpAny_UnaryOp → mD, slot_gen_next → mE, evalPart_none → mF
open Nat renaming le_trans → ac, lt_of_le_of_lt → ar, ne_of_lt → aE, lt_trans → aH, testBit_and → aK, lt_succ_of_lt → aL, lt_of_lt_of_le → aP, le_refl → aQ, le_of_eq → aT, le_add_right → aV, testBit_or → aZ, le_of_lt → a5, add_le_add_left → a6, zero_testBit → a8, add_le_add_right → bj, le_of_lt_succ → br, add_right_comm → bv, add_le_add → bG, le_of_not_lt → bJ, zero_le → bM, testBit_two_pow → bQ, succ_le_succ → bX, add_lt_add_of_lt_of_le → bZ, succ_pos → b9, add_comm → ce, not_lt_of_le → cC, zero_add → cF, ne_of_gt → cO, add_assoc → cP, eq_of_testBit_eq → cR, le_of_succ_le → cU, le_add_left → cV, mul_le_mul_left → cW, add_sub_cancel' → cX, lt_succ_self → de, le_succ → dv, sub_le → dz, lt_of_succ_lt_succ → dA, lt_of_le_of_ne → dB, le_antisymm → dF, add_lt_add_of_le_of_lt → dP, add_lt_add_left → dS, testBit_eq_decide_div_mod_eq → eb, succ → ee, lt_of_not_le → eG, exists_eq_succ_of_ne_zero → eK, pos_of_ne_zero → fq, add_sub_cancel → fu, succ_le_of_lt → fE, lt_of_succ_lt → fF, succ_ne_self → fP, succ_lt_succ → fQ, not_le_of_lt → fR, mod_lt → fY, pow_le_pow_right → gE, lt_irrefl → gP, sub_add_cancel → gS, mul_succ → hJ, mul_comm → hV, lt_succ_of_le → hZ, le_succ_of_le → ia, sub_sub_self → ij, two_pos → il, strongRecOn → iv, not_lt_zero → iw, div_add_mod → iy, sub_lt → iK, mod_two_eq_zero_or_one → iL, shiftRight_eq_div_pow → iW, testBit_two_pow_self → i4, lt_add_of_pos_right → ja, le_or_eq_of_le_succ → jb, testBit_lt_two_pow → jp, sub_self → jq, min_self → jr, le_of_succ_le_succ → js, le_sub_of_add_le → jJ, lt_two_pow_self → jP, lt_or_eq_of_le → j1, lt_of_lt_of_eq → j2, sub_pos_of_lt → km, mod_eq_of_lt → kN, two_pow_pos → kY, pow_succ → lT, lt_or_ge → lU, add_zero → lV, mul_two → ma, le_zero → me
open List renaming mem_singleton → ae, mem_cons → ag, length_map → am, getD_eq_getElem?_getD → ao, mem_append_right → aq, lookup_cons → au, range → az, length_append → aA, mem_append_left → aC, forall_mem_cons → aD, getElem?_eq_getElem → aF, size_toArray → aG, mem_range → aM, all_eq_true → aU, mem_append → aX, getElem?_toArray → aY, not_mem_nil → a9, nodup_iff_pairwise_ne → bc, pairwise_cons → bg, length_range → bh, map_map → bk, getElem?_eq_none → bn, mem_map → bp, map_append → bw, foldl_cons → bA, map_cons → bE, mem_filter → bF, getElem?_eq_some_iff → bH, pairwise_singleton → bR, foldl_append → bT, append_assoc → bU, pairwise_map → cf, getElem?_map → cj, all_cons → cm, length_cons → cu, filter_cons → cw, cons_ne_nil → cz, any_eq_true → cA, nodup_cons → cH, append_nil → cI, mem_of_getElem? → cQ, nodup_append → cT, length_take_le' → dj, drop_eq_nil_iff → dk, map_eq_nil_iff → dr, map_congr_left → ds, mem_filterMap → dw, any_cons → dG, length_filter_le → dH, replicate → dK, mem_of_mem_take → dL, length_set → dU, length_eq_zero_iff → d4, getElem?_set → d6, flatMap_cons → d7, contains_iff_mem → eD, sum_cons → eH, of_mem_zip → eM, filter_sublist → eS, toArray → eV, map → e7, length_drop → fM, isEmpty_iff → fN, getElem_map → fO, filter_eq_nil_iff → fW, drop_eq_nil_of_le → fX, mem_of_mem_drop → gh, length_dropLast → gi, length → gj, getElem?_of_mem → gm, length_take_le → gG, filter_eq_self → gI, getElem_range → gQ, getElem?_drop → gR, take_add_one → gW, map_set → gX, getElem?_inj → gY, filter_congr → gZ, cons_append → ie, eq_nil_of_length_eq_zero → ik, range_succ → im, forIn_cons → io, take_left → iC, perm_ext_iff_of_nodup → iD, getElem?_append_right → iE, foldl → iF, pairwise_iff_getElem → iM, getElem?_append_left → iN, drop_eq_getElem_cons → iO, cons → i5, take_of_length_le → jc, length_pos_of_mem → jd, append_eq_nil_iff → je, perm_append_comm → jt, mem_of_mem_erase → ju, length_replicate → jv, dropLast_eq_take → jw, reverse_append → jK, getElem?_range → jL, zip_cons_cons → jQ, ne_nil_of_mem → jR, append_of_mem → jT, take_sublist → j3, reverse_perm → j4, ext_getElem? → j5, all_eq_false → j6, take_length → ko, perm_middle → kq, mem_reverse → kr, getD → ku, ext_getElem → kv, sum_append → kO, all_append → kP, perm_cons → kZ, nodup_nil → k6, drop_zero → k9, map_take → lx, map_drop → ly, all_map → lK, Perm → mw
open PySem.Heap renaming get?_push_of_some → aj, get?_push_size → aJ, lt_size → aR, get?_update_self → bP, get?_update_other → bV, size_push → du, get?_none_of_le → dM, FlyingW → eX, ExtBut → gr, HeldW → iG, SameBut → jf
open Bool renaming and_eq_true → av, not_eq_true' → aN, or_false → a7, or_eq_true → bq, false_eq_true → bB, eq_iff_iff → bI, and_eq_true_iff → bL, and_false → bS, false_or → b7, or_true → cr, true_and → cE, and_true → db, not_eq_false' → dZ, false_and → d9, or_assoc → eI, false_ne_true → e9, not_true → gK, not_eq_false → g9, not_not → jg, or_eq_false_iff → jB, eq_false_iff → kc, not_eq_true → kF, decide_or → lh, and_assoc → li
open PySem.Calls renaming spliced_cons → aW, spliced_nil → bz, callWith_builtin → cY, evalArgs_plain → di, callWith_function → dY, Name_function_global → eZ
open LawfulBEq renaming eq_of_beq → be
open Classical renaming byContradiction → bf
open Int renaming natCast_nonneg → bC, le_of_lt → c9, toNat_natCast → dp, not_lt → dE, natCast_pos → dW, le_antisymm → dX, le_refl → d5, ofNat_lt → ef, ofNat_le → eh, le_trans → ew, ne_of_gt → eY, eq_of_mul_eq_mul_left → fA, lt_of_le_of_lt → gT, add_sub_cancel → gU, mul_lt_mul_of_pos_left → iP, fdiv_eq_ediv_of_nonneg → iQ, lt_of_mul_lt_mul_left → iX, le_of_mul_le_mul_left → iY, ofNat_sub → i6, neg_lt_neg_iff → j8, lt_of_lt_of_le → j9, natCast_ediv → kQ, natCast_add → lg, add_nonneg → lz, le_of_eq → lW, one_mul → mf, neg_inj → mh, mul_neg → mi
open PySem.Builtin renaming bitNot → bD, bitAnd → cD, bitOr → kE
open Option.some renaming inj → bN, injEq → mv
open PySem.Obj renaming mapSeq → bO, data_mapFields → d0, isFreed_of_fields → eE, mapFields → gO
open Array renaming getD_eq_getD_getElem? → cB, length_toList → dQ, getElem?_eq_getElem → fy, size_setIfInBounds → fB, perm_iff_toList_perm → iz, toList → i8, mem_toList_iff → jy, toList_append → jC, size_append → jU, toList_map → ke, toList_inj → kh, size_push → kH
open List.Nodup renaming length_le_of_subset → cG, sublist → eJ
open PySem.Heap.UpToSlots renaming of_keeps → cL
open PySem.Value renaming none → cS, bytes → c5, ref → eC, int → eU, notImplemented → jn, bool → jH, type → lS
open PySem.Str renaming ofString → c6
open PySem.Heap.SameBut renaming update → df
open PyProof.Rows renaming assignInOrder_cons → dg, Call_Name → eA, assignInOrder_nil → fV, callWith_type → gM, listUpdate_at → ib, get?_update_seq → iZ, Attribute_name → jx, getMethod_list_of → lH, slot_list_sort → l4, setObjOf_fresh → l5, getItem_tuple → l6, IsTup → l9, callWith_meth0 → mr
open UInt8 renaming ofNat → dh, lt_irrefl → ig, toNat_ofNat' → jI, not_lt → lr
open PySem.Sem renaming bind_eq_wrap' → dm, wrap_wrap → dT, bind_eq_wrap → kM
open PySem.Around renaming under_plainId → dI, frames_deeper → f7
open PySem.Builtin.Range renaming rangeSize → dN, small → fL, rangeFitsLong → lY
open Option renaming isSome_iff_exists → fz, map_some → ic, map_eq_some_iff → iU, map_eq_none_iff → iV, bind → lw
open PySem.W renaming kas_sort → fI, hideAll_get → fU, kas_place → f9, kas_desc → ge, kas_rev → gB, kas_descPart → ir, kas_tail3 → iI, kas_bin → i9, kas_count → jO, typeIs_bytes → jW, kas_asc → jY, hideAll_none → jZ, of_hideAll → ln, kas_item → mo
open PySem.GenOnly renaming setGen → fZ
open PySem.Builtin.Generator renaming genWake → gu
open Prod renaming ext_iff → gV, ext → jz
open PySem.AutoSeq1 renaming wpAny_loadPart' → ip
open Nat.succ renaming inj → iA
open PyProof renaming noPylong_small → iJ
open PySem.EntryCells renaming newEntry → iR
open PySem.BindsTo renaming of_defaults → jh
open And renaming intro → ji, right → mI
open List.cons renaming injEq → jA, inj → jS
open PySem.Walks renaming list → jG
open PySem.Flow renaming next → kD
open BitVec renaming ofNatLT → kG
open PySem.Shared renaming TypeIs → kK, heap → lu
open PySem.GenOnlyQ renaming of → kR
open PySem.Builtin.Frozenset renaming updateFrom → kT
open PySem.IsRange renaming new → ld
open PyProof.Rows.SortSt renaming mk' → lJ
open PySem.Heap.IsSliceOf renaming new → lL
open PySem.Builtin.Tuple renaming tupleCompareSizes → lX
open PySem.Builtin.List renaming listSubscript? → mj
open PySem.Heap.DictOf renaming new → mz
open PySem.Fin renaming again → mG
open PySem.Data renaming seq → mH
open PySem PySem.W PyProof.Rows PySem.SeqAt
namespace Mine.Internal
def nd (k : Lean.Name) (a : Array Lean.Syntax) : Lean.Syntax := .node .none k a
def ak (s : String) : Lean.Syntax := .atom .none s
def Nn : Lean.Syntax := nd `Lean.Parser.Term.hole #[ak "_"]
def O6 : Lean.Syntax := .ident .none "rfl".toRawSubstring `rfl []
def sk (x : Lean.Syntax) : Lean.Syntax := nd `Lean.Parser.Tactic.tacticSeq #[nd `Lean.Parser.Tactic.tacticSeq1Indented #[nd `null #[x]]]
def fk (p : Array Lean.Syntax) (b : Lean.Syntax) : Lean.Syntax := nd `Lean.Parser.Tactic.exact #[ak "exact", nd `Lean.Parser.Term.fun #[ak "fun", nd `Lean.Parser.Term.basicFun #[nd `null p, nd `null #[], ak "=>", b]]]
def O4 (x : Lean.Syntax) : Lean.Syntax := nd `group #[ak "|", sk x]
def tR : Lean.Syntax := sk (nd `Lean.Parser.Tactic.tacticRfl #[ak "rfl"])
def tF : Lean.Syntax := sk (fk #[Nn, Nn] O6)
def tD : Lean.Syntax := sk (nd `Lean.Parser.Tactic.decide #[ak "decide", nd `Lean.Parser.Tactic.optConfig #[nd `null #[]]])
def tT : Lean.Syntax := sk (nd `Lean.Parser.Tactic.first #[ak "first", nd `null #[O4 (fk #[Nn] (nd `Lean.Parser.Term.anonymousCtor #[ak "⟨", nd `null #[Nn, ak ",", Nn, ak ",", Nn, ak ",", O6], ak "⟩"])), O4 (nd `Lean.Parser.Tactic.exact #[ak "exact", nd `Lean.Parser.Term.nofun #[ak "nofun"]])]])
theorem mL {P : Prop} (h : ¬P -> False) : P := bf h
noncomputable abbrev Bs := List UInt8
inductive PV where
 | none
 | bool (b : Bool)
 | int (i : Int)
 | bytes (b : Bs)
 | list (l : List PV)
 | tuple (l : List PV)
 | set (ne : Bool)
 | dict (l : List (Bs × PV))
 | wl (l : List (Int × Bs))
 | clo (i : Nat)
 | par (F : Bs -> Option (List Bs))
 | stp (F : Bs -> Option Int)
noncomputable abbrev Sc := List (Str × NameKind)
noncomputable abbrev En := List (Str × Option PV)
noncomputable def En.get (ρ : En) (x : Str) : Option PV := (ρ.lookup x).join
noncomputable def En.put (ρ : En) (x : Str) (o : Option PV) : En := ρ.map λ p => if p.1 == x then (p.1, o) else p
noncomputable abbrev En.set (ρ : En) (x : Str) (v : PV) : En := ρ.put x (some v)
noncomputable abbrev Fz := Addr -> Option Obj
noncomputable def Fz.le (G G' : Fz) : Prop := ∀ a o, G a = some o -> G' a = some o
noncomputable def Fz.sub (G : Fz) (h : Heap) : Prop := ∀ a o, G a = some o -> h.get? a = some o
theorem Fz.le.rfl {G : Fz} : G.le G := λ _ _ e => e
theorem Fz.le.trans {G G' G'' : Fz} (x : G.le G') (y : G'.le G'') : G.le G'' := λ a o e => y a o (x a o e)
structure Wo where
 w : World
 h₀ : Heap
 gl : Addr
 bi : Addr
 C : Addr
noncomputable abbrev Mo (W : Wo) : Model := model PySem.Challenge.pw_ai0008_01 W.w
structure Up (G : Fz) (h : Heap) (G' : Fz) (h' : Heap) : Prop where
 le : G.le G'
 sub : G'.sub h'
 old : ∀ a o, h.get? a = some o -> G' a = G a
theorem Up.rfl {G : Fz} {h : Heap} (s : G.sub h) : Up G h G h := ⟨Fz.le.rfl, s, λ _ _ _ => _root_.rfl⟩
theorem Up.trans {G G' G'' : Fz} {h h' h'' : Heap} (x : Up G h G' h') (k : ∀ b o, h.get? b = some o -> h'.get? b = some o) (y : Up G' h' G'' h'') : Up G h G'' h'' :=
 ⟨x.le.trans y.le, y.sub, λ a o e => (y.old a o (k a o e)).trans (x.old a o e)⟩
noncomputable def cap : Nat := 1048576
noncomputable def Ma : PV -> Bool | .none => true | _ => false
noncomputable def wK : PV -> Bool | .none => true | .bool _ => true | .int _ => true | .bytes _ => true | _ => false
noncomputable def DT : PV -> Bool | .list _ => true | .dict _ => true | _ => false
noncomputable def Lz : PV -> Bool | .dict _ => true | _ => false
noncomputable def uN : PV -> Bool | .wl _ => false | .clo _ => false | _ => true
noncomputable def Ey : Bs -> Bs -> Bool
 | [], [] => false
 | [], _ => true
 | _, [] => false
 | a :: as, b :: bs => if a == b then Ey as bs else decide (a < b)
noncomputable def pF (x y : Int × Bs) : Bool := if x.1 == y.1 then Ey x.2 y.2 else decide (x.1 < y.1)
noncomputable abbrev It := Int × Bs
noncomputable abbrev rn (x : It) : PV := .tuple [.int x.1, .bytes x.2]
inductive Eu : PV -> PV -> Bool -> Prop
 | int (i j : Int) : Eu (.int i) (.int j) (i == j)
 | bytes (a b : Bs) : Eu (.bytes a) (.bytes b) (a == b)
 | bool (a b : Bool) : Eu (.bool a) (.bool b) (a == b)
 | none : Eu .none .none true
inductive JA : List PV -> List PV -> Bool -> Prop
 | nil : JA [] [] true
 | cons {x y xs ys a b} (h : Eu x y a) (t : JA xs ys b) : JA (x :: xs) (y :: ys) (a && b)
inductive Nl : PV -> PV -> Bool -> Prop
 | base {x y b} (h : Eu x y b) : Nl x y b
 | tup {xs ys b} (h : JA xs ys b) : Nl (.tuple xs) (.tuple ys) b
inductive Bm (x : PV) : List PV -> Bool -> Prop
 | nil : Bm x [] false
 | cons {y ys a b} (h : Nl y x a) (t : Bm x ys b) : Bm x (y :: ys) (a || b)
noncomputable def Aq (a c : Int) : Nat -> List PV
 | 0 => []
 | n + 1 => .int a :: Aq (a + c) c n
noncomputable def DO : List PV -> List PV -> List PV
 | a :: as, b :: bs => .tuple [a, b] :: DO as bs
 | _, _ => []
noncomputable def wV (n : Nat) : List PV -> List PV
 | [] => []
 | a :: as => .tuple [.int n, a] :: wV (n + 1) as
noncomputable def m9 (sc : Sc) (x : Str) : Bool := match sc.lookup x with | some .local | some .cell | some .free => true | _ => false
noncomputable def om (sc : Sc) (x : Str) : Bool := sc.lookup x == some .globalImplicit
noncomputable def nQ (sc : Sc) (x : Str) : Bool := sc.lookup x == some .local || sc.lookup x == some .cell
inductive Vw where
 | name (x : Str)
 | tup (ts : List Expr)
 | call (f : Expr)
 | other
noncomputable def Ji : Expr -> Vw
 | .Name x _ => .name x
 | .Tuple ts _ _ => .tup ts
 | .Call f _ _ _ => .call f
 | _ => .other
noncomputable def OY (e : Expr) : Option Str := match Ji e with
 | .name x => some x
 | _ => none
noncomputable def o7 (ow : List Str) (e : Expr) : Bool := match Ji e with
 | .name x => !ow.contains x
 | _ => true
noncomputable def sr (e : Expr) : Bool := match Ji e with
 | .call f => OY f == some "zip" || OY f == some "enumerate"
 | _ => false
noncomputable def tn (t : Expr) : List Str := match Ji t with
 | .name x => [x]
 | .tup ts => ts.reverse.filterMap OY
 | _ => []
noncomputable def BV (e : Expr) : Prop := ∃ ts c p, e = .Tuple ts c p
noncomputable def mU (e : Expr) : Prop := ∀ (es : List Expr) (env : Env), starEach (e :: es) env = (false, eval e env) :: starEach es env
section
noncomputable def HH (h : Heap) (l : List Env) : Prop := ∀ env ∈ l, env.scope.kind ≠ .module /\ ∃ L o, env.frame = some L /\ h.get? L = some o /\ ∀ vs, o.data ≠ .fields vs
theorem HH.up {h h' : Heap} {l : List Env} (x : HH h l) (k : h.UpToSlots h') : HH h' l := λ env he => by
 refine mL λ gk => ?_
 obtain ⟨hk, L, o, hf, ho, hd⟩ := x env he
 obtain ⟨sl, hs⟩ := k L o ho hd
 refine gk ?_
 exact ⟨hk, L, _, hf, hs, hd⟩
theorem HH.fun {h : Heap} {l : List Env} (x : HH h l) (as : List Addr) (hin : ∀ env ∈ l, ∀ a, env.frame = some a -> a ∈ as) : h.FunFrames (hideAll h as) l := by
 induction l with
 | nil => trivial
 | cons env r ih =>
  obtain ⟨hk, L, o, hf, ho, hd⟩ := x env (.head _)
  exact ⟨hk, ⟨L, o, hf, jZ _ (hin env (.head _) L hf), ho, hd⟩, ih (λ e he => x e (.tail _ he)) λ e he => hin e (.tail _ he)⟩
structure Ok (h₀ : Heap) (A : Around) (h : Heap) (k : Nat) : Prop where
 hd : A.handled = none
 depth : A.depth + k <= 900
 units : A.units + 8 * k <= 9000
 base : h₀.StaysIn h
 frs : ∃ l, A.frames = some l /\ HH h l
theorem Ok.mono {h₀ : Heap} {A : Around} {h : Heap} {k k' : Nat} (x : Ok h₀ A h k) (hk : k' <= k) : Ok h₀ A h k' :=
 ⟨x.hd, ac (a6 hk _) x.depth, ac (a6 (cW 8 hk) _) x.units, x.base, x.frs⟩
theorem Ok.room {h₀ : Heap} {A : Around} {h : Heap} {k : Nat} (x : Ok h₀ A h k) : A.depth < recursionLimit := ar (ac (aV _ _) x.depth) (by decide)
noncomputable def mS (l : List Env) : List Addr := l.filterMap (·.frame)
noncomputable def tabs : List Addr := [87, 182]
noncomputable def rN (line : Nat) : Str :=
 if line = 30 then "_has_candidates" else if line = 89 then "<lambda>" else if line = 321 then "kin_of" else if line = 324 then "turned_of" else if line = 327 then "time_of" else "fine_of"
noncomputable def pO (P : Addr) (pos : Pos) : Str := (if P = 87 then ("_find_lcas.<locals>." : Str) else ("law.<locals>." : Str)) ++ rN pos.line
noncomputable def ux (G : Fz) (cv : Value) (q : Str) : Prop := ∃ c o vs t, cv = .ref c /\ G c = some o /\ o.data = .fields vs /\ vs[1]? = some (.str q t)
noncomputable def ql (G : Fz) (h : Heap) : Prop := ∀ P ∈ tabs, ∃ ps, h.get? P = some (tabObj ps) /\ TriplesOk ps.toList /\ ∀ pos cv, codeAmong pos ps.toList = some cv -> ux G cv (pO P pos)
theorem ql.keep {G G' : Fz} {h h' : Heap} (x : ql G h) (le : G.le G') (k : ∀ P ∈ tabs, ∀ o, h.get? P = some o -> h'.get? P = some o) : ql G' h' := λ P hP => by
 obtain ⟨ps, h1, h2, h3⟩ := x P hP
 exact ⟨ps, k P hP _ h1, h2, λ pos cv e => (by obtain ⟨c, o, vs, t, e1, e2, e3⟩ := h3 pos cv e; exact ⟨c, o, vs, t, e1, le _ _ e2, e3⟩)⟩
noncomputable def qk (h : Heap) (a : Addr) : Prop := ∃ o vs, h.get? a = some o /\ o.data = .fields vs /\ vs[2]? = some .none
structure BR (G : Fz) (h : Heap) (l : List Env) (G' : Fz) (B : Heap) : Prop where
 cover : ∀ b o, b ∉ mS l -> b ∉ tabs -> h.get? b = some o -> B.get? b = some o
 le : G.le G'
 sub : G'.sub B
 old : ∀ b o, h.get? b = some o -> G' b = G b
 tabs : ql G h -> ql G' B
inductive rU (G : Fz) (h : Heap) (l : List Env) (e : Value) (h' : Heap) : Prop
 | mk (B : Heap) (G' : Fz) (a : Addr) (a0 : Value) (eq : e = .ref a) (ap : BR G h l G' B) (fl : eX B l a (.type "KeyError") a0 h') (up : h.UpToSlots h') (f2 : qk h' a)
inductive NK (G : Fz) (h : Heap) (l : List Env) (L : Addr) (e : Value) (h' : Heap) : Prop
 | mk (B : Heap) (G' : Fz) (a : Addr) (a0 : Value) (eq : e = .ref a) (ap : BR G h l G' B) (fl : iG B l a (.type "KeyError") a0 L h') (up : h.UpToSlots h') (f2 : qk h' a)
structure tC (s s' : Shared) : Prop where
 os : s'.os = s.os
 drawn : s'.drawn = s.drawn
 gens : AllBare s.gens -> AllBare s'.gens
theorem tC.trans {s s' s'' : Shared} (x : tC s s') (y : tC s' s'') : tC s s'' := ⟨y.os.trans x.os, y.drawn.trans x.drawn, λ g => y.gens (x.gens g)⟩
noncomputable abbrev lObj (vs : List Value) (n : Nat) : Obj := { cls := .type "list", data := .seq vs.toArray n }
noncomputable abbrev tB (vs : List Value) (n : Nat) : Obj := { cls := .type "tuple", data := .seq vs.toArray n }
noncomputable def yH : List Bs -> List Value -> Prop
 | [], vs => vs = []
 | b :: bs, vs => ∃ t vs', vs = .bytes b.toArray t :: vs' /\ yH bs vs'
noncomputable def Ko (G : Fz) (v : Value) : Prop := ∃ a o fd, v = .ref a /\ G a = some o /\ o.data = .func fd
theorem Ko.mono {G G' : Fz} {v : Value} (x : Ko G v) (l : G.le G') : Ko G' v := (by obtain ⟨a, o, fd, e, g, d⟩ := x; exact ⟨a, o, fd, e, l a o g, d⟩)
noncomputable def yV (W : Wo) (G : Fz) (v : Value) (bad : Bs -> Prop) (P : Bs -> Value -> Prop) : Prop :=
 Ko G v /\ ∀ (A : Around) (l : List Env) (s : Shared) (b : Bs) (t : Tok) (Q E : Value -> Shared -> Prop) (G₁ : Fz), Ok W.h₀ A s.heap 3 -> A.frames = some l -> G.le G₁ -> G₁.sub s.heap -> (∀ b ∈ mS l, G₁ b = none) ->
  (∀ u s', P b u -> Keeps s s' -> Q u s') -> (bad b -> ∀ e s', rU G₁ s.heap l e s'.heap -> tC s s' -> E e s') -> wpAny (Mo W) A (call v [.bytes b.toArray t] []) Q E s
inductive O8 (G : Fz) (bs : List Bs) (v : Value) : Prop
 | mk (a : Addr) (vs : List Value) (n : Nat) (e : v = .ref a) (g : G a = some (lObj vs n)) (t : yH bs vs) (c : bs.length <= cap)
noncomputable def BP (W : Wo) (G : Fz) (v : Value) (F : Bs -> Option (List Bs)) : Prop := yV W G v (λ b => F b = none) λ b u => ∃ bs, F b = some bs /\ O8 G bs u
noncomputable def BJ (W : Wo) (G : Fz) (v : Value) (F : Bs -> Option Int) : Prop := yV W G v (λ b => F b = none) λ b u => ∃ i t, F b = some i /\ u = .int i t
inductive NF (f : List Value -> Nat -> Obj) (G : Fz) (R : List Value -> Prop) (v : Value) : Prop
 | mk (a : Addr) (vs : List Value) (n : Nat) (e : v = .ref a) (g : G a = some (f vs n)) (r : R vs) (c : vs.length <= cap)
inductive OS (W : Wo) (G : Fz) (ne : Bool) (v : Value) : Prop
 | mk (a : Addr) (o : Obj) (n : Nat) (S : Bs -> Bool) (e : v = .ref a) (g : G a = some o) (s : o.SetObjOf (bytesKind PySem.Challenge.pw_ai0008_01 W.w) S n) (h : ne = !(n == 0)) (c : n <= cap)
inductive LN (P : Value -> Prop) (R : List Value -> Prop) (vs : List Value) : Prop
 | mk (v : Value) (r : List Value) (e : vs = v :: r) (p : P v) (q : R r)
mutual
noncomputable def VR (W : Wo) (G : Fz) : PV -> Value -> Prop
 | .none, v => v = .none
 | .bool b, v => v = .bool b
 | .int i, v => ∃ t, v = .int i t
 | .bytes b, v => ∃ t, v = .bytes b.toArray t
 | .list ps, v => NF lObj G (nG W G ps) v
 | .tuple ps, v => NF tB G (nG W G ps) v
 | .set ne, v => OS W G ne v
 | .par F, v => BP W G v F
 | .stp F, v => BJ W G v F
 | .dict _, _ => False
 | .wl _, _ => False
 | .clo _, _ => False
noncomputable def nG (W : Wo) (G : Fz) : List PV -> List Value -> Prop
 | [], vs => vs = []
 | p :: ps, vs => LN (VR W G p) (nG W G ps) vs
end
section
variable {W : Wo} {G G' : Fz}
theorem yV.mono {v : Value} {bad : Bs -> Prop} {P P' : Bs -> Value -> Prop} (x : yV W G v bad P) (l : G.le G') (h : ∀ b u, P b u -> P' b u) : yV W G' v bad P' :=
 ⟨x.1.mono l, λ A fr s b t Q E G₁ ok hf hl hs hn h1 h2 => x.2 A fr s b t Q E G₁ ok hf (l.trans hl) hs hn (λ u s' p => h1 u s' (h b u p)) h2⟩
theorem BP.mono {v : Value} {F : Bs -> Option (List Bs)} (x : BP W G v F) (l : G.le G') : BP W G' v F :=
 yV.mono x l (by rintro b u ⟨bs, e, a, vs, n, e', g, t, c⟩; exact ⟨bs, e, a, vs, n, e', l _ _ g, t, c⟩)
theorem BJ.mono {v : Value} {F : Bs -> Option Int} (x : BJ W G v F) (l : G.le G') : BJ W G' v F := yV.mono x l λ _ _ e => e
mutual
theorem VR.mono (l : G.le G') : ∀ (p : PV) (v : Value), VR W G p v -> VR W G' p v
 | .none, _, h => h
 | .bool _, _, h => h
 | .int _, _, h => h
 | .bytes _, _, h => h
 | .list ps, _, ⟨a, vs, n, e, g, r, c⟩ => ⟨a, vs, n, e, l a _ g, nG.mono l ps vs r, c⟩
 | .tuple ps, _, ⟨a, vs, n, e, g, r, c⟩ => ⟨a, vs, n, e, l a _ g, nG.mono l ps vs r, c⟩
 | .set _, _, ⟨a, o, n, S, e, g, r, h, c⟩ => ⟨a, o, n, S, e, l a _ g, r, h, c⟩
 | .par _, _, h => BP.mono h l
 | .stp _, _, h => BJ.mono h l
 | .dict _, _, h => h.elim
 | .wl _, _, h => h.elim
 | .clo _, _, h => h.elim
theorem nG.mono (l : G.le G') : ∀ (ps : List PV) (vs : List Value), nG W G ps vs -> nG W G' ps vs
 | [], _, h => h
 | p :: ps, _, ⟨v, vs', e, h, r⟩ => ⟨v, vs', e, VR.mono l p v h, nG.mono l ps vs' r⟩
end
theorem nG.length : ∀ {ps : List PV} {vs : List Value}, nG W G ps vs -> vs.length = ps.length
 | [], _, h => by simp [show _ = [] from h]
 | p :: ps, _, ⟨v, vs', e, _, r⟩ => by subst e; simp [nG.length r]
theorem nG.get : ∀ {ps : List PV} {vs : List Value}, nG W G ps vs -> ∀ {i : Nat} {p : PV}, ps[i]? = some p -> ∃ v, vs[i]? = some v /\ VR W G p v
 | [], _, _, i, p, hi => by simp at hi
 | q :: ps, _, ⟨v, vs', e, h, r⟩, 0, p, hi => by simp at hi; subst hi e; exact ⟨v, rfl, h⟩
 | q :: ps, _, ⟨v, vs', e, h, r⟩, i + 1, p, hi => by subst e; simpa using nG.get r (by simpa using hi)
theorem nG.ofBs : ∀ {bs : List Bs} {vs : List Value}, yH bs vs -> nG W G (bs.map .bytes) vs
 | [], _, h => h
 | b :: bs, _, ⟨t, vs', e, r⟩ => ⟨_, vs', e, ⟨t, rfl⟩, nG.ofBs r⟩
theorem nG.append : ∀ {ps qs : List PV} {vs us : List Value}, nG W G ps vs -> nG W G qs us -> nG W G (ps ++ qs) (vs ++ us)
 | [], _, _, _, h, h' => by rw [show _ = [] from h]; exact h'
 | p :: ps, _, _, _, ⟨v, vs', e, h, r⟩, h' => by subst e; exact ⟨v, _, rfl, h, nG.append r h'⟩
theorem nG.take : ∀ (n : Nat) {ps : List PV} {vs : List Value}, nG W G ps vs -> nG W G (ps.take n) (vs.take n)
 | 0, _, _, _ => by simp [nG]
 | n + 1, [], _, h => by rw [show _ = [] from h]; simp [nG]
 | n + 1, p :: ps, _, ⟨v, vs', e, h, r⟩ => by subst e; exact ⟨v, _, rfl, h, nG.take n r⟩
theorem nG.drop : ∀ (n : Nat) {ps : List PV} {vs : List Value}, nG W G ps vs -> nG W G (ps.drop n) (vs.drop n)
 | 0, _, _, h => by simpa using h
 | n + 1, [], _, h => by rw [show _ = [] from h]; simp [nG]
 | n + 1, p :: ps, _, ⟨v, vs', e, h, r⟩ => by subst e; simpa using nG.drop n r
theorem nG.snoc {ps : List PV} {vs : List Value} {p : PV} {v : Value} (h : nG W G ps vs) (hp : VR W G p v) : nG W G (ps ++ [p]) (vs ++ [v]) :=
 h.append ⟨v, [], rfl, hp, rfl⟩
theorem nG.set {ps : List PV} {vs : List Value} (h : nG W G ps vs) {p : PV} {v : Value} (hp : VR W G p v) : ∀ (i : Nat), nG W G (ps.set i p) (vs.set i v) := by
 intro i
 induction ps generalizing vs i with
 | nil => rw [show vs = [] from h]; simp [nG]
 | cons q ps ih =>
  obtain ⟨u, vs', e, hu, r⟩ := h
  subst e
  cases i with
  | zero => exact ⟨v, vs', rfl, hp, r⟩
  | succ i => exact ⟨u, _, rfl, hu, ih r i⟩
end
end
noncomputable abbrev bK (W : Wo) := bytesKind PySem.Challenge.pw_ai0008_01 W.w
noncomputable abbrev No : Value -> Shared -> Prop := λ _ _ => False
inductive OL (h : Heap) (R : List Value -> Prop) (a : Addr) : Prop
 | mk (vs : List Value) (n : Nat) (g : h.get? a = some (lObj vs n)) (r : R vs) (c : vs.length <= cap)
inductive OD (W : Wo) (G : Fz) (h : Heap) (kvs : List (Bs × PV)) (a : Addr) : Prop
 | mk (us : List (Bs × Value)) (d : h.DictOf (bK W) a us) (k : us.map (·.1) = kvs.map (·.1)) (r : nG W G (kvs.map (·.2)) (us.map (·.2))) (c : us.length <= cap)
noncomputable def On (W : Wo) (G : Fz) (h : Heap) : PV -> Addr -> Prop
 | .list ps, a => OL h (nG W G ps) a
 | .dict kvs, a => OD W G h kvs a
 | _, _ => False
inductive K8 (W : Wo) (G : Fz) (h : Heap) (pv : PV) (v : Value) : Prop
 | mk (a : Addr) (e : v = .ref a) (g : G a = none) (r : On W G h pv a)
noncomputable def VW (W : Wo) (G : Fz) (h : Heap) (pv : PV) (v : Value) : Prop := VR W G pv v \/ K8 W G h pv v
inductive Gv (G : Fz) (s : Shared) (P : Fz -> Heap -> Value -> Prop) (v : Value) (s' : Shared) : Prop
 | mk (k : Keeps s s') (G' : Fz) (u : Up G s.heap G' s'.heap) (p : P G' s'.heap v)
section
variable {W : Wo} {G G' : Fz} {h h' : Heap} {s s' s'' : Shared}
theorem p0 (k : Keeps s s') {a : Addr} {o : Obj} (e : s.heap.get? a = some o) : s'.heap.get? a = some o := by
 obtain ⟨h', tk, rfl, hk⟩ := k
 exact hk a o e
theorem pB (k : Keeps s s') : ∀ a o, s.heap.get? a = some o -> s'.heap.get? a = some o := λ _ _ e => p0 k e
theorem rf (k : Keeps s s') (k' : Keeps s' s'') : Keeps s s'' := by
 obtain ⟨h', tk, rfl, hk⟩ := k
 obtain ⟨h'', tk', rfl, hk'⟩ := k'
 exact ⟨h'', tk', rfl, λ b o e => hk' b o (hk b o e)⟩
theorem yu : Keeps s s := ⟨s.heap, s.toks, rfl, λ _ _ e => e⟩
theorem rE (t : Nat) : Keeps s { s with toks := t } := ⟨s.heap, t, rfl, λ _ _ e => e⟩
theorem K8.keep {pv : PV} {v : Value} (x : K8 W G h pv v) (u : Up G h G' h') (k : ∀ a o, h.get? a = some o -> h'.get? a = some o) : K8 W G' h' pv v := by
 obtain ⟨a, e, g, r⟩ := x
 cases pv with
 | list ps =>
  obtain ⟨vs, n, ho, hr, hc⟩ := r
  exact ⟨a, e, (u.old a _ ho).trans g, vs, n, k _ _ ho, hr.mono u.le, hc⟩
 | dict kvs =>
  refine mL λ gk => ?_
  obtain ⟨us, hd, hk, hr, hc⟩ := r
  obtain ⟨o, es, ep, ho, rest⟩ := id hd
  refine gk ?_
  exact ⟨a, e, (u.old a _ ho).trans g, us, hd.keep k, hk, hr.mono u.le, hc⟩
 | _ => exact r.elim
theorem VW.keep {pv : PV} {v : Value} (x : VW W G h pv v) (u : Up G h G' h') (k : ∀ a o, h.get? a = some o -> h'.get? a = some o) : VW W G' h' pv v :=
 x.imp (VR.mono u.le _ _) λ x => x.keep u k
inductive NA (f : List Value -> Nat -> Obj) (W : Wo) (G : Fz) (h : Heap) (ps : List PV) (v : Value) : Prop
 | mk (a : Addr) (vs : List Value) (n : Nat) (e : v = .ref a) (g : h.get? a = some (f vs n)) (r : nG W G ps vs) (c : vs.length <= cap)
theorem VW.list {ps : List PV} {v : Value} (x : VW W G h (.list ps) v) (sub : G.sub h) : NA lObj W G h ps v := by
 rcases x with ⟨a, vs, n, e, g, r, c⟩ | ⟨a, e, g, vs, n, ho, r, c⟩
 ·exact ⟨a, vs, n, e, sub _ _ g, r, c⟩
 ·exact ⟨a, vs, n, e, ho, r, c⟩
theorem mP {a : Addr} {vs : List Value} {n : Nat} (ho : h.get? a = some (lObj vs n)) : h.IsList a vs.toArray := ⟨_, ho, rfl, n, rfl⟩
theorem oF {a : Addr} {vs : List Value} {n : Nat} (ho : h.get? a = some (tB vs n)) : h.IsTuple a vs.toArray := ⟨_, ho, rfl, n, rfl⟩
theorem VW.tuple {ps : List PV} {v : Value} (x : VW W G h (.tuple ps) v) (sub : G.sub h) : NA tB W G h ps v := by
 rcases x with ⟨a, vs, n, e, g, r, c⟩ | ⟨a, e, g, r⟩
 ·exact ⟨a, vs, n, e, sub _ _ g, r, c⟩
 ·exact r.elim
theorem VW.int {i : Int} {v : Value} (x : VW W G h (.int i) v) : ∃ t, v = .int i t := by
 rcases x with x | ⟨a, e, g, r⟩
 ·exact x
 ·exact r.elim
theorem VW.bytes {b : Bs} {v : Value} (x : VW W G h (.bytes b) v) : ∃ t, v = .bytes b.toArray t := by
 rcases x with x | ⟨a, e, g, r⟩
 ·exact x
 ·exact r.elim
theorem VW.bool {b : Bool} {v : Value} (x : VW W G h (.bool b) v) : v = .bool b := by
 rcases x with x | ⟨a, e, g, r⟩
 ·exact x
 ·exact r.elim
theorem VW.none {v : Value} (x : VW W G h .none v) : v = .none := by
 rcases x with x | ⟨a, e, g, r⟩
 ·exact x
 ·exact r.elim
theorem Gv.pure {P : Fz -> Heap -> Value -> Prop} {v : Value} (sub : G.sub s.heap) (h : P G s.heap v) : Gv G s P v s := ⟨yu, G, Up.rfl sub, h⟩
theorem Gv.tok {P : Fz -> Heap -> Value -> Prop} {v : Value} (t : Nat) (sub : G.sub s.heap) (h : P G s.heap v) : Gv G s P v { s with toks := t } := ⟨rE t, G, Up.rfl sub, h⟩
noncomputable def Fz.add (G : Fz) (a : Addr) (o : Obj) : Fz := λ b => if b = a then some o else G b
theorem Fz.add_self {a : Addr} {o : Obj} : (G.add a o) a = some o := by simp [Fz.add]
theorem Up.add {a : Addr} {o : Obj} (u : Up G h G' h') (n : h.get? a = none) (e : h'.get? a = some o) : Up G h (G'.add a o) h' where
 le := u.le.trans λ b ob w => by
  unfold Fz.add
  split
  ·rename_i q; subst q; exact e.symm.trans (u.sub _ _ w)
  ·exact w
 sub := λ b ob w => by
  unfold Fz.add at w
  split at w
  ·rename_i q; subst q; cases w; exact e
  ·exact u.sub b ob w
 old := λ b ob w => (if_neg (by rintro rfl; rw [n] at w; cases w)).trans (u.old b ob w)
theorem zH {a : Addr} {o : Obj} (sub : G.sub h) (n : h.get? a = none) (e : h'.get? a = some o) (k : ∀ b o, G b = some o -> h'.get? b = some o) : Up G h (G.add a o) h' := Up.add ⟨Fz.le.rfl, k, λ _ _ _ => rfl⟩ n e
theorem IH {a : Addr} {o : Obj} (sub : G.sub h) (hn : h.get? a = .none) (k : ∀ b o, h.get? b = some o -> h'.get? b = some o) (ho : h'.get? a = some o) : Up G h (G.add a o) h' := zH sub hn ho λ b o e => k b o (sub b o e)
end
section
variable {W : Wo} {G G' G'' : Fz} {A : Around} {s s' s'' : Shared} {k : Nat}
noncomputable abbrev zC (W : Wo) (pv : PV) : Fz -> Heap -> Value -> Prop := λ G _ v => VR W G pv v
structure Go (G : Fz) (s : Shared) (G' : Fz) (s' : Shared) : Prop where
 k : Keeps s s'
 u : Up G s.heap G' s'.heap
theorem Go.get (g : Go G s G' s') {a : Addr} {o : Obj} (e : s.heap.get? a = some o) : s'.heap.get? a = some o := p0 g.k e
theorem Go.trans (g : Go G s G' s') (g' : Go G' s' G'' s'') : Go G s G'' s'' := ⟨rf g.k g'.k, g.u.trans (pB g.k) g'.u⟩
theorem Go.gv {P : Fz -> Heap -> Value -> Prop} {v : Value} (g : Go G s G' s') (p : P G' s'.heap v) : Gv G s P v s' := ⟨g.k, G', g.u, p⟩
theorem Go.rfl (sub : G.sub s.heap) : Go G s G s := ⟨yu, Up.rfl sub⟩
theorem Go.tok (sub : G.sub s.heap) (t : Nat) : Go G s G { s with toks := t } := ⟨rE t, Up.rfl sub⟩
theorem VW.go {p : PV} {v : Value} (x : VW W G s.heap p v) (g : Go G s G' s') : VW W G' s'.heap p v := x.keep g.u (pB g.k)
theorem oX {α : Type} {t : Sem α} {P Q : α -> Shared -> Prop} {E : Value -> Shared -> Prop} (h : wpAny (Mo W) A t P No s) (h' : ∀ a s', P a s' -> Q a s') : wpAny (Mo W) A t Q E s := ay h h' λ _ _ x => x.elim
theorem Gv.then {t : Sem Value} {P : Fz -> Heap -> Value -> Prop} {Q E : Value -> Shared -> Prop} (h : wpAny (Mo W) A t (Gv G s P) No s) (h' : ∀ v s' G', Go G s G' s' -> P G' s'.heap v -> Q v s') : wpAny (Mo W) A t Q E s :=
 oX h λ v s' x => x.rec λ k G' u p => h' v s' G' ⟨k, u⟩ p
theorem Gv.bind {α : Type} {t : Sem Value} {f : Value -> Sem α} {P : Fz -> Heap -> Value -> Prop} {Q : α -> Shared -> Prop} {E : Value -> Shared -> Prop} (h : wpAny (Mo W) A t (Gv G s P) No s) (h' : ∀ v s' G', Go G s G' s' -> P G' s'.heap v -> wpAny (Mo W) A (f v) Q E s') : wpAny (Mo W) A (t >>= f) Q E s := aa (Gv.then h h')
theorem Gv.out {t : Sem Value} {P : Fz -> Heap -> Value -> Prop} (g : Go G s G' s') (h : wpAny (Mo W) A t (Gv G' s' P) No s') : wpAny (Mo W) A t (Gv G s P) No s' := Gv.then h λ _ _ _ g' p => (g.trans g').gv p
theorem tV {h' : Heap} {o : Obj} {t : Nat} (sub : G.sub s.heap) (e : h' = s.heap.push o) (hf : autoParam (o.isFreed = false) tR) : Go G s (G.add s.heap.objs.size o) { s with heap := h', toks := t } := by
 subst e
 exact ⟨⟨_, _, _root_.rfl, λ b o e => aj _ e⟩, IH sub (dM (aQ _)) (λ b o e => aj _ e) (aJ _ hf)⟩
theorem tE : cap <= sizeLine := by decide +kernel
theorem tI {vs : List Value} (hc : vs.length <= cap) : vs.toArray.size <= sizeLine := by rw [aG]; exact ac hc tE
theorem CZ {vs : List Value} {ps : List PV} (sub : G.sub s.heap) (hv : nG W G ps vs) (hc : vs.length <= cap) : wpAny (Mo W) A (newList vs) (Gv G s (zC W (.list ps))) No s :=
 cq (Go.gv (tV sub rfl) ⟨_, vs, 0, rfl, Fz.add_self, hv.mono (tV (t := 0) sub rfl).u.le, hc⟩) (tI hc)
theorem q0 {vs : List Value} {ps : List PV} (sub : G.sub s.heap) (hv : nG W G ps vs) (hc : vs.length <= cap) : wpAny (Mo W) A (newTuple vs) (Gv G s (zC W (.tuple ps))) No s :=
 cq (Go.gv (tV sub rfl) ⟨_, vs, 0, rfl, Fz.add_self, hv.mono (tV (t := 0) sub rfl).u.le, hc⟩) (tI hc)
noncomputable def Bo (op : Operator) (a b r : PV) : Prop := ∀ (W : Wo) (A : Around) (G : Fz) (s : Shared) (va vb : Value), G.sub s.heap -> VW W G s.heap a va -> VW W G s.heap b vb -> wpAny (Mo W) A (binaryOp op va vb) (Gv G s (zC W r)) No s
theorem Bo.ints {op : Operator} {a b r : Int} (h : ∀ (W : Wo) (A : Around) (s : Shared) (t u : Tok) (Q : Value -> Shared -> Prop), Q (.int r s.toks) { s with toks := s.toks + 1 } -> wpAny (Mo W) A (binaryOp op (.int a t) (.int b u)) Q No s) : Bo op (.int a) (.int b) (.int r) := λ W A G s va vb sub ha hb => by
 obtain ⟨t, rfl⟩ := ha.int
 obtain ⟨u, rfl⟩ := hb.int
 exact h W A s t u _ (Gv.tok _ sub ⟨_, rfl⟩)
theorem ua {a b : Int} : Bo .Add (.int a) (.int b) (.int (a + b)) := .ints λ _ _ _ _ _ _ h => PySem.P.add_int h
theorem zh {a b : Int} : Bo .Sub (.int a) (.int b) (.int (a - b)) := .ints λ _ _ _ _ _ _ h => PySem.P.sub_int h
theorem CN {a b : Int} (hc : a.natAbs < 2 ^ 64 \/ b.natAbs < 2 ^ 64) : Bo .Mult (.int a) (.int b) (.int (a * b)) := .ints λ _ _ _ _ _ _ h => PySem.P.mul_int h (hc.elim (λ h => IntMulOk.of_left (intBits_le h)) λ h => IntMulOk.of_right (intBits_le h))
theorem sj {a b : Int} (h0 : b ≠ 0) (h1 : b.natAbs < 1073741824) : Bo .FloorDiv (.int a) (.int b) (.int (a.fdiv b)) := .ints λ _ _ _ _ _ _ h => floordiv_int h0 h (Or.inl (iJ h1))
theorem vL {a b : Int} (h0 : b ≠ 0) : Bo .Mod (.int a) (.int b) (.int (a.fmod b)) := .ints λ _ _ _ _ _ _ h => mod_int' h0 h
theorem za {a b : Int} : Bo .BitAnd (.int a) (.int b) (.int (cD a b)) := .ints λ _ _ _ _ _ _ h => and_int h
theorem N4 {a b : Int} : Bo .BitOr (.int a) (.int b) (.int (kE a b)) := .ints λ _ _ _ _ _ _ h => or_int h
theorem Mp {a b : Int} (h0 : 0 <= b) (h1 : b <= 1000000) (h2 : a.natAbs < 2 ^ 64) : Bo .LShift (.int a) (.int b) (.int (a * 2 ^ b.toNat)) := .ints λ _ _ _ _ _ _ h => lshift_int_small h0 h1 h2 h
theorem MH {a b : Int} (h0 : 0 <= b) : Bo .RShift (.int a) (.int b) (.int (a.fdiv (2 ^ b.toNat))) := .ints λ _ _ _ _ _ _ h => rshift_int h0 h
theorem yA {l l2 : Addr} {vs vs2 : List Value} {n n2 : Nat} {Q : Value -> Shared -> Prop} (ho : s.heap.get? l = some (lObj vs n)) (ho2 : s.heap.get? l2 = some (lObj vs2 n2)) (hc : (vs ++ vs2).length <= cap)
  (h : Q (.ref s.heap.objs.size) { s with heap := s.heap.push (lObj (vs ++ vs2) 0) }) : wpAny (Mo W) A (binaryOp .Add (.ref l) (.ref l2)) Q No s := by
 have e : vs.toArray ++ vs2.toArray = (vs ++ vs2).toArray := by simp
 refine concat_meets ⟨_, ho, rfl⟩ ⟨_, ho2, rfl⟩ noFill_list_add seq_list_add PySem.F.slot_list_add PySem.F.entry_list_add (PySem.F.args_list_add_2 _ _) (list_addW l l2 vs.toArray vs2.toArray n n2 .none .none #[] #[] (by rw [<- jU, e]; exact tI hc)) ⟨ho, ho2, ?_⟩
 rw [e]; exact h
theorem Hs {a b : List PV} (hc : (a ++ b).length <= cap) : Bo .Add (.list a) (.list b) (.list (a ++ b)) := λ W A G s va vb sub ha hb => by
 obtain ⟨l, vs, n, rfl, ho, hr, _⟩ := ha.list sub
 obtain ⟨l2, vs2, n2, rfl, ho2, hr2, _⟩ := hb.list sub
 have hc' : (vs ++ vs2).length <= cap := by rw [(hr.append hr2).length]; exact hc
 exact yA ho ho2 hc' (Go.gv (tV sub rfl) ⟨_, _, 0, rfl, Fz.add_self, (hr.append hr2).mono (tV (t := 0) sub rfl).u.le, hc'⟩)
noncomputable def Uo (op : UnaryOp) (a r : PV) : Prop := ∀ (W : Wo) (A : Around) (G : Fz) (s : Shared) (v : Value), G.sub s.heap -> VW W G s.heap a v -> wpAny (Mo W) A (unaryOp op v) (Gv G s (zC W r)) No s
theorem Nd {a : Int} : Uo .USub (.int a) (.int (-a)) := λ W A G s v sub ha => by
 obtain ⟨t, rfl⟩ := ha.int
 exact PySem.P.neg_int (Gv.tok _ sub ⟨_, rfl⟩)
theorem Mr {a : Int} : Uo .Invert (.int a) (.int (bD a)) := λ W A G s v sub ha => by
 obtain ⟨t, rfl⟩ := ha.int
 exact invert_int (Gv.tok _ sub ⟨_, rfl⟩)
end
section
variable {W : Wo} {G : Fz} {A : Around} {s : Shared} {a b : PV} {va vb : Value} {r : Bool} {E : Value -> Shared -> Prop}
noncomputable def Tk (s : Shared) (b : Bool) (r : Bool) (s' : Shared) : Prop := r = b /\ ∃ t, s' = { s with toks := t }
noncomputable def Tt (a : PV) (b : Bool) : Prop := ∀ (W : Wo) (A : Around) (G : Fz) (s : Shared) (v : Value) (E : Value -> Shared -> Prop), G.sub s.heap -> VW W G s.heap a v -> wpAny (Mo W) A (truthy v) (Tk s b) E s
theorem Ld : Tt .none false := λ W A G s v E sub h => by rw [h.none]; exact truthy_none ⟨rfl, s.toks, rfl⟩
theorem nw {b : Bool} : Tt (.bool b) b := λ W A G s v E sub h => by rw [h.bool]; exact lA ⟨rfl, s.toks, rfl⟩
theorem qr {l : List PV} : Tt (.list l) (!l.isEmpty) := λ W A G s v E sub h => by
 obtain ⟨a, vs, n, rfl, ho, hr, hc⟩ := h.list sub
 refine wpAny_truthy_list (mP ho) (by rw [aG]; exact gT (eh.mpr hc) (by decide)) ⟨?_, _, rfl⟩
 have := hr.length
 cases l <;> cases vs <;> first | rfl | cases this
theorem MY {ne : Bool} : Tt (.set ne) ne := λ W A G s v E sub h => by
 obtain ⟨a, o, n, S, rfl, g, ⟨hex, es, ep, t, hd, he, hS, hn, hf⟩, rfl, hc⟩ | ⟨a, e, g, q⟩ := h
 ·have ho := sub _ _ g
  have hT : s.TypeIs (.ref a) "set" := ⟨o, ho, hex.1⟩
  have hfit : (es.size : Int) < 2 ^ 63 := by rw [hn]; exact gT (eh.mpr hc) (by decide)
  have hne : ((es.size : Int) != 0) = !(n == 0) := by rw [hn]; cases n <;> rfl
  have key : wpAny (Mo W) A (runValue (.builtin "len" ⟨[.ref a], []⟩)) (λ r s' => r = .int es.size (s.toks + 1) /\ Tk s (!(n == 0)) (!(n == 0)) s') E s := by
   refine jk (dJ entry_len ?_)
   rw [dI plain_len _]
   exact ay (wpAny_len_body_set (Q := λ r s' => r = .int es.size (s.toks + 1) /\ Tk s (!(n == 0)) (!(n == 0)) s') ho hex hd hf hfit ⟨rfl, rfl, _, rfl⟩) (λ fin s' h' => by obtain ⟨r, rfl, hq⟩ := h'; exact hq) λ _ _ e => e
  unfold truthy
  first
   | refine aa (jN (name := c6 "__bool__") hT PySem.W.noBool_set ?_)
   | refine aa (ai (aa (jN (name := c6 "__bool__") hT PySem.W.noBool_set ?_)))
  first
   | refine aa (fe (name := c6 "__len__") hT F.slot_set_len.lookup ?_)
   | refine aa (ai (aa (fe (name := c6 "__len__") hT F.slot_set_len.lookup ?_)))
  first
   | exact aa (ay key (λ r s' h' => by obtain ⟨rfl, hq⟩ := h'; exact ai (hne ▸ hq)) λ _ _ e => e)
   | exact aa (ai (aa (ay key (λ r s' h' => by obtain ⟨rfl, hq⟩ := h'; exact ai (hne ▸ hq)) λ _ _ e => e)))
 ·exact q.elim
noncomputable def Lq : Value -> Value -> Bool
 | .int i _, y => match y with
  | .int j _ => i == j
  | _ => false
 | .bytes b _, y => match y with
  | .bytes c _ => b.toList == c.toList
  | _ => false
 | .bool a, y => y == .bool a
 | .none, _ => true
 | _, _ => false
noncomputable def s9 (h : Heap) (a : Addr) : List Value := match h.get? a with
 | some o => (match o.data with | .seq xs _ => xs.toList | _ => [])
 | none => []
noncomputable def MQ : List Value -> List Value -> Bool
 | [], _ => true
 | _, [] => true
 | x :: xs, y :: ys => Lq x y && MQ xs ys
noncomputable def MC (h : Heap) (v x : Value) : Bool := match v with
 | .ref a => match x with
  | .ref b => MQ (s9 h a) (s9 h b)
  | _ => false
 | v => Lq v x
theorem EqAt.bytes {b c : Bs} {t u : Tok} : EqAt A s (.bytes b.toArray t) (.bytes c.toArray u) (b == c) := λ prog w E Q h =>
 PySem.W.eqBool_bytes (by
  have e : (b == c) = decide (b = c) := by rw [bI]; simp
  rw [e] at h; exact h)
theorem IQ (h : Eu a b r) (ha : VR W G a va) (hb : VR W G b vb) : EqAt A s va vb r /\ Lq va vb = r := by
 cases h with
 | int i j => obtain ⟨t, rfl⟩ := ha; obtain ⟨u, rfl⟩ := hb; exact ⟨EqAt.int_int _ _ _ _, rfl⟩
 | bytes => obtain ⟨t, rfl⟩ := ha; obtain ⟨u, rfl⟩ := hb; exact ⟨EqAt.bytes, rfl⟩
 | bool x y => cases (show va = _ from ha); cases (show vb = _ from hb); exact ⟨EqAt.bool_bool _ _, by cases x <;> cases y <;> rfl⟩
 | none => cases (show va = _ from ha); cases (show vb = _ from hb); exact ⟨EqAt.same _, rfl⟩
theorem Ig {v : Value} (h : Eu a b r) (ha : VR W G a v) (hb : VR W G b v) : r = true := by
 cases h with
 | int i j => obtain ⟨t, rfl⟩ := ha; obtain ⟨u, e⟩ := hb; cases e; exact beq_self_eq_true i
 | bytes x y =>
  obtain ⟨t, rfl⟩ := ha
  obtain ⟨u, e⟩ := hb
  injection e with e
  cases (show x = y from congrArg i8 e)
  exact beq_self_eq_true x
 | bool x y => cases (show v = _ from ha); cases (show _ = jH _ from hb); cases x <;> rfl
 | none => rfl
theorem GA {as bs : List PV} (h : JA as bs r) : ∀ {xs ys : List Value}, nG W G as xs -> nG W G bs ys ->
  MQ xs ys = r /\ (∀ (j : Nat) (x y : Value), xs[j]? = some x -> ys[j]? = some y -> EqAt A s x y (Lq x y)) /\ (xs = ys -> r = true) := by
 induction h with
 | nil => intro xs ys ha hb; cases (show _ = _ from ha); exact ⟨rfl, ⟨λ j x y hx => (by cases hx), λ _ => rfl⟩⟩
 | cons h t ih =>
  intro xs ys ha hb
  obtain ⟨u, xs, rfl, ha, hra⟩ := ha
  obtain ⟨v, ys, rfl, hb, hrb⟩ := hb
  obtain ⟨q1, q2⟩ := IQ (A := A) (s := s) h ha hb
  obtain ⟨p1, p2, p3⟩ := ih hra hrb
  refine ⟨by show (Lq u v && MQ xs ys) = _; rw [q2, p1], ⟨λ j x y hx hy => ?_, λ e => ?_⟩⟩
  ·cases j with
   | zero => cases hx; cases hy; rw [q2]; exact q1
   | succ j => exact p2 j x y hx hy
  ·refine mL λ gk => ?_
   cases e
   refine gk ?_
   rw [Ig h ha hb, p3 rfl]; rfl
theorem JA.len {as bs : List PV} (h : JA as bs r) : as.length = bs.length := by
 induction h with
 | nil => rfl
 | cons _ _ ih => exact congrArg ee ih
noncomputable def ez (va vb : List Value) (j : Nat) : Bool := match va[j]? with
 | some x => match vb[j]? with
  | some y => Lq x y
  | none => true
 | none => true
theorem yt : ∀ (va vb : List Value), va.length = vb.length -> (az va.length).all (ez va vb) = MQ va vb
 | [], [], _ => rfl
 | x :: va, y :: vb, h => by
  rw [cu, List.range_succ_eq_map, cm, lK]
  show _ = (Lq x y && MQ va vb)
  rw [<- yt va vb (iA h)]
  rfl
 | [], y :: vb, h => by cases h
 | x :: va, [], h => by cases h
theorem LG {as bs : List PV} {vx vy : List Value} (h : JA as bs r) (rx : nG W G as vx) (ry : nG W G bs vy) :
  vx.length = vy.length /\ (az vx.length).all (ez vx vy) = r /\ ∀ j (h1 : j < vx.toArray.size) (h2 : j < vy.toArray.size), EqAt A s vx.toArray[j] vy.toArray[j] (ez vx vy j) := by
 refine mL λ gk => ?_
 obtain ⟨q1, q2, _⟩ := GA (A := A) (s := s) h rx ry
 refine gk ?_
 have hl : vx.length = vy.length := by rw [rx.length, ry.length, h.len]
 refine ⟨hl, (yt vx vy hl).trans q1, λ j h1 h2 => ?_⟩
 have e1 : vx[j]? = some vx[j] := aF _
 have e2 : vy[j]? = some vy[j] := aF _
 have := q2 j vx[j] vy[j] e1 e2
 have e : ez vx vy j = Lq vx[j] vy[j] := by rw [ez, e1, e2]
 rw [e]
 exact this
theorem F9 (hu : A.units + 8 < cLine) (h : Nl a b r) (sub : G.sub s.heap) (ha : VR W G a va) (hb : VR W G b vb) : EqAt A s va vb r /\ MC s.heap va vb = r := by
 cases h with
 | base h =>
  obtain ⟨q1, q2⟩ := IQ (A := A) (s := s) h ha hb
  refine ⟨q1, ?_⟩
  cases h with
  | int => obtain ⟨t, rfl⟩ := ha; exact q2
  | bytes => obtain ⟨t, rfl⟩ := ha; exact q2
  | bool => cases (show va = _ from ha); exact q2
  | none => cases (show va = _ from ha); exact q2
 | tup h =>
  obtain ⟨x, vx, nx, rfl, gx, rx, cx⟩ := ha
  obtain ⟨y, vy, ny, rfl, gy, ry, cy⟩ := hb
  have hx := sub _ _ gx
  have hy := sub _ _ gy
  obtain ⟨q1, _, q3⟩ := GA (A := A.in1) (s := s) h rx ry
  obtain ⟨hl, e1, e2⟩ := LG (A := A.in1) (s := s) h rx ry
  refine ⟨?_, by show MQ (s9 _ _) (s9 _ _) = _; rw [s9, s9, hx, hy]; exact q1⟩
  by_cases hxy : x = y
  ·subst hxy
   rw [gx] at gy
   have e : vx = vy := by injection gy with gy; injection gy with _ _ gy; injection gy with gy; exact congrArg i8 gy
   rw [q3 e]
   exact EqAt.same _
  ·refine EqAt.of_refs hxy ?_
   have := RcAt.tuples (e := ez vx vy) (oF hx) (oF hy) (A := A) (by lia) e2
   rw [aG, aG, <- hl, jr, e1, beq_self_eq_true, db] at this
   exact this
end
section
open PySem PySem.W PyProof.Rows PySem.SeqAt PySem.Builtin
open MeetsSeq MeetsSeq2 MeetsSeq3
theorem HC (a b : List UInt8) : (Bytes.order a b == .lt) = Ey a b := by
 induction a generalizing b with
 | nil => cases b <;> rfl
 | cons x a ih => cases b with
  | nil => rfl
  | cons y b =>
   show ((if x < y then Ordering.lt else if y < x then .gt else Bytes.order a b) == .lt) = if (x == y) = true then Ey a b else decide (x < y)
   by_cases h1 : x < y
   ·rw [if_pos h1, if_neg λ e : (x == y) = true => ig y (be e ▸ h1), decide_eq_true h1]; rfl
   ·rw [if_neg h1]
    by_cases h2 : y < x
    ·rw [if_pos h2, if_neg λ e : (x == y) = true => ig y (be e ▸ h2), decide_eq_false h1]; rfl
    ·rw [if_neg h2, if_pos (beq_iff_eq.mpr (UInt8.le_antisymm (lr.mp h2) (lr.mp h1)))]
     exact ih b
theorem xS : Slot "bytes" (cmpInfo .Lt).2.1 "bytes.__lt__" :=
 .of (owner := "bytes") (n := "__lt__") (by rw [fj, dO]; kernel_rfl) (by decide +kernel) (by decide +kernel) (by decide +kernel)
  (by first | exact .inl (by decide +kernel) | exact .inr (by decide +kernel)) (by rw [fJ]; kernel_rfl)
theorem xd : entryFor table "bytes.__lt__" = some Builtin.«bytes.__lt__» := eQ (by kernel_rfl)
theorem vX (a b : Value) : argsOk "bytes.__lt__" ⟨[a, b], []⟩ := by
 unfold argsOk; rw [signature?_of (id := "bytes.__lt__") (n := ['_', '_', 't', 'l', '_', '_']) (o := ['s', 'e', 't', 'y', 'b']) (by kernel_rfl) FB.owner_bytes]; kernel_rfl
theorem xC (b c : Bs) (t u : Tok) : Gives («bytes.__lt__» ⟨[.bytes b.toArray t, .bytes c.toArray u], []⟩) (.val (.bool (Ey b c))) := by
 refine .of_wp λ M A E s Q hq => ?_
 show wpAny M A (isInstance (.bytes c.toArray u) (.type "bytes") >>= λ r => _) _ E s
 refine aa (eP (jW s c.toArray u) F.sub_bytes_bytes ?_)
 exact ai ⟨_, rfl, by rw [<- HC] at hq; exact hq⟩
noncomputable def Fx (A : Around) (s : Shared) (y x : Value) (b : Bool) : Prop :=
 ∀ (prog : Program) (w : World) (E : Value -> Shared -> Prop) (Q : Value -> Shared -> Prop), Q (.bool b) s -> wpAny (model prog w) A (richCompare .Lt y x) Q E s
theorem Fx.int {A : Around} {s : Shared} (a b : Int) (t u : Tok) : Fx A s (.int a t) (.int b u) (decide (a < b)) := λ prog w E Q h =>
 lG (typeIs_int s a t) (typeIs_int s b u) F.slot_int_lt F.entry_int_lt (F.args_int_lt_2 _ _) (gives_int_lt a b t u) (λ x => nomatch x) h
theorem Fx.bytes {A : Around} {s : Shared} (a b : Bs) (t u : Tok) : Fx A s (.bytes a.toArray t) (.bytes b.toArray u) (Ey a b) := λ prog w E Q h =>
 lG (jW s _ t) (jW s _ u) xS xd (vX _ _) (xC a b t u) (λ x => nomatch x) h
noncomputable def OG (a : Int) (x : Bs) (b : Int) (y : Bs) : Bool := if a == b then Ey x y else decide (a < b)
theorem xb : ∀ x : Bs, Ey x x = false
 | [] => rfl
 | a :: r => by
  show (if (a == a) = true then Ey r r else decide (a < a)) = false
  rw [if_pos (beq_self_eq_true a)]
  exact xb r
theorem Fb {prog : Program} {w : World} {A : Around} {s : Shared} {a b : Int} {t u : Tok} {E : Value -> Shared -> Prop} {Q : Value -> Shared -> Prop} (h : Q (.bool (decide (a < b))) s) : wpAny (model prog w) A (richCompare .Lt (.int a t) (.int b u)) Q E s := Fx.int a b t u prog w E Q h
theorem Bw {prog : Program} {w : World} {A : Around} {s : Shared} {a b : Bs} {t u : Tok} {E : Value -> Shared -> Prop} {Q : Value -> Shared -> Prop} (h : Q (.bool (Ey a b)) s) : wpAny (model prog w) A (richCompare .Lt (.bytes a.toArray t) (.bytes b.toArray u)) Q E s := Fx.bytes a b t u prog w E Q h
set_option maxHeartbeats 1000000 in
theorem yz (l b : Addr) (a1 : Int) (t1 : Tok) (x1 : Bs) (u1 : Tok) (a2 : Int) (t2 : Tok) (x2 : Bs) (u2 : Tok) (n n2 : Nat) :
  Meets (Builtin.«tuple.__lt__» ⟨[.ref l, .ref b], []⟩)
   (λ A R s => s.heap.get? l = some (tB [.int a1 t1, .bytes x1.toArray u1] n) /\ s.heap.get? b = some (tB [.int a2 t2, .bytes x2.toArray u2] n2) /\
    R (.ok (.ret (.bool (OG a1 x1 a2 x2)))) s) :=
 .of_wp λ prog w A R s h => by
  obtain ⟨hp, g, d, tk, os⟩ := s; obtain ⟨hl, hb, h⟩ := h
  have f2 := AutoSeq1.sub_tuple_tuple
  have e1 : (a1 == a2) = true -> EqAt A.in1 ⟨hp, g, d, tk, os⟩ (.int a1 t1) (.int a2 t2) true := λ e => by have := EqAt.int_int (A := A.in1) (s := ⟨hp, g, d, tk, os⟩) a1 t1 a2 t2; rwa [e] at this
  have e2 := EqAt.int_int (A := A.in1) (s := ⟨hp, g, d, tk, os⟩) a1 t1 a2 t2
  have e3 := EqAt.bytes (A := A.in1) (s := ⟨hp, g, d, tk, os⟩) (b := x1) (c := x2) (t := u1) (u := u2)
  wp_walk using ip hl, ip hb, wpAny_forIn_list _ (λ rest b s' => b.1 = none /\ s' = ⟨hp, g, d, tk, os⟩ /\
   ((rest = [(.int a1 t1, .int a2 t2), (.bytes x1.toArray u1, .bytes x2.toArray u2)]) \/ (rest = [(.bytes x1.toArray u1, .bytes x2.toArray u2)] /\ (a1 == a2) = true) \/ (rest = [] /\ (a1 == a2) = true /\ (x1 == x2) = true))) _
  case turn =>
   rintro ⟨y, x⟩ rest b s' ⟨hb', rfl, hr⟩
   rcases hr with hr | ⟨hr, ha⟩ | ⟨hr, ha⟩
   ·injection hr with hyx hrest
    injection hyx with hy hx
    subst hy hx hrest
    refine aa (e2 prog w _ _ ?_)
    cases ha : (a1 == a2) with
    | true => wp_walk; exact ⟨rfl, rfl, .inr (.inl ⟨rfl, by first | rfl | exact ha⟩)⟩
    | false =>
     rw [OG, ha] at h
     wp_walk using Fb
     exact ⟨_, rfl, h⟩
   ·injection hr with hyx hrest
    injection hyx with hy hx
    subst hy hx hrest
    refine aa (e3 prog w _ _ ?_)
    rw [OG, ha] at h
    cases hx : (x1 == x2) with
    | true => wp_walk; exact ⟨rfl, rfl, .inr (.inr ⟨rfl, ha, by first | rfl | exact hx⟩)⟩
    | false =>
     wp_walk using Bw
     exact ⟨_, rfl, h⟩
   ·cases hr
  case fin =>
   rintro ⟨b1, b2⟩ s' ⟨hb', rfl, hr⟩
   simp only at hb'
   subst hb'
   rcases hr with hr | ⟨hr, ha⟩ | ⟨hr, ha, hx⟩
   ·cases hr
   ·cases hr
   ·rw [OG, ha] at h
    rw [beq_iff_eq] at hx
    subst hx
    rw [xb] at h
    wp_walk
    exact ⟨_, rfl, by simpa [lX, bne] using h⟩
  case h =>
   exact ⟨rfl, rfl, .inl rfl⟩
end
section
variable {W : Wo} {G : Fz} {A : Around} {s : Shared} {a b : PV} {va vb : Value} {r : Bool}
noncomputable def Co (op : CmpOp) (a b : PV) (r : Bool) : Prop := ∀ (W : Wo) (A : Around) (G : Fz) (s : Shared) (va vb : Value), A.units + 16 < cLine -> G.sub s.heap -> VW W G s.heap a va -> VW W G s.heap b vb -> wpAny (Mo W) A (compareOp op va vb) (Gv G s (zC W (.bool r))) No s
theorem I7 (sub : G.sub s.heap) : Gv G s (zC W (.bool r)) (.bool r) s := Gv.pure sub (show VR W G (.bool r) (.bool r) from rfl)
theorem VW.atom {p : PV} {v : Value} {h : Heap} (x : VW W G h p v) (hc : DT p = false) : VR W G p v := x.elim id λ ⟨a, e, g, q⟩ => by
 cases p <;> first | exact q.elim | cases hc
theorem Co.ints {op : CmpOp} {a b : Int} (h : ∀ (W : Wo) (A : Around) (s : Shared) (t u : Tok) (Q : Value -> Shared -> Prop), Q (.bool r) s -> wpAny (Mo W) A (compareOp op (.int a t) (.int b u)) Q No s) : Co op (.int a) (.int b) r := λ W A G s va vb _ sub ha hb => by
 obtain ⟨t, rfl⟩ := ha.int
 obtain ⟨u, rfl⟩ := hb.int
 exact h W A s t u _ (I7 sub)
theorem AZ {a b : Int} : Co .Lt (.int a) (.int b) (decide (a < b)) := .ints λ _ _ _ _ _ _ h => PySem.P.lt_int h
theorem Of {a b : Int} : Co .LtE (.int a) (.int b) (decide (a <= b)) := .ints λ _ _ _ _ _ _ h => PySem.P.le_int h
theorem LL {a b : Int} : Co .Gt (.int a) (.int b) (decide (a > b)) := .ints λ _ _ _ _ _ _ h => PySem.P.gt_int h
theorem Lk {a b : Int} : Co .GtE (.int a) (.int b) (decide (a >= b)) := .ints λ _ _ _ _ _ _ h => PySem.P.ge_int h
theorem I1 (h : Eu a b r) (ha : VW W G s.heap a va) (hb : VW W G s.heap b vb) : RcAt A s va vb r /\ RcNeAt A s va vb (!r) := by
 cases h with
 | int => obtain ⟨t, rfl⟩ := ha.int; obtain ⟨u, rfl⟩ := hb.int; exact ⟨λ _ _ _ _ h => PySem.P.eq_int h, λ _ _ _ _ h => PySem.P.ne_int h⟩
 | bytes => obtain ⟨t, rfl⟩ := ha.bytes; obtain ⟨u, rfl⟩ := hb.bytes; exact ⟨λ _ _ _ _ h => PySem.W.eq_bytes (by simpa using h), λ _ _ _ _ h => PySem.W.ne_bytes (by simpa [bne] using h)⟩
 | bool => cases ha.bool; cases hb.bool; exact ⟨RcAt.bool_bool _ _, RcNeAt.bool_bool _ _⟩
 | none => cases ha.none; cases hb.none; exact ⟨RcAt.none_none, RcNeAt.none_none⟩
theorem oR (h : Eu a b r) : Co .Eq a b r := λ W A G s va vb _ sub ha hb => (I1 h ha hb).1 _ _ _ _ (I7 sub)
theorem CA (h : Eu a b r) : Co .NotEq a b (!r) := λ W A G s va vb _ sub ha hb => (I1 h ha hb).2 _ _ _ _ (I7 sub)
inductive MA : List PV -> List PV -> Bool -> Prop
 | same {x y b} (h : JA x y b) : MA x y b
 | len {x y} (h : x.length ≠ y.length) : MA x y false
theorem Dw {x y : List PV} (hu : A.units + 16 < cLine) (h : MA x y r) (sub : G.sub s.heap) (ha : VW W G s.heap (.list x) va) (hb : VW W G s.heap (.list y) vb) : RcAt A s va vb r /\ RcNeAt A s va vb (!r) := by
 obtain ⟨a, vx, nx, rfl, hx, rx, cx⟩ := ha.list sub
 obtain ⟨b, vy, ny, rfl, hy, ry, cy⟩ := hb.list sub
 cases h with
 | same h =>
  refine mL λ gk => ?_
  obtain ⟨hl, e1, e2⟩ := LG (A := A.in1) (s := s) h rx ry
  refine gk ?_
  have hsz : vx.toArray.size = vy.toArray.size := by rw [aG, aG, hl]
  have k1 := RcAt.lists (A := A) (mP hx) (mP hy) hsz (by omega) e2
  have k2 := RcNeAt.lists (A := A) (mP hx) (mP hy) hsz (by omega) e2
  rw [aG, e1] at k1 k2
  exact ⟨k1, k2⟩
 | len h =>
  have hsz : (vx.toArray.size != vy.toArray.size) = true := by
   rw [aG, aG, rx.length, ry.length]
   exact bne_iff_ne.mpr h
  exact ⟨RcAt.lists_lengths (mP hx) (mP hy) hsz (by omega), RcNeAt.lists_lengths (mP hx) (mP hy) hsz (by omega)⟩
theorem zq {x y : List PV} (h : MA x y r) : Co .Eq (.list x) (.list y) r := λ W A G s va vb hu sub ha hb => (Dw hu h sub ha hb).1 _ _ _ _ (I7 sub)
theorem B4 {x y : List PV} (h : MA x y r) : Co .NotEq (.list x) (.list y) (!r) := λ W A G s va vb hu sub ha hb => (Dw hu h sub ha hb).2 _ _ _ _ (I7 sub)
theorem Lm {x y : It} : Co .Lt (rn x) (rn y) (pF x y) := λ W A G s va vb hu sub ha hb => by
 refine mL λ gk => ?_
 obtain ⟨x', vx, nx, rfl, hx, ⟨v1, _, rfl, ⟨t1, rfl⟩, v2, _, rfl, ⟨t2, rfl⟩, e⟩, cx⟩ := ha.tuple sub
 cases (show _ = _ from e)
 obtain ⟨y', vy, ny, rfl, hy, ⟨v3, _, rfl, ⟨t3, rfl⟩, v4, _, rfl, ⟨t4, rfl⟩, e⟩, cy⟩ := hb.tuple sub
 cases (show _ = _ from e)
 refine gk ?_
 exact jX (op := .Lt) ⟨_, hx, rfl⟩ ⟨_, hy, rfl⟩ F.slot_tuple_lt F.entry_tuple_lt (F.args_tuple_lt_2 _ _) (yz x' y' _ _ _ _ _ _ _ _ nx ny)
  ⟨hx, hy, show jH _ ≠ jn /\ _ from ⟨(λ x => nomatch x), I7 sub⟩⟩ (by omega)
noncomputable def plain : PV -> Bool | .dict _ => false | .wl _ => false | .clo _ => false | .par _ => false | .stp _ => false | _ => true
theorem Do (h : plain a = true) (ha : VW W G s.heap a va) : (va == cS) = Ma a := by
 rcases ha with ha | ⟨c, rfl, g, q⟩
 ·cases a with
  | none => cases (show _ = _ from ha); rfl
  | bool b => cases (show _ = _ from ha); rfl
  | int i => obtain ⟨t, rfl⟩ := ha; rfl
  | bytes i => obtain ⟨t, rfl⟩ := ha; rfl
  | list l => obtain ⟨a, vs, n, rfl, _⟩ := ha; rfl
  | tuple l => obtain ⟨a, vs, n, rfl, _⟩ := ha; rfl
  | set l => obtain ⟨a, o, n, S, rfl, _⟩ := ha; rfl
  | _ => cases h
 ·cases a <;> first | rfl | exact q.elim
theorem AU (h : plain a = true) : Co .Is a .none (Ma a) := λ W A G s va vb _ sub ha hb => by
 refine mL λ gk => ?_
 cases hb.none
 refine gk ?_
 refine is_none_gen ?_
 rw [Do h ha]; exact I7 sub
theorem Al (h : plain a = true) : Co .IsNot a .none (!Ma a) := λ W A G s va vb _ sub ha hb => by
 refine mL λ gk => ?_
 cases hb.none
 refine gk ?_
 refine isnot_none_gen ?_
 rw [Do h ha]; exact I7 sub
theorem GQ {x : PV} {vx : Value} (hu : A.units + 8 < cLine) (sub : G.sub s.heap) (hx : VR W G x vx) {ys : List PV} (h : Bm x ys r) : ∀ {vs : List Value}, nG W G ys vs -> vs.any (λ y => MC s.heap y vx) = r /\ ∀ y, y ∈ vs -> EqAt A s y vx (MC s.heap y vx) := by
 induction h with
 | nil => intro vs hv; cases (show _ = _ from hv); exact ⟨rfl, λ y hy => by cases hy⟩
 | cons h t ih =>
  intro vs hv
  obtain ⟨v, vs, rfl, hv, hr⟩ := hv
  obtain ⟨p1, p2⟩ := ih hr
  have key := F9 hu h sub hv hx
  refine ⟨by rw [dG, key.2, p1], λ y hy => ?_⟩
  rcases ag.mp hy with rfl | hy
  ·rw [key.2]; exact key.1
  ·exact p2 y hy
theorem LK {x : PV} {ys : List PV} (hc : DT x = false) (h : Bm x ys r) (hu : A.units + 16 < cLine) (sub : G.sub s.heap) (ha : VW W G s.heap x va) (hb : VW W G s.heap (.list ys) vb) :
  ∃ l vy, vb = .ref l /\ s.heap.IsList l vy /\ (∀ y, y ∈ vy -> EqAt A.in1 s y va (MC s.heap y va)) /\ vy.any (λ y => MC s.heap y va) = r := by
 refine mL λ gk => ?_
 obtain ⟨l, vy, ny, e, hy, ry, cy⟩ := hb.list sub
 obtain ⟨q1, q2⟩ := GQ (A := A.in1) (s := s) (by show A.units + 1 + 8 < cLine; omega) sub (ha.atom hc) h ry
 refine gk ?_
 exact ⟨l, vy.toArray, e, mP hy, λ y hy => q2 y (by simpa using hy), by rw [<- q1]; simp⟩
theorem LH {x : PV} {ys : List PV} (hc : DT x = false) (h : Bm x ys r) : Co .In x (.list ys) r := λ W A G s va vb hu sub ha hb => by
 refine mL λ gk => ?_
 obtain ⟨l, vy, rfl, hl, h1, h2⟩ := LK hc h hu sub ha hb
 refine gk ?_
 refine in_listAt (λ y => MC s.heap y va) hl h1 ?_
 rw [h2]; exact I7 sub
theorem CK {x : PV} {ys : List PV} (hc : DT x = false) (h : Bm x ys r) : Co .NotIn x (.list ys) (!r) := λ W A G s va vb hu sub ha hb => by
 refine mL λ gk => ?_
 obtain ⟨l, vy, rfl, hl, h1, h2⟩ := LK hc h hu sub ha hb
 refine gk ?_
 refine notIn_listAt (λ y => MC s.heap y va) hl h1 ?_
 rw [h2]; exact I7 sub
end
noncomputable def xV {α : Type} (l : List α) (lo hi : Option Nat) : List α := (match hi with | some b => l.take b | none => l).drop (lo.getD 0)
theorem HR {α : Type} {l : List α} {a n : Nat} (h : l.length <= n) : l.drop (min a n) = l.drop a := by
 by_cases ha : a <= n
 ·rw [Nat.min_eq_left ha]
 ·have ha := Nat.le_of_not_le ha
  rw [Nat.min_eq_right ha, fX h, fX (ac h ha)]
theorem Ap (vs : List Value) (a b : Nat) : (vs.drop (min a vs.length)).take (min b vs.length - min a vs.length) = (vs.take b).drop a := by
 rw [<- List.drop_take, <- List.take_eq_take_min, HR (dj _ _)]
theorem xU (vs : List Value) (lo hi : Option Nat) : slicePick vs.toArray (lo.map λ (a : Nat) => (a : Int)) (hi.map λ (a : Nat) => (a : Int)) none = (xV vs lo hi).toArray := by
 have no : ∀ a : Nat, ¬ (a : Int) < 0 := λ a => dE.mpr (bC a)
 have hl : kms_lo (lo.map λ (a : Nat) => (a : Int)) vs.length = min (lo.getD 0) vs.length := by
  cases lo with
  | none => exact (Nat.zero_min _).symm
  | some a => exact if_neg (t := vs.length - (-(a : Int)).toNat) (no a)
 rw [kms_pick_eq]
 refine congrArg eV ?_
 show (vs.drop (kms_lo _ vs.length)).take (kms_hi _ vs.length - kms_lo _ vs.length) = _
 rw [hl]
 cases hi with
 | some b => exact (congrArg (λ i => (vs.drop (min (lo.getD 0) vs.length)).take (i - min (lo.getD 0) vs.length)) (if_neg (t := vs.length - (-(b : Int)).toNat) (no b))).trans (Ap vs _ b)
 | none =>
  have := Ap vs (lo.getD 0) vs.length
  rw [jr, ko] at this
  exact this
section
variable {W : Wo} {G : Fz} {A : Around} {s : Shared} {k : Nat}
theorem nG.cut {ps : List PV} {vs : List Value} (h : nG W G ps vs) (lo hi : Option Nat) : nG W G (xV ps lo hi) (xV vs lo hi) := by
 unfold xV
 cases hi with
 | some b => exact (h.take b).drop _
 | none => exact h.drop _
theorem tw : ∀ {kvs : List (Bs × PV)} {us : List (Bs × Value)}, us.map (·.1) = kvs.map (·.1) -> nG W G (kvs.map (·.2)) (us.map (·.2)) -> ∀ k,
  match kvs.lookup k with | some p => ∃ v, us.lookup k = some v /\ VR W G p v | none => us.lookup k = none := by
 intro l_
 induction l_ with
 | nil =>
  rintro us e h k
  cases us with
  | nil => rfl
  | cons u us => simp at e
 | cons p_ kvs ih =>
  obtain ⟨a, p⟩ := p_
  rintro us e h k
  cases us with
  | nil => simp at e
  | cons u us =>
   obtain ⟨b, v⟩ := u
   simp only [bE, jA] at e
   obtain ⟨rfl, e⟩ := e
   obtain ⟨v', vs', ev, hp, hr⟩ := h
   simp only [bE, jA] at ev
   obtain ⟨rfl, rfl⟩ := ev
   simp only [au]
   cases hk : (k == b) with
   | true => exact ⟨_, rfl, hp⟩
   | false => exact ih e hr k
theorem xz {l : List Value} (hc : l.length <= cap) {k : Int} (h0 : 0 <= k) {x : Value} (hx : l[k.toNat]? = some x) : k < 2 ^ 63 := by
 have h1 : k.toNat < l.length := by
  rcases lU k.toNat l.length with h | h
  ·exact h
  ·rw [bn h] at hx; cases hx
 have hcap : cap = 1048576 := rfl
 lia
theorem oO {us : List (Bs × Value)} (k : Bs) : valueAt us k = us.lookup k := by
 unfold valueAt
 induction us with
 | nil => rfl
 | cons u us ih =>
  obtain ⟨b, v⟩ := u
  simp only [List.find?_cons, au]
  by_cases e : b = k
  ·subst e; simp
  ·have e' : (k == b) = false := by rw [beq_eq_false_iff_ne]; exact λ h => e h.symm
   simp only [e, decide_false, e']
   exact ih
noncomputable def Sb (a b r : PV) : Prop := ∀ (W : Wo) (A : Around) (G : Fz) (s : Shared) (va vb : Value), G.sub s.heap -> VW W G s.heap a va -> VW W G s.heap b vb ->
 (∃ T id, s.TypeIs va T /\ typeLookup (.type T) "__getitem__" = pure (some (.builtin id))) /\ wpAny (Mo W) A (getItem va vb) (Gv G s (zC W r)) No s
theorem zg {l : List PV} {k : Int} {v : PV} (h0 : 0 <= k) (h : l[k.toNat]? = some v) : Sb (.list l) (.int k) v := λ W A G s va vb sub ha hb => by
 obtain ⟨x, vx, nx, rfl, hx, rx, cx⟩ := ha.list sub
 obtain ⟨t, rfl⟩ := hb.int
 obtain ⟨v, hv, hr⟩ := rx.get h
 exact ⟨⟨_, _, (mP hx).typeIs, kX⟩, wpAny_getItem_list (mP hx) h0 (xz cx h0 hv) (by rw [aY]; exact hv) (Gv.pure sub hr)⟩
theorem Ay {l : List PV} {k : Nat} {v : PV} (h : l[k]? = some v) : Sb (.tuple l) (.int k) v := λ W A G s va vb sub ha hb => by
 obtain ⟨x, vx, nx, rfl, hx, rx, cx⟩ := ha.tuple sub
 obtain ⟨t, rfl⟩ := hb.int
 obtain ⟨v, hv, hr⟩ := rx.get h
 have hT : l9 s.heap x vx.toArray := ⟨_, hx, rfl, nx, rfl⟩
 have hlt : k < vx.length := (bH.mp hv).1
 refine ⟨⟨_, _, hT.typeIs, F.slot_tuple_getitem.lookup⟩, l6 hT (by lia) (xz cx (bC k) (by exact hv)) (j := k) ?_ (by rw [aY]; exact hv) (Gv.pure sub hr)⟩
 have h1 : ¬ (k : Int) < 0 := by lia
 simp [seqIndex?, h1, hlt]
theorem ze {l : List (Bs × PV)} {k : Bs} {v : PV} (h : l.lookup k = some v) : Sb (.dict l) (.bytes k) v := λ W A G s va vb sub ha hb => by
 obtain ⟨t, rfl⟩ := hb.bytes
 obtain ha | ⟨d, rfl, g, us, hd, hk, hr, hc⟩ := ha
 ·exact ha.elim
 ·have := tw hk hr k
  rw [h] at this
  refine mL λ gk => ?_
  obtain ⟨v, hv, hp⟩ := this
  refine gk ?_
  exact ⟨⟨_, _, hd.typeIs, lF.lookup⟩, lN (knd := bK W) (k := k) (show isBytes k (.bytes k.toArray t) = true by simp [isBytes]) hd.mapOf (by rw [oO]; exact hv) (Gv.tok _ sub hp)⟩
theorem y5 {value slice : Expr} {a b r : PV} {va vb : Value} (h : Sb a b r) (hs : ∀ va vb, subscripted slice false va vb = operate [va, vb] (getItem va vb)) (sub : G.sub s.heap) (ha : VW W G s.heap a va) (hb : VW W G s.heap b vb) :
  wpAny (Mo W) A (do let r <- subscripted slice (<- getitemInPython va) va vb; letTemporaryGo value va r; pure r) (Gv G s (zC W r)) No s := by
 refine mL λ gk => ?_
 obtain ⟨⟨T, id, hT, hl⟩, hg⟩ := h W A G s va vb sub ha hb
 refine gk ?_
 refine aa ?_
 rw [kj hT.not_modules]
 have fin : wpAny (Mo W) A (subscripted slice false va vb) (λ r' s₃ => wpAny (Mo W) A (letTemporaryGo value va r' >>= λ _ => pure r') (Gv G s (zC W r)) No s₃) No s := by
  rw [hs]
  exact fh (oX hg λ r s₃ h₃ => aa (kJ (ai h₃)))
 refine aa (fe hT hl ?_)
 first
  | exact ai (aa fin)
  | exact aa (ai (aa fin))
  | exact aa fin
end
noncomputable def E2 (a : Int) : List Int -> List Int
 | [] => [a]
 | b :: r => if a <= b then a :: b :: r else b :: E2 a r
noncomputable def AJ : List Int -> List Int
 | [] => []
 | a :: r => E2 a (AJ r)
noncomputable def Cv : Int -> List Int -> Int
 | m, [] => m
 | m, a :: r => Cv (if a > m then a else m) r
section
variable {W : Wo} {G G' : Fz} {A : Around} {s : Shared} {k : Nat}
theorem At {vs : List Value} {is : List Int} (h : IntsAre vs is) : nG W G (is.map .int) vs := by
 induction h with
 | nil => rfl
 | cons i t r ih => exact ⟨_, _, rfl, ⟨t, rfl⟩, ih⟩
theorem wj {vs : List Value} {ns : List Int} (h : IntsAre vs ns) : ∀ (i : Nat) (v : Value), vs[i]? = some v -> ∃ t, v = .int (ns.getD i 0) t := by
 induction h with
 | nil => exact λ i v h => nomatch (List.getElem?_nil (i := i)).symm.trans h
 | cons n t hr ih =>
  intro i v h
  cases i with
  | zero => exact ⟨t, (bN h).symm⟩
  | succ i => exact ih i v h
theorem AN (ns : List Int) : ∀ n, n <= ns.length -> preSum (λ i => ns.getD i 0) n = (ns.take n).sum := by
 intro l_
 induction l_ with
 | zero =>
  rintro _
  simp [preSum]
 | succ n ih =>
  rintro h
  have e : ns.take (n + 1) = ns.take n ++ [ns.getD n 0] := by
   rw [gW]
   congr 1
   simp [ku, aF (show n < ns.length by omega)]
  rw [preSum, ih (by omega), e, kO]
  simp
theorem AX (ns : List Int) : preSum (λ i => ns.getD i 0) ns.length = ns.sum := by
 rw [AN ns _ (aQ _), ko]
theorem F0 (ns : List Int) : ∀ (n : Nat), n < ns.length -> argBest (λ i j => decide (ns.getD i 0 > ns.getD j 0)) n < ns.length /\ ns.getD (argBest (λ i j => decide (ns.getD i 0 > ns.getD j 0)) n) 0 = Cv (ns.getD 0 0) ((ns.drop 1).take n) := by
 intro l_
 induction l_ with
 | zero =>
  rintro h
  exact ⟨h, rfl⟩
 | succ n ih =>
  rintro h
  obtain ⟨h1, h2⟩ := ih (by omega)
  have snoc : ∀ (m : Int) (l : List Int) (a : Int), Cv m (l ++ [a]) = if a > Cv m l then a else Cv m l := by
   intro m l
   induction l generalizing m with
   | nil => intro a; rfl
   | cons b l ih => intro a; exact ih _ a
  have e : (ns.drop 1).take (n + 1) = (ns.drop 1).take n ++ [ns.getD (n + 1) 0] := by
   rw [gW]
   congr 1
   rw [gR, ce 1 n]
   simp [ku, aF h]
  rw [e, snoc, <- h2]
  simp only [argBest]
  by_cases hb : ns.getD (n + 1) 0 > ns.getD (argBest (λ i j => decide (ns.getD i 0 > ns.getD j 0)) n) 0
  ·simp only [hb, decide_true, if_true]; exact ⟨h, trivial⟩
  ·simp only [hb, decide_false, bB, if_false]; exact ⟨h1, trivial⟩
theorem vC (a : Int) : ∀ l, (E2 a l).Perm (a :: l)
 | [] => .refl _
 | b :: r => by
  show mw (if a <= b then a :: b :: r else b :: E2 a r) _
  split
  ·exact .refl _
  ·exact ((vC a r).cons b).trans (.swap a b r)
theorem Br (a : Int) : ∀ l : List Int, l.Pairwise (· <= ·) -> (E2 a l).Pairwise (· <= ·) := by
 intro l_
 induction l_ with
 | nil =>
  rintro _
  exact bR _ _
 | cons b r ih =>
  rintro h
  show List.Pairwise _ (if a <= b then a :: b :: r else b :: E2 a r)
  rw [bg] at h
  split
  ·rename_i hab
   rw [bg]
   refine ⟨λ x hx => ?_, bg.mpr h⟩
   rcases ag.mp hx with rfl | hx
   ·exact hab
   ·exact ew hab (h.1 x hx)
  ·rename_i hab
   rw [bg]
   refine ⟨λ x hx => ?_, ih h.2⟩
   rcases ag.mp ((vC a r).mem_iff.mp hx) with rfl | hx
   ·omega
   ·exact h.1 x hx
theorem qO : ∀ l, (AJ l).Perm l
 | [] => .refl _
 | a :: r => (vC a _).trans ((qO r).cons a)
theorem qv : ∀ l, (AJ l).Pairwise (· <= ·)
 | [] => .nil
 | a :: r => Br a _ (qv r)
theorem vU : ∀ {a b : List Int}, a.Perm b -> a.Pairwise (· <= ·) -> b.Pairwise (· <= ·) -> a = b := by
 intro a
 induction a with
 | nil => intro b p _ _; exact (List.nil_perm.mp p).symm
 | cons x a ih =>
  intro b p ha hb
  cases b with
  | nil => exact absurd p.symm.nil_eq (by simp)
  | cons y b =>
   rw [bg] at ha hb
   have hxy : x = y := by
    have h1 : x ∈ y :: b := p.mem_iff.mp (.head _)
    have h2 : y ∈ x :: a := p.mem_iff.mpr (.head _)
    rcases ag.mp h1 with h1 | h1
    ·exact h1
    ·rcases ag.mp h2 with h2 | h2
     ·exact h2.symm
     ·exact dX (ha.1 y h2) (hb.1 x h1)
   subst hxy
   rw [ih (kZ x |>.mp p) ha.2 hb.2]
theorem qw {h : Heap} {a : Addr} {o : Obj} (e : h.get? a = some o) : a ≠ h.objs.size := aE (aR e)
theorem pn (h : Heap) (i : Nat) (hi : h.objs.size <= i) : h.get? i = none := dM hi
theorem nZ {h' : Heap} {t : Nat} (sub : G.sub s.heap) (k : ∀ b o, s.heap.get? b = some o -> h'.get? b = some o) : Go G s G { s with heap := h', toks := t } :=
 ⟨⟨_, _, rfl, k⟩, Fz.le.rfl, λ a o e => k a o (sub a o e), λ _ _ _ => rfl⟩
theorem zS {h' : Heap} {o : Obj} {a : Addr} {t : Nat} (sub : G.sub s.heap) (hn : s.heap.get? a = none) (k : ∀ b o, s.heap.get? b = some o -> h'.get? b = some o) (e : h'.get? a = some o) : Go G s (G.add a o) { s with heap := h', toks := t } :=
 ⟨⟨_, _, rfl, k⟩, IH sub hn k e⟩
theorem uC : ∀ {is : List Int} {vs : List Value}, nG W G (is.map .int) vs -> IntsAre vs is
 | [], _, h => by cases (show _ = _ from h); exact .nil
 | i :: is, _, ⟨_, _, e, ⟨t, e2⟩, r⟩ => by subst e e2; exact .cons i t (uC r)
noncomputable def Hz (W : Wo) (G : Fz) (h : Heap) : List PV -> List Value -> Prop
 | [], vs => vs = []
 | p :: ps, vs => LN (VW W G h p) (Hz W G h ps) vs
theorem Hz.one {h : Heap} {p : PV} {us : List Value} (x : Hz W G h [p] us) : ∃ u, us = [u] /\ VW W G h p u := by
 obtain ⟨u, _, rfl, h, e⟩ := x
 cases (show _ = _ from e)
 exact ⟨u, rfl, h⟩
noncomputable def Bi (f : Value) (ps : List PV) (r : PV) : Prop := ∀ (W : Wo) (A : Around) (G : Fz) (s : Shared) (us : List Value), A.handled = none -> G.sub s.heap -> Hz W G s.heap ps us -> wpAny (Mo W) A (call f us) (Gv G s (zC W r)) No s
theorem Bi.list {f : Value} {l : List PV} {r : PV} (h : ∀ (W : Wo) (A : Around) (G : Fz) (s : Shared) (a : Addr) (vs : List Value) (n : Nat), A.handled = none -> G.sub s.heap -> s.heap.get? a = some (lObj vs n) -> nG W G l vs -> vs.length <= cap -> wpAny (Mo W) A (call f [.ref a]) (Gv G s (zC W r)) No s) : Bi f [.list l] r := λ W A G s us hh sub hv => by
 obtain ⟨u, rfl, hu⟩ := hv.one
 obtain ⟨a, vs, n, rfl, ho, hr, hc⟩ := hu.list sub
 exact h W A G s a vs n hh sub ho hr hc
theorem NQ {n : Nat} (h : n <= cap) : (n : Int) < 2 ^ 63 := gT (eh.mpr h) (by decide)
theorem M0 {l : List PV} : Bi (.builtin "len") [.list l] (.int l.length) := .list λ W A G s a vs n hh sub ho hr hc =>
 Calls.call_len_list (mP ho) (by rw [aG]; exact NQ hc) (by rw [aG, hr.length]; exact Gv.tok _ sub ⟨_, rfl⟩)
theorem Dq {a I : Addr} {o : Obj} (ho : s.heap.get? a = some o) (hI : I = s.heap.objs.size) : ∀ b ∈ [I, a], b < s.heap.objs.size + 1 := λ b hb => by
 subst hI
 rcases ag.mp hb with rfl | hb
 ·exact de _
 ·cases ae.mp hb
  exact aL (aR ho)
theorem He {is : List Int} : Bi (.builtin "sum") [.list (is.map .int)] (.int is.sum) := .list λ W A G s a vl n hh sub ho hr hc => by
 have hI := uC hr
 refine call_sum_walkG (eF (mP ho) ⟨_, _, _, _, _, _, λ i => is.getD i 0, rfl, jG (A := A.in1) (show A.in1.handled = none from hh) _ a (qw ho) vl.toArray, ⟨⟨_, aJ _ rfl, rfl, rfl⟩, (mP ho).push _⟩, ?_, ?_, ?_⟩)
 ·rw [du]; exact Dq ho rfl
 ·intro i v hv
  rw [aY] at hv
  exact wj hI i v hv
 ·intro h' tk t' k
  refine Go.gv (nZ sub λ b o e => k b o (λ h => ?_) (aj _ e)) ⟨t', ?_⟩
  ·cases ae.mp h; exact qw e rfl
  ·rw [aG, <- AX is, hI.length]
theorem Il {m : Int} {is : List Int} : Bi (.builtin "max") [.list (.int m :: is.map .int)] (.int (Cv m is)) := .list λ W A G s a vl n hh sub ho hr hc => by
 have hI : IntsAre vl (m :: is) := uC hr
 have hlen := hI.length
 refine call_max_walk (eF (mP ho) ⟨_, _, _, _, _, _, λ i j => decide ((m :: is).getD i 0 > (m :: is).getD j 0), rfl, jG (A := A.in1) (show A.in1.handled = none from hh) _ a (qw ho) vl.toArray, ⟨⟨_, aJ _ rfl, rfl, rfl⟩, (mP ho).push _⟩, ?_, ?_, ?_, ?_⟩)
 ·rw [du]; exact Dq ho rfl
 ·rw [aG, hlen]; exact b9 _
 ·intro i j vi vj s' Q' E' hi hj hq
  rw [aY] at hi hj
  obtain ⟨t1, rfl⟩ := wj hI i vi hi
  obtain ⟨t2, rfl⟩ := wj hI j vj hj
  exact PySem.P.gt_int hq
 ·intro v h' tk hP k
  rw [aY] at hP
  obtain ⟨t, rfl⟩ := wj hI _ v hP
  refine Go.gv (nZ sub λ b o e => k b o (λ h => ?_) (aj _ e)) ⟨t, ?_⟩
  ·cases ae.mp h; exact qw e rfl
  ·rw [aG, hlen]
   have := (F0 (m :: is) is.length (de _)).2
   rw [cu, fu, this]
   simp
theorem F3 {is : List Int} (h64 : is.length < 64) : Bi (.builtin "sorted") [.list (is.map .int)] (.list ((AJ is).map .int)) := .list λ W A G s a vl n hh sub ho hr hc => by
 have hI := uC hr
 refine sorted_ints (mP ho) hI (by rw [<- hI.length] at h64; exact h64) λ out ns' a1 a2 a3 => ?_
 cases vU (a2.trans (qO is).symm) a3 (qv is)
 obtain ⟨e, he⟩ := sortedAll_at s.heap vl out
 have ho' : (sortedAll s.heap vl out).get? (s.heap.objs.size + 1) = some (lObj out.toList e) := by simpa using he
 exact Go.gv (zS sub (pn _ _ (dv _)) (λ b o => sortedAll_old) ho') ⟨_, out.toList, e, rfl, Fz.add_self, At a1, by rw [a1.length, (qO is).length_eq, <- hI.length]; exact hc⟩
theorem Iv {is : List Int} (hb : ∀ i ∈ is, 0 <= i /\ i < 256) : Bi (.type "bytes") [.list (is.map .int)] (.bytes (is.map λ i => dh i.toNat)) := .list λ W A G s a vl n hh sub ho hr hc =>
 PySem.call_bytes_ints (mP ho) (uC hr) hb (ac hc tE) hh λ h' t k' hk => Go.gv (nZ sub hk) ⟨t, rfl⟩
theorem D7 {l : List PV} : Bi (.type "list") [.list l] (.list l) := .list λ W A G s a vl n hh sub ho hr hc =>
 call_list_seq a (.inl rfl) ho rfl rfl (λ h' c' hk hg => Go.gv (zS (t := s.toks) sub (pn _ _ (aQ _)) hk hg) ⟨_, vl, c', rfl, Fz.add_self, hr.mono (zS (t := s.toks) sub (pn _ _ (aQ _)) hk hg).u.le, hc⟩) (tI hc)
theorem Mz {a : Int} : Bi (.builtin "abs") [.int a] (.int (if a < 0 then -a else a)) := λ W A G s us hh sub hv => by
 obtain ⟨u, rfl, hu⟩ := hv.one
 obtain ⟨t, rfl⟩ := hu.int
 exact call_abs_int λ u tk => Go.gv (nZ sub λ _ _ e => e) ⟨u, rfl⟩
end
section
variable {W : Wo} {A : Around} {R : Result -> Shared -> Prop} {I : Addr} {fp wr : List Addr} {n : Nat} {P : Nat -> Value -> Prop} {St : Nat -> Heap -> Prop}
noncomputable def zn (W : Wo) (h : Heap) (S : Addr) (i : Nat) : Prop := ∃ f m, h.SetOf (bK W) S f m /\ m <= i /\ ((m == 0) = (i == 0))
theorem zn.at {h h' : Heap} {S : Addr} {i : Nat} (x : zn W h S i) (k : ∀ o, h.get? S = some o -> h'.get? S = some o) : zn W h' S i := by
 obtain ⟨f, m, ⟨o, es, ep, t, ho, r⟩, hm⟩ := x
 exact ⟨f, m, ⟨o, es, ep, t, k o ho, r⟩, hm⟩
theorem H2 (X : Walks PySem.Challenge.pw_ai0008_01 W.w A.in1 I fp wr n P St) (S : Addr) (hSf : S ∉ fp) (hval : ∀ i v, P i v -> ∃ (b : Bs) (t : Tok), v = .bytes b.toArray t) (hb : n + 1 < scanBound) :
  ∀ (k i : Nat) (s : Shared), n - i = k -> i <= n -> St i s.heap -> zn W s.heap S i ->
   (∀ h' tk, (∀ b o, b ∉ S :: wr -> s.heap.get? b = some o -> h'.get? b = some o) -> zn W h' S n -> R (.ok (.ret .none)) { s with heap := h', toks := tk }) ->
   codeAny (Mo W) A (.builtin "set.update.loop" ⟨[.ref S, .ref I], []⟩) R s := by
 have hSw : S ∉ wr := λ h => hSf (X.sub _ h)
 intro k
 induction k with
 | zero =>
  intro i s hk hi hst hS hR
  have hin : i = n := dF hi (Nat.le_of_sub_eq_zero hk)
  subst hin
  refine dJ F.entry_set_update_loop ?_
  rw [dI F.plain_set_update_loop _]
  show wpAny _ A.in1 (pyNext (.ref I) >>= _) _ _ s
  refine aa (X.done s _ _ hst λ h' tk hm => ?_)
  show wpAny _ A.in1 (ret cS) _ _ _
  exact ai (hR h' tk (λ b o hb e => hm b o (λ x => hb (.tail _ x)) e) (hS.at λ o e => hm S o hSw e))
 | succ k ih =>
  intro i s hk hi hst hS hR
  have hlt : i < n := Nat.lt_of_sub_pos (hk ▸ b9 k)
  refine dJ F.entry_set_update_loop ?_
  rw [dI F.plain_set_update_loop _]
  show wpAny _ A.in1 (pyNext (.ref I) >>= _) _ _ s
  refine aa (X.item i s _ _ hlt hst λ v h₁ tk₁ hP hst' hm => ?_)
  refine mL λ gk => ?_
  obtain ⟨b, t, rfl⟩ := hval i v hP
  have hS' : zn W h₁ S i := hS.at λ o e => hm S o hSw e
  obtain ⟨f, m, hS', hmi, hm0⟩ := hS'
  refine gk ?_
  show wpAny _ A.in1 (holding [c5 b.toArray t] (setAdd S (.bytes b.toArray t)) >>= _) _ _ _
  refine aa (aO ?_)
  delta setAdd
  refine aO ?_
  have hkey : (bK W).is b (.bytes b.toArray t) = true := show isBytes b (.bytes b.toArray t) = true by simp [isBytes]
  refine aa ((bK W).pyHash (k := b) hkey ?_)
  have hroom : m + 1 < scanBound := ar (fE (ar hmi hlt)) (fF hb)
  refine wpAny_setAddHashed_of (knd := bK W) (s := { s with heap := h₁, toks := tk₁ + 1 }) hkey rfl hS' hroom λ h' hsb hS2 => ?_
  have hSi : zn W h' S (i + 1) := ⟨_, _, hS2, by split; exact ia hmi; exact bX hmi, by
   have e : (i + 1 == 0) = false := by simp
   rw [e]
   split
   ·rename_i hf
    have hm1 : m ≠ 0 := by
     intro hm1
     subst hm1
     refine mL λ gk => ?_
     obtain ⟨o, es, ep, tb, ho, hex, hd, hel, hiff, hsz, hfit⟩ := hS'
     obtain ⟨e, he, _⟩ := (hiff b).mp hf
     refine gk ?_
     have : es = #[] := Array.eq_empty_of_size_eq_zero hfit.2
     subst this
     simp at he
    simpa using hm1
   ·simp⟩
  refine ai ⟨eT F.plain_set_update_loop _, ih (i + 1) _ ((Nat.sub_succ n i).trans (congrArg Nat.pred hk)) hlt (X.frame _ _ _ hst' λ b hb o e => ?_) hSi λ h'' tk'' hm'' hS'' => ?_⟩
  ·rw [hsb.2 b (λ h : b = S => hSf (by rw [<- h]; exact hb))]; exact e
  ·refine hR h'' tk'' (λ b o hb e => hm'' b o hb ?_) hS''
   rw [hsb.2 b (λ h : b = S => hb (by rw [h]; exact List.mem_cons_self))]
   exact hm b o (λ x => hb (.tail _ x)) e
end
section
variable {W : Wo} {A : Around} {E : Value -> Shared -> Prop} {s : Shared}
set_option maxRecDepth 100000 in
set_option maxHeartbeats 3200000 in
theorem xf {l : Addr} {items : Array Value} {Q : Value -> Shared -> Prop}
  (hh : A.handled = none) (hl : s.heap.IsList l items) (hi : ∀ (i : Nat) (v : Value), items[i]? = some v -> ∃ (b : Bs) (t : Tok), v = .bytes b.toArray t) (hb : items.size + 1 < scanBound)
  (h : ∀ (h' : Heap) (tk : Nat), zn W h' s.heap.objs.size items.size ->
   (∀ b o, b < s.heap.objs.size -> s.heap.get? b = some o -> h'.get? b = some o) -> Q (.ref s.heap.objs.size) { s with heap := h', toks := tk }) :
  wpAny (Mo W) A (call (.type "set") [.ref l]) Q E s := by
 refine mL λ gk => ?_
 obtain ⟨c, tl, hmro⟩ := F.called_set.mro
 refine gk ?_
 have hmade := F.called_set.made
 have hsub := F.called_set.sub
 refine fG (fm ?_)
 show wpAny _ _ (callAny (.type "set") _) _ _ _
 refine ai ⟨Code.quiet_builtin _ (by decide +kernel), dJ F.entry_type_call ?_⟩
 rw [Around.under_plain (weight_type_call_type "set" [.ref l] []) rfl]
 have h1 := F.called_set.notType
 have h2 := F.called_set.canCreate
 have hct := F.typeCall_set_1 (.ref l)
 repeat (any_goals (first | assumption | wp_step))
 refine iu (code_set_new_1 (.ref l) (E := E) (Q₁ := λ obj s₁ => ∃ led : Bool, obj = .ref s.heap.objs.size /\ s₁ = { s with heap := s.heap.push { cls := .type "set", dict := none, data := .set #[] 0 (.fresh 0 0 led) } }) λ led => ⟨led, rfl, rfl⟩) λ r s₁ hr => ?_
 cases r with
 | error e => exact hr
 | ok fl =>
  cases fl with
  | ret obj =>
   refine mL λ gk => ?_
   obtain ⟨led, rfl, rfl⟩ := hr
   refine gk ?_
   have hS : (s.heap.push { cls := .type "set", dict := none, data := .set #[] 0 (.fresh 0 0 led) }).get? s.heap.objs.size = some { cls := .type "set", dict := none, data := .set #[] 0 (.fresh 0 0 led) } := aJ _ rfl
   have hT : kK { s with heap := s.heap.push { cls := .type "set", dict := none, data := .set #[] 0 (.fresh 0 0 led) } } (.ref s.heap.objs.size) "set" := ⟨_, hS, rfl⟩
   have hli := F.called_set.init.lookup
   have hbi := F.called_set.init.bind (.ref s.heap.objs.size)
   repeat (any_goals (first | assumption | wp_step))
   refine iu (codeAny_call_builtin (R := wants (λ r s₂ => r = .none /\ ∃ h' tk, s₂ = { s with heap := h', toks := tk } /\
     zn W h' s.heap.objs.size items.size /\
     (∀ b o, b < s.heap.objs.size -> s.heap.get? b = some o -> h'.get? b = some o)) E) F.called_set.init.plain F.entry_set_init (check_set_init_1 hT ?_)) λ r₂ s₂ hr₂ => ?_
   ·refine mL λ gk => ?_
    obtain ⟨ol, hol, hcl, nl, hdl⟩ := hl
    obtain ⟨ocls, odict, odata, oslots⟩ := ol
    refine gk ?_
    simp only at hcl hdl
    subst hcl; subst hdl
    have hol' : (s.heap.push { cls := .type "set", dict := none, data := .set #[] 0 (.fresh 0 0 led) }).get? l = some { cls := .type "list", dict := odict, data := .seq items nl, slots := oslots } := aj _ hol
    have hsls := F.sub_list_set
    have hslf := F.sub_list_frozenset
    have hne : (lS "list" == lS "dict") = false := by decide
    have hl1 : (s.heap.push { cls := .type "set", dict := none, data := .set #[] 0 (.fresh 0 0 led) }).IsList l items := ⟨_, hol', rfl, nl, rfl⟩
    delta Builtin.«set.__init__» noKeywords kT
    generalize hPI : pyIter = PI
    wp_walk
    subst hPI
    refine eF hl1 ?_
    refine aa (jk ?_)
    have hlS : l < s.heap.objs.size := aR hol
    have hh3 : A.in1.in1.in1.handled = none := by simp [hh]
    have hneI : l ≠ (s.heap.push { cls := .type "set", dict := none, data := .set #[] 0 (.fresh 0 0 led) }).objs.size := by
     rw [du]; exact aE (aL hlS)
    have hSf : s.heap.objs.size ∉ [(s.heap.push { cls := .type "set", dict := none, data := .set #[] 0 (.fresh 0 0 led) }).objs.size, l] := by
     rw [du]; simp only [ag, ae, a9, or_false, not_or]
     exact ⟨aE (de _), cO hlS⟩
    refine H2 (jG hh3 _ l hneI items) s.heap.objs.size
     hSf hi hb (items.size - 0) 0 _ (by omega) (bM _)
     ⟨⟨_, aJ _ rfl, rfl, rfl⟩, (hl1.push _)⟩ ?hS0 ?hR
    case hS0 =>
     have hget : ((s.heap.push { cls := .type "set", dict := none, data := .set #[] 0 (.fresh 0 0 led) }).push { cls := .type "list_iterator", data := .fields #[.ref l, .int 0 0] }).get? s.heap.objs.size
       = some { cls := .type "set", dict := none, data := .set #[] 0 (.fresh 0 0 led) } := aj _ hS
     exact ⟨_, _, (l5 (knd := bK W) led).setOf hget (by delta scanBound; omega), aQ _, rfl⟩
    case hR =>
     intro h' tk' hm hS'
     show wpAny _ _ _ _ _ _
     refine ai ?_
     show wpAny _ _ (ret cS) _ _ _
     refine ai ⟨rfl, h', tk', rfl, hS', λ b o hb e => ?_⟩
     have hb1 : b ≠ s.heap.objs.size := aE hb
     have hb2 : b ≠ (s.heap.push { cls := .type "set", dict := none, data := .set #[] 0 (.fresh 0 0 led) }).objs.size := by
      rw [du]; exact aE (aL hb)
     exact hm b o (by simp only [ag, ae, a9, or_false, not_or]; exact ⟨hb1, hb2⟩) (aj _ (aj _ e))
   ·cases r₂ with
    | error e => exact hr₂
    | ok fl₂ =>
     cases fl₂ with
     | ret r =>
      obtain ⟨rfl, h', tk, rfl, hS', hk'⟩ := hr₂
      repeat (any_goals (first | assumption | wp_step))
      exact h _ _ hS' hk'
     | _ => exact hr₂.elim
  | _ => exact hr.elim
variable {G : Fz}
theorem Hf : ∀ {bs : List Bs} {vl : List Value}, nG W G (bs.map .bytes) vl -> ∀ (i : Nat) (v : Value), vl[i]? = some v -> ∃ (b : Bs) (t : Tok), v = .bytes b.toArray t
 | [], _, h, i, v, hi => by cases (show _ = _ from h); cases hi
 | b :: bs, _, ⟨_, _, e, ⟨t, e2⟩, r⟩, 0, v, hi => by subst e e2; cases hi; exact ⟨b, t, rfl⟩
 | b :: bs, _, ⟨_, _, e, _, r⟩, i + 1, v, hi => by subst e; exact Hf r i v hi
theorem L7 {bs : List Bs} (h4 : bs.length < 4000) : Bi (.type "set") [.list (bs.map .bytes)] (.set (!bs.isEmpty)) := .list λ W A G s a vl n hh sub ho hr hc => by
 have hl : vl.length = bs.length := by rw [hr.length, am]
 refine xf hh (mP ho) (λ i v hi => Hf hr i v (by rw [<- aY]; exact hi)) (by rw [aG, hl]; exact ar h4 (by decide)) λ h' tk ⟨f, m, hS, hm, h0⟩ hk => ?_
 obtain ⟨o, ho', hso⟩ := hS.objOf
 rw [aG] at hm h0
 refine Go.gv (zS sub (pn _ _ (aQ _)) (λ b o e => hk b o (aR e) e) ho') ⟨_, o, m, f, rfl, Fz.add_self, hso, ?_, ac hm hc⟩
 rw [h0, hl]
 cases bs <;> rfl
end
section
variable {W : Wo} {G G' G'' : Fz} {A : Around} {s s' : Shared} {h h' h'' : Heap}
noncomputable def KB (own : List Addr) (s s' : Shared) : Prop := ∃ h' tk, s' = { s with heap := h', toks := tk } /\ ∀ b o, b ∉ own -> s.heap.get? b = some o -> h'.get? b = some o
theorem KB.rfl {own : List Addr} : KB own s s := ⟨s.heap, s.toks, _root_.rfl, λ _ _ _ e => e⟩
theorem KB.get {own : List Addr} {s' : Shared} (x : KB own s s') {b : Addr} {o : Obj} (hb : b ∉ own) (e : s.heap.get? b = some o) : s'.heap.get? b = some o := by
 obtain ⟨h', tk, rfl, k⟩ := x; exact k b o hb e
theorem KB.trans {own own' : List Addr} {s' s'' : Shared} (x : KB own s s') (y : KB own' s' s'') (hs : ∀ b o, b ∈ own' -> b ∉ own -> s.heap.get? b = some o -> False) : KB own s s'' := by
 obtain ⟨h', tk, rfl, k⟩ := x
 obtain ⟨h'', tk', rfl, k'⟩ := y
 exact ⟨h'', tk', _root_.rfl, λ b o hb e => k' b o (λ hb' => hs b o hb' hb e) (k b o hb e)⟩
theorem KN {own : List Addr} {a : Addr} {o : Obj} (sub : G.sub h) (nn : ∀ b ∈ own, G b = none) (hn : h.get? a = none) (k : ∀ b o, b ∉ own -> h.get? b = some o -> h'.get? b = some o) (ho : h'.get? a = some o) : Up G h (G.add a o) h' :=
 zH sub hn ho λ b ob e => k b ob (λ hb => by rw [nn b hb] at e; cases e) (sub b ob e)
theorem BC {own : List Addr} (sub : G.sub h) (nn : ∀ b ∈ own, G b = none) (k : ∀ b o, b ∉ own -> h.get? b = some o -> h'.get? b = some o) : Up G h G h' :=
 ⟨Fz.le.rfl, λ b ob e => k b ob (λ hb => by rw [nn b hb] at e; cases e) (sub b ob e), λ _ _ _ => rfl⟩
theorem oI {α : Type} {l : List α} {i : Nat} {x : α} {r : List α} (h : l.drop i = x :: r) : l[i]? = some x /\ l.drop (i + 1) = r := by
 have hi : i < l.length := by
  rcases lU i l.length with h' | h'
  ·exact h'
  ·rw [fX h'] at h; cases h
 rw [iO hi] at h
 injection h with h1 h2
 exact ⟨by rw [aF hi, h1], h2⟩
theorem Hj {α : Type} {l : List α} {i : Nat} (h : l.drop i = []) : l[i]? = none := by
 rw [dk] at h
 exact bn h
theorem wU {target : Expr} {I : Addr} {v : Value} {o : Obj} {T : String} {fs : Array Value} {E : Value -> Shared -> Prop} {Q : Unit -> Shared -> Prop} {M : Model} (ho : s.heap.get? I = some o) (hc : o.cls = .type T) (hd : o.data = .fields fs)
  (hT : (["enumerate", "zip", "dict_itemiterator", "dict_reverseitemiterator", "odict_iterator", "itertools.zip_longest", "itertools.pairwise"].contains T) = false) (h : Q () s) : wpAny M A (letOwnedTupleGo target (.ref I) v) Q E s := by
 unfold letOwnedTupleGo
 cases target <;> first
  | exact ai h
  | (cases v <;> first
    | exact ai h
    | (refine aa (wpAny_load ho ?_); rw [hc, hd]; simp only [hT, d9]; exact ai h))
structure Lt (own src : List Addr) (G : Fz) (h : Heap) (G' : Fz) (h' : Heap) : Prop where
 le : G.le G'
 sub : G'.sub h'
 nn : ∀ b ∈ own, G' b = none
 kp : ∀ b o, b ∈ own \/ b ∈ src -> h.get? b = some o -> h'.get? b = some o
theorem Lt.trans {own src : List Addr} (x : Lt own src G h G' h') (y : Lt own src G' h' G'' h'') : Lt own src G h G'' h'' := ⟨x.le.trans y.le, y.sub, y.nn, λ b o hb e => y.kp b o hb (x.kp b o hb e)⟩
noncomputable def Gd (own : List Addr) (G : Fz) (h : Heap) : Prop := ∀ b ∈ own, G b = none /\ ∃ o, h.get? b = some o
noncomputable def Nx (W : Wo) (I : Addr) (own src : List Addr) (t : Bool) : List PV -> Fz -> Heap -> Prop
 | [], G, h => ∀ (A : Around) (G' : Fz) (s : Shared) (E : Value -> Shared -> Prop) (Q : Option Value -> Shared -> Prop), Lt own src G h G' s.heap -> A.handled = none -> (∀ s', KB own s s' -> Q none s') -> wpAny (Mo W) A (pyNext (.ref I)) Q E s
 | x :: xs, G, h => ∀ (A : Around) (G' : Fz) (s : Shared) (E Q : Value -> Shared -> Prop) (target : Expr), Lt own src G h G' s.heap -> (t = true -> BV target) ->
   (∀ v s' G'', KB own s s' -> Up G' s.heap G'' s'.heap -> VR W G'' x v -> Gd own G'' s'.heap -> Nx W I own src t xs G'' s'.heap -> Q v s') ->
   wpAny (Mo W) A (pyNext (.ref I)) (λ r s₁ => match r with | none => False | some v => wpAny (Mo W) A (letOwnedTupleGo target (.ref I) v) (λ _ s₂ => Q v s₂) E s₁) E s
noncomputable def OR (W : Wo) (G : Fz) (h : Heap) (I : Addr) (own src : List Addr) : Prop := ∀ (A : Around) (G' : Fz) (s : Shared) (E Q : Value -> Shared -> Prop), Lt own src G h G' s.heap -> Q (.ref I) s -> wpAny (Mo W) A (pyIter (.ref I)) Q E s
structure s4 (W : Wo) (G : Fz) (h : Heap) (I : Addr) (own src : List Addr) (xs : List PV) (t : Bool) : Prop where
 lt : Lt own src G h G h
 al : ∀ b, b ∈ own \/ b ∈ src -> ∃ o, h.get? b = some o
 nx : Nx W I own src t xs G h
end
section
variable {W : Wo} {G G' : Fz} {A : Around} {s : Shared} {h h' : Heap} {I ax : Addr} {own src : List Addr} {t : Bool}
theorem m4 (sub : G.sub h) {a : Addr} (hn : h.get? a = none) : G a = none := by
 cases e : G a with
 | none => rfl
 | some o => have := sub a o e; rw [hn] at this; cases this
theorem wv {a b : Addr} (h : b ∉ [a]) : b ≠ a := λ e => h (e ▸ List.mem_singleton_self _)
theorem Lt.same (L : Lt own src G h G' s.heap) (k : ∀ b o, b ∉ own -> s.heap.get? b = some o -> h'.get? b = some o) : Up G' s.heap G' h' := BC L.sub L.nn k
theorem Nx.turn {x : PV} {xs : List PV} {v : Value} {E Q : Value -> Shared -> Prop} {h' : Heap} {tk : Nat} {T : String} {fs : Array Value} {o : Obj} {target : Expr} (L : Lt [I] src G h G' s.heap) (k : ∀ b o, b ∉ [I] -> s.heap.get? b = some o -> h'.get? b = some o)
  (ho : h'.get? I = some o) (hc : o.cls = .type T) (hd : o.data = .fields fs) (hT : (["enumerate", "zip", "dict_itemiterator", "dict_reverseitemiterator", "odict_iterator", "itertools.zip_longest", "itertools.pairwise"].contains T) = false)
  (hv : VR W G' x v) (nx : Nx W I [I] src t xs G' h')
  (hQ : ∀ v s' G'', KB [I] s s' -> Up G' s.heap G'' s'.heap -> VR W G'' x v -> Gd [I] G'' s'.heap -> Nx W I [I] src t xs G'' s'.heap -> Q v s') : wpAny (Mo W) A (letOwnedTupleGo target (.ref I) v) (λ _ s₂ => Q v s₂) E { s with heap := h', toks := tk } :=
 wU (s := { s with heap := h', toks := tk }) ho hc hd hT (hQ v _ G' ⟨h', tk, rfl, k⟩ (L.same k) hv (λ b hb => ⟨L.nn b hb, by cases ae.mp hb; exact ⟨o, ho⟩⟩) nx)
theorem Cw {tk : Nat} (e : gr I s.heap h') : ∀ b o, b ∉ [I] -> s.heap.get? b = some o -> h'.get? b = some o := λ b o hb e' => e b o (wv hb) e'
theorem Et {vs : List Value} {n : Nat} {qs : List PV} (hne : ax ≠ I) : ∀ {xs : List PV} {i : Nat} {G : Fz} {h : Heap}, qs.drop i = xs -> nG W G qs vs -> h.IsListIter I ax i -> h.get? ax = some (lObj vs n) -> Nx W I [I] [ax] false xs G h
 | [], i, G, h, hx, hr, hit, ho => λ A G' s E Q L hh hQ =>
  ki hh (hit.at λ o e => L.kp _ o (.inl (.head _)) e) (mP (L.kp _ _ (.inr (.head _)) ho)) (by rw [aY]; exact bn (by rw [hr.length]; exact dk.mp hx)) λ h' he => hQ _ ⟨h', s.toks, rfl, λ b o hb e => he b o (wv hb) e⟩
 | x :: xs, i, G, h, hx, hr, hit, ho => λ A G' s E Q target L ht hQ => by
  refine mL λ gk => ?_
  obtain ⟨h1, h2⟩ := oI hx
  have hr' := hr.mono L.le
  obtain ⟨v, hv, hp⟩ := hr'.get h1
  refine gk ?_
  have ho' := L.kp _ _ (.inr (.head _)) ho
  refine jV (hit.at λ o e => L.kp _ o (.inl (.head _)) e) (mP ho') (by rw [aY]; exact hv) λ h' hit' hs' => ?_
  refine mL λ gk => ?_
  obtain ⟨o', e1, e2, e3⟩ := id hit'
  refine gk ?_
  exact Nx.turn L (Cw (tk := 0) hs'.extBut) e1 e2 e3 (by decide) hp (Et hne h2 hr' hit' (hs'.extBut _ _ hne ho')) hQ
theorem GS {vs : List Value} {n : Nat} {qs : List PV} (hne : ax ≠ I) : ∀ {xs : List PV} {i : Nat} {G : Fz} {h : Heap}, qs.drop i = xs -> nG W G qs vs -> h.IsTupleIter I ax i -> h.get? ax = some (tB vs n) -> Nx W I [I] [ax] false xs G h
 | [], i, G, h, hx, hr, hit, ho => λ A G' s E Q L hh hQ =>
  wpAny_pyNext_tuple_end hh (hit.at λ o e => L.kp _ o (.inl (.head _)) e) (oF (L.kp _ _ (.inr (.head _)) ho)) (by rw [aY]; exact bn (by rw [hr.length]; exact dk.mp hx)) λ h' he => hQ _ ⟨h', s.toks, rfl, λ b o hb e => he b o (wv hb) e⟩
 | x :: xs, i, G, h, hx, hr, hit, ho => λ A G' s E Q target L ht hQ => by
  refine mL λ gk => ?_
  obtain ⟨h1, h2⟩ := oI hx
  have hr' := hr.mono L.le
  obtain ⟨v, hv, hp⟩ := hr'.get h1
  refine gk ?_
  have ho' := L.kp _ _ (.inr (.head _)) ho
  refine wpAny_pyNext_tuple_item (hit.at λ o e => L.kp _ o (.inl (.head _)) e) (oF ho') (by rw [aY]; exact hv) λ h' hit' hs' => ?_
  refine mL λ gk => ?_
  obtain ⟨o', e1, e2, e3⟩ := id hit'
  refine gk ?_
  exact Nx.turn L (Cw (tk := 0) hs'.extBut) e1 e2 e3 (by decide) hp (GS hne h2 hr' hit' (hs'.extBut _ _ hne ho')) hQ
theorem M9 {c : Int} : ∀ {n : Nat} {a : Int} {G : Fz} {h : Heap}, IsRangeIter h I a n c -> Nx W I [I] [] false (Aq a c n) G h := by
 intro l_
 induction l_ with
 | zero =>
  rintro a G h hit
  exact λ A G' s E Q L hh hQ =>
   wpAny_pyNext_range_end hh (L.kp _ _ (.inl (.head _)) hit) (d5 _) λ h' he => hQ _ ⟨h', s.toks, rfl, λ b o hb e => he b o (wv hb) e⟩
 | succ n ih =>
  rintro a G h hit
  exact λ A G' s E Q target L ht hQ => by
   refine wpAny_pyNext_range_item (L.kp _ _ (.inl (.head _)) hit) (dW.mpr (b9 n)) λ h' hit' hs' => ?_
   have hit'' : IsRangeIter h' I (a + c) n c := by
    have e : ((n + 1 : Nat) : Int) - 1 = n := by rw [Int.natCast_succ]; exact gU _ _
    rw [<- e]; exact hit'
   exact Nx.turn L (Cw (tk := 0) hs'.extBut) hit' rfl rfl (by decide) (show VR W G' (.int a) _ from ⟨_, rfl⟩) (ih hit'') hQ
theorem Nx.pair {x y : PV} {xs : List PV} {v u : Value} {Q : Value -> Shared -> Prop} {tk : Nat} (L : Lt own src G h G' s.heap) (k : ∀ b o, b ∉ own -> s.heap.get? b = some o -> h'.get? b = some o) (al : ∀ b ∈ own, (∃ o, s.heap.get? b = some o) /\ ∃ o, h'.get? b = some o)
  (ht : h'.get? s.heap.objs.size = some (tB [v, u] 0)) (hv : VR W G' x v) (hu : VR W G' y u) (nx : ∀ G'', G'.le G'' -> Nx W I own src t xs G'' h')
  (hQ : ∀ v s' G'', KB own s s' -> Up G' s.heap G'' s'.heap -> VR W G'' (.tuple [x, y]) v -> Gd own G'' s'.heap -> Nx W I own src t xs G'' s'.heap -> Q v s') : Q (.ref s.heap.objs.size) { s with heap := h', toks := tk } := by
 have up := KN L.sub L.nn (pn _ _ (aQ _)) k ht
 exact hQ _ _ (G'.add s.heap.objs.size (tB [v, u] 0)) ⟨h', tk, rfl, k⟩ up ⟨_, _, 0, rfl, Fz.add_self, ⟨_, _, rfl, VR.mono up.le _ _ hv, _, _, rfl, VR.mono up.le _ _ hu, rfl⟩, (by decide : 2 <= cap)⟩
  (λ b hb => ⟨by obtain ⟨⟨o, ho⟩, _⟩ := al b hb; rw [up.old b o ho]; exact L.nn b hb, (al b hb).2⟩) (nx _ up.le)
theorem KH {it : Addr} {vs : List Value} {n : Nat} {qs : List PV} (hei : I ≠ it) (hai : ax ≠ it) (hae : ax ≠ I) : ∀ {xs : List PV} {i : Nat} {old : Value} {G : Fz} {h : Heap}, qs.drop i = xs -> nG W G qs vs -> IsEnum h I it i old -> h.IsListIter it ax i -> h.get? ax = some (lObj vs n) -> Nx W I [I, it] [ax] true (wV i xs) G h := by
 intro l_
 induction l_ with
 | nil =>
  rintro i old G h hx hr he hit ho
  exact λ A G' s E Q L hh hQ =>
   wpAny_pyNext_enum_end hh (L.kp _ _ (.inl (.head _)) he) (hit.at λ o e => L.kp _ o (.inl (.tail _ (.head _))) e) (mP (L.kp _ _ (.inr (.head _)) ho)) (by rw [aY]; exact bn (by rw [hr.length]; exact dk.mp hx)) λ h' he => hQ _ ⟨h', s.toks, rfl, λ b o hb e => he b o (λ h => hb (by simp [h])) e⟩
 | cons x xs ih =>
  rintro i old G h hx hr he hit ho
  exact λ A G' s E Q target L ht hQ => by
   refine mL λ gk => ?_
   obtain ⟨h1, h2⟩ := oI hx
   have hr' := hr.mono L.le
   obtain ⟨v, hv, hp⟩ := hr'.get h1
   have ho' := L.kp _ _ (.inr (.head _)) ho
   have he' := L.kp _ _ (.inl (.head _)) he
   obtain ⟨_, _, _, rfl⟩ := ht rfl
   have hit₀ : s.heap.IsListIter it ax i := hit.at λ o e => L.kp _ o (.inl (.tail _ (.head _))) e
   obtain ⟨oi, hoi, _⟩ := id hit₀
   refine gk ?_
   refine wpAny_pyNext_enum_item he' hit₀ (mP ho') (by rw [aY]; exact hv) hei λ h₁ heo hit₁ htp hsz hk₁ => wpAny_letOwnedTupleGo_enum heo λ h₂ he₂ hs₂ => ?_
   have k : ∀ b o, b ∉ [I, it] -> s.heap.get? b = some o -> h₂.get? b = some o := λ b o hb e => by
    simp only [ag, a9, or_false, not_or] at hb
    exact hs₂.extBut b o hb.1 (hk₁ b o hb.1 hb.2 e)
   refine Nx.pair (tk := s.toks + 1) L k (λ b hb => ?_) (hs₂.extBut _ _ (Ne.symm (qw he')) htp) (show VR W G' (.int i) _ from ⟨_, rfl⟩) hp (λ G'' le => ih h2 (hr'.mono le) he₂ (hit₁.at λ o e => hs₂.extBut it o (Ne.symm hei) e) (k _ _ (by simp only [ag, a9, or_false, not_or]; exact ⟨hae, hai⟩) ho')) hQ
   rcases ag.mp hb with rfl | hb
   ·exact ⟨⟨_, he'⟩, _, he₂⟩
   ·cases ae.mp hb; obtain ⟨oj, hoj, _⟩ := id hit₁; exact ⟨⟨_, hoi⟩, _, hs₂.extBut _ _ (Ne.symm hei) hoj⟩
theorem MK {TI TO i1 i2 l1 l2 : Addr} {us vs : List Value} {n m : Nat} {ps qs : List PV} (D : ZipApart I TI TO i1 i2 l1 l2) : ∀ {xs ys : List PV} {i : Nat} {a b : Value} {G : Fz} {h : Heap}, ps.drop i = xs -> qs.drop i = ys -> nG W G ps us -> nG W G qs vs -> IsZip h I TI TO .none -> IsPair h TI (.ref i1) (.ref i2) -> IsPair h TO a b ->
  h.IsListIter i1 l1 i -> h.IsListIter i2 l2 i -> h.get? l1 = some (lObj us n) -> h.get? l2 = some (lObj vs m) -> Nx W I [I, TO, i1, i2] [TI, l1, l2] true (DO xs ys) G h := by
 have stop : ∀ {xs ys : List PV} {i : Nat} {a b : Value} {G : Fz} {h : Heap}, ps.drop i = xs -> qs.drop i = ys -> (xs = [] \/ ys = []) -> nG W G ps us -> nG W G qs vs -> IsZip h I TI TO .none -> IsPair h TI (.ref i1) (.ref i2) -> IsPair h TO a b ->
   h.IsListIter i1 l1 i -> h.IsListIter i2 l2 i -> h.get? l1 = some (lObj us n) -> h.get? l2 = some (lObj vs m) -> Nx W I [I, TO, i1, i2] [TI, l1, l2] true [] G h := λ {xs ys i a b G h} h1 h2 he hr hr2 hz hTI hTO hi1 hi2 ho1 ho2 A G' s E Q L hh hQ =>
  wpAny_pyNext_zip_end hh D (L.kp _ _ (.inl (by simp)) hz) (L.kp _ _ (.inr (by simp)) hTI) (L.kp _ _ (.inl (by simp)) hTO) (hi1.at λ o e => L.kp _ o (.inl (by simp)) e) (hi2.at λ o e => L.kp _ o (.inl (by simp)) e)
   (mP (L.kp _ _ (.inr (by simp)) ho1)) (mP (L.kp _ _ (.inr (by simp)) ho2)) (he.imp (λ e => by rw [aY]; exact bn (by rw [hr.length]; exact dk.mp (h1.trans e))) λ e => by rw [aY]; exact bn (by rw [hr2.length]; exact dk.mp (h2.trans e)))
   λ h' k => hQ _ ⟨h', s.toks, rfl, λ b o hb e => by simp at hb; exact k b o hb.1 hb.2.1 hb.2.2.1 hb.2.2.2 e⟩
 intro xs
 induction xs with
 | nil => intro ys i a b G h h1 h2; exact stop h1 h2 (.inl rfl)
 | cons x xs ih =>
  intro ys i a b G h h1 h2 hr hr2 hz hTI hTO hi1 hi2 ho1 ho2
  cases ys with
  | nil => exact stop h1 h2 (.inr rfl) hr hr2 hz hTI hTO hi1 hi2 ho1 ho2
  | cons y ys =>
   intro A G' s E Q target L ht hQ
   refine mL λ gk => ?_
   obtain ⟨e1, d1⟩ := oI h1
   obtain ⟨e2, d2⟩ := oI h2
   have r1 := hr.mono L.le
   have r2 := hr2.mono L.le
   obtain ⟨v, hv, hp⟩ := r1.get e1
   obtain ⟨u, hu, hq⟩ := r2.get e2
   obtain ⟨_, _, _, rfl⟩ := ht rfl
   refine gk ?_
   have hz := L.kp _ _ (.inl (by simp)) hz
   have hTI := L.kp _ _ (.inr (by simp)) hTI
   have hTO := L.kp _ _ (.inl (by simp)) hTO
   have hi1 : s.heap.IsListIter i1 l1 i := hi1.at λ o e => L.kp _ o (.inl (by simp)) e
   have hi2 : s.heap.IsListIter i2 l2 i := hi2.at λ o e => L.kp _ o (.inl (by simp)) e
   have ho1 := L.kp _ _ (.inr (by simp)) ho1
   have ho2 := L.kp _ _ (.inr (by simp)) ho2
   refine wpAny_pyNext_zip_item D hz hTI hTO hi1 hi2 (mP ho1) (mP ho2) (by rw [aY]; exact hv) (by rw [aY]; exact hu) λ h₁ hz₁ hTO₁ hj1 hj2 hT hsz hk₁ => wpAny_letOwnedTupleGo_zip hz₁ λ h₂ hz₂ hs₂ => ?_
   have k : ∀ b o, b ∉ [I, TO, i1, i2] -> s.heap.get? b = some o -> h₂.get? b = some o := λ b o hb e => by
    simp at hb
    exact hs₂.extBut b o hb.1 (hk₁ b o hb.1 hb.2.1 hb.2.2.1 hb.2.2.2 e)
   refine mL λ gk => ?_
   obtain ⟨o1, ho1', _⟩ := id hi1
   obtain ⟨o2, ho2', _⟩ := id hi2
   refine gk ?_
   refine Nx.pair (tk := s.toks) L k (λ b hb => ?_) (hs₂.extBut _ _ (Ne.symm (qw hz)) hT) hp hq (λ G'' le => ih d1 d2 (r1.mono le) (r2.mono le) hz₂ (k _ _ (by simp; exact ⟨D.TIz, D.TITO, D.TIi1, D.TIi2⟩) hTI) (hs₂.extBut _ _ D.TOz hTO₁) (hj1.at λ o e => hs₂.extBut _ o D.i1z e) (hj2.at λ o e => hs₂.extBut _ o D.i2z e)
    (k _ _ (by simp; exact ⟨D.l1z, D.l1TO, D.l1i1, D.l1i2⟩) ho1) (k _ _ (by simp; exact ⟨D.l2z, D.l2TO, D.l2i1, D.l2i2⟩) ho2)) hQ
   simp only [ag, a9, or_false] at hb
   rcases hb with rfl | rfl | rfl | rfl
   ·exact ⟨⟨_, hz⟩, _, hz₂⟩
   ·exact ⟨⟨_, hTO⟩, _, hs₂.extBut _ _ D.TOz hTO₁⟩
   ·obtain ⟨o, ho, _⟩ := id hj1; exact ⟨⟨_, ho1'⟩, _, hs₂.extBut _ _ D.i1z ho⟩
   ·obtain ⟨o, ho, _⟩ := id hj2; exact ⟨⟨_, ho2'⟩, _, hs₂.extBut _ _ D.i2z ho⟩
end
noncomputable def CR (env : Env) (h : Heap) (x : Str) (v : Value) : Prop :=
 (env.kindOf x = some .local /\ ∃ m, h.Ns env.locals m /\ m x = some v) \/
 ((env.kindOf x = some .cell \/ (env.kindOf x = some .free /\ (x == ("__classdict__" : Str)) = false)) /\ ∃ c, env.cells.lookup x = some c /\ h.IsCell c (some v))
noncomputable def vA (W : Wo) (x : Str) (v : Value) : Prop :=
 ∀ (env : Env), env.globals = W.gl -> env.builtins = W.bi -> ∀ (A : Around) (s : Shared) (E Q : Value -> Shared -> Prop), W.h₀.StaysIn s.heap -> Q v s -> wpAny (Mo W) A (loadGlobal env x) Q E s
noncomputable def gvals : List (Str × Value) := [("len", .builtin "len"), ("sum", .builtin "sum"), ("max", .builtin "max"), ("sorted", .builtin "sorted"), ("bytes", .type "bytes"), ("set", .type "set"), ("list", .type "list"), ("abs", .builtin "abs"), ("isinstance", .builtin "isinstance"), ("bool", .type "bool"), ("range", .type "range"), ("zip", .type "zip"), ("enumerate", .type "enumerate"), ("KeyError", .type "KeyError")]
structure Fn where
 params : List Str
 body : List Stmt
 scope : Scope
noncomputable def Ix : List Stmt -> List (Str × Fn)
 | [] => []
 | .FunctionDef x a b _ _ _ sc _ _ _ :: r => (x, ⟨a.args.map (·.arg), b, sc⟩) :: Ix r
 | _ :: r => Ix r
noncomputable def Pj : List (Str × Fn) := Ix PySem.Challenge.pw_ai0008_01.main.body
noncomputable def nE (f : Str) : Fn := (Pj.lookup f).getD ⟨[], [], default⟩
structure OH (W : Wo) (code : Value) (qual : Str) (P : Addr) : Prop where
 gl : W.gl = mainGlobals
 bi : W.bi = builtinsNs
 tab : P ∈ tabs
 g : ∃ mg, W.h₀.Ns mainGlobals mg /\ W.h₀.BuiltinsAt mg P
 code : ∃ c, code = .ref c /\ CodeHd W.h₀ c P
 qual : ∀ pos : Pos, qual ++ rN pos.line = pO P pos
noncomputable def yT : List (Str × Addr) := [("_find_lcas", 87), ("law", 182)]
structure uL (W : Wo) (f : Str) (a : Addr) (fd : FuncData) : Prop where
 glo : vA W f (.ref a)
 obj : ∃ o, W.h₀.get? a = some o /\ o.data = .func fd
 body : fd.body = .stmts (nE f).body
 clos : fd.closure = []
 code : W.h₀.CodeRec fd.code fd.qualname
 gl : fd.globals = W.gl
 bi : fd.builtins = W.bi
 scope : fd.scope = (nE f).scope
 mkf : ∀ P, yT.lookup f = some P -> OH W fd.code (fd.qualname ++ ".<locals>.") P
noncomputable def ph (W : Wo) (f : Str) (fd : FuncData) (us : List Value) (ks : List (Str × Value)) (ws : List Value) : Prop := ∀ (A : Around) (s : Shared), W.h₀.StaysIn s.heap -> wpAny (Mo W) A (bindArgs fd ⟨us, ks⟩) (λ b s' => b = (nE f).params.zip ws /\ s' = s) (λ _ _ => False) s
structure sC (W : Wo) (f : Addr) (ps : List Str) (names : List (Str × NameKind)) (gen : Bool) (body : List Stmt) (fd : FuncData) : Prop where
 there : ∃ o, W.h₀.get? f = some o /\ o.cls = .type "function" /\ o.data = .func fd
 body : fd.body = .stmts body
 clos : fd.closure = []
 code : W.h₀.CodeRec fd.code fd.qualname
 gl : fd.globals = W.gl
 bi : fd.builtins = W.bi
 kind : fd.scope.kind = .function
 co : fd.scope.isCoroutine = false
 gen : fd.scope.isGenerator = gen
 names : fd.scope.names = names
 bind : ∀ us : List Value, us.length = ps.length -> bindArgs fd ⟨us, []⟩ = pure (ps.zip us)
structure LB (W : Wo) (N : Addr) (mN : Str -> Option Value) (fi fa fg ft : Addr) : Prop where
 cls : ClsAt W.h₀ W.C N mN
 init : mN "__init__" = some (.ref fi)
 add : mN "add" = some (.ref fa)
 get : mN "get" = some (.ref fg)
 iter : mN "iter" = some (.ref ft)
 noGa : mN "__getattribute__" = none
 noGh : mN "__getattr__" = none
 noSa : mN "__setattr__" = none
 noPq : mN "pq" = none
noncomputable abbrev xc : List (Str × NameKind) := [("self", .local), ("item", .local), ("dt", .local), ("cmt", .local), ("heappush", .globalImplicit)]
noncomputable abbrev DI (p : Nat -> Pos) : List Stmt :=
 [.Assign [.Tuple [.Name "dt" (p 1), .Name "cmt" (p 2)] 0 (p 3)] (.Name "item" (p 4)) (p 5),
 .Expr (.Call (.Name "heappush" (p 6)) [.Attribute (.Name "self" (p 7)) "pq" (p 8), .Tuple [.UnaryOp .USub (.Name "dt" (p 9)) (p 10), .Name "cmt" (p 11)] 0 (p 12)] [] (p 13)) (p 14)]
noncomputable abbrev xF : List (Str × NameKind) := [("self", .local), ("item", .local), ("pr", .local), ("cmt", .local), ("heappop", .globalImplicit)]
noncomputable abbrev Dm (p : Nat -> Pos) : List Stmt :=
 [.Assign [.Name "item" (p 1)] (.Call (.Name "heappop" (p 2)) [.Attribute (.Name "self" (p 3)) "pq" (p 4)] [] (p 5)) (p 6),
 .If (.Name "item" (p 7)) [.Assign [.Tuple [.Name "pr" (p 8), .Name "cmt" (p 9)] 0 (p 10)] (.Name "item" (p 11)) (p 12), .Return (some (.Tuple [.UnaryOp .USub (.Name "pr" (p 13)) (p 14), .Name "cmt" (p 15)] 0 (p 16))) (p 17)] [] (p 18),
 .Return (some (.Constant .none 0 (p 19))) (p 20)]
noncomputable abbrev vH : List (Str × NameKind) := [("self", .local)]
noncomputable abbrev Ax (p1 p2 p3 p4 : Pos) : List Stmt := [.Assign [.Attribute (.Name "self" p1) "pq" p2] (.List [] p3) p4]
noncomputable abbrev vc : List (Str × NameKind) := [("self", .local), ("pr", .local), ("cmt", .local)]
noncomputable abbrev zo (P : Nat -> Pos) : List Stmt := [.Expr (.Yield (some (.Tuple [.UnaryOp .USub (.Name "pr" (P 7)) (P 8), .Name "cmt" (P 9)] 0 (P 10))) (P 11)) (P 12)]
noncomputable abbrev wS (P : Nat -> Pos) : List Stmt :=
 [.For (.Tuple [.Name "pr" (P 1), .Name "cmt" (P 2)] 0 (P 3)) (.Attribute (.Name "self" (P 4)) "pq" (P 5)) (zo P) [] (P 13)]
structure O3 (W : Wo) (N : Addr) (mN : Str -> Option Value) (fi fa fg ft : Addr) : Prop where
 K : LB W N mN fi fa fg ft
 init : ∃ fd p1 p2 p3 p4, sC W fi ["self"] vH false (Ax p1 p2 p3 p4) fd
 add : ∃ fd p, sC W fa ["self", "item"] xc false (DI p) fd
 get : ∃ fd p, sC W fg ["self"] xF false (Dm p) fd
 iter : ∃ fd p, sC W ft ["self"] vc true (wS p) fd
 push : vA W "heappush" (.builtin "_heapq.heappush")
 pop : vA W "heappop" (.builtin "_heapq.heappop")
 cls : vA W "WorkList" (.ref W.C)
noncomputable def qg : List Str := ["_law_down", "_law_next", "_law_passed", "_law_alone", "_law_forward", "_law_kept", "_law_bases", "_law_octopus", "_law_right", "find_merge_base", "find_octopus_base", "can_fast_forward", "independent", "_law_told", "law"]
structure Hw (W : Wo) : Prop where
 lim : W.h₀.NoLimit
 low : ∃ o, W.h₀.get? cStatics = some o
 glo : ∀ f v, gvals.lookup f = some v -> vA W f v
 defs : ∀ f ∈ qg, ∃ a fd, uL W f a fd /\ ∀ us : List Value, us.length = (nE f).params.length -> ph W f fd us [] us
 wl : ∃ N mN fi fa fg ft, O3 W N mN fi fa fg ft
 lcas : ∃ a fd, uL W "_find_lcas" a fd /\ (∃ t, ∀ a b c d e, ph W "_find_lcas" fd [a, b, c, d] [("shallows", e)] [a, b, c, d, .int 0 t, e]) /\ ∀ a b c d e g, ph W "_find_lcas" fd [a, b, c, d] [("min_stamp", e), ("shallows", g)] [a, b, c, d, e, g]
structure Ky where
 sc : Sc
 ow : List Str
 k : Nat
 exn : Bool
 hd : Bool := false
 tb : Option Addr := none
 cl : List (Str × Addr) -> Wo -> Fz -> Nat -> Value -> Prop := λ _ _ _ _ _ => False
noncomputable def Ky.to (K : Ky) (sc : Sc) : Ky := { K with sc := sc }
structure Cf (K : Ky) where
 W : Wo
 env : Env
 A : Around
 hw : Hw W
 kind : env.scope.kind = .function
 hgl : env.globals = W.gl
 hbi : env.builtins = W.bi
 hd : K.hd = false -> A.handled = none
 dep : A.depth + K.k <= 900
 uni : A.units + 8 * K.k <= 9000
 dbg : ∀ x k, K.sc.lookup x = some k -> (x == ("__debug__" : Str)) = false
 glk : ∀ x, K.sc.lookup x = some .globalImplicit -> env.kindOf x = some .globalImplicit
 cls : ∀ x, (K.sc.lookup x = some .cell \/ K.sc.lookup x = some .free) -> (∃ a, env.cells.lookup x = some a) /\ (env.kindOf x = some .cell \/ (env.kindOf x = some .free /\ (x == ("__classdict__" : Str)) = false))
section
variable {K : Ky} {c : Cf K} {ρ : En} {G G' : Fz} {s s' : Shared} {W : Wo} {A : Around} {E Q : Value -> Shared -> Prop}
theorem Cf.units (c : Cf K) : c.A.units + 16 < cLine := ar (bj (ac (aV _ _) c.uni) 16) (by decide)
theorem CR.keep {env : Env} {h h' : Heap} {x : Str} {v : Value} (l : CR env h x v) (k : ∀ a o, h.get? a = some o -> h'.get? a = some o) : CR env h' x v :=
 l.imp ((by rintro ⟨hk, m, hn, hm⟩; exact ⟨hk, m, hn.at' (k _), hm⟩)) (by rintro ⟨hk, c, hc, hv⟩; exact ⟨hk, c, hc, hv.keeps k⟩)
theorem CR.load {x : Str} {v : Value} (l : CR c.env s.heap x v) (h : Q v s) : wpAny (Mo c.W) c.A (loadName c.env x) Q E s := by
 rcases l with ⟨hl, _, hn, hm⟩ | ⟨hl | ⟨hl, hx⟩, _, hc, hv⟩
 ·exact ba c.kind hl hn hm h
 ·exact wpAny_loadName_cell c.kind hl hc hv h
 ·exact kU c.kind hl hc hv h hx
noncomputable def Pe (W : Wo) (b : Bool) (v : PV) (G : Fz) (h : Heap) (u : Value) : Prop := match b with
 | true => VR W G v u
 | false => VW W G h v u
theorem Pe.vw {v : PV} {h : Heap} {u : Value} : ∀ {b : Bool}, Pe W b v G h u -> VW W G h v u
 | true, x => .inl x
 | false, x => x
theorem Pe.go {v : PV} {u : Value} (g : Go G s G' s') : ∀ {b : Bool}, Pe W b v G s.heap u -> Pe W b v G' s'.heap u
 | true, x => VR.mono g.u.le _ _ x
 | false, x => VW.go x g
structure ES (c : Cf K) (ρ : En) (G : Fz) (s : Shared) : Prop where
 base : c.W.h₀.StaysIn s.heap
 sub : G.sub s.heap
 var : ∀ x p, m9 K.sc x = true -> ρ.get x = some p -> uN p = true -> ∃ v, CR c.env s.heap x v /\ Pe c.W (!K.ow.contains x) p G s.heap v
theorem ES.go (S : ES c ρ G s) (g : Go G s G' s') : ES c ρ G' s' :=
 ⟨λ b o e => g.get (S.base b o e), g.u.sub, λ x p h1 h2 h3 => (by obtain ⟨v, l, q⟩ := S.var x p h1 h2 h3; exact ⟨v, l.keep (pB g.k), q.go g⟩)⟩
noncomputable def Nj (K : Ky) (ρ : En) (e : Expr) (v : PV) (b : Bool) : Prop := ∀ (c : Cf K) G s, ES c ρ G s -> wpAny (Mo c.W) c.A (eval e c.env) (Gv G s (Pe c.W b v)) No s
noncomputable abbrev mO (K : Ky) (ρ : En) (e : Expr) (v : PV) : Prop := Nj K ρ e v true
noncomputable abbrev Ev (K : Ky) (ρ : En) (e : Expr) (v : PV) : Prop := Nj K ρ e v (o7 K.ow e)
noncomputable def Tr (K : Ky) (ρ : En) (e : Expr) (b : Bool) : Prop := ∀ (c : Cf K) G s, ES c ρ G s -> wpAny (Mo c.W) c.A (isTrue e c.env (eval e c.env)) (λ r s' => r = b /\ ∃ G', Go G s G' s') No s
variable {e l r : Expr} {p q : Pos} {v a b : PV} {es : List Expr} {vs : List PV} {n : Nat} {t x y : Bool}
theorem mO.of (hs : o7 K.ow e = true) (h : Ev K ρ e v) : mO K ρ e v := (congrArg (Nj K ρ e v) hs).mp h
theorem Nj.at {z : Bool} (h : Nj K ρ e v z) (S : ES c ρ G s) : wpAny (Mo c.W) c.A (eval e c.env) (Gv G s (Pe c.W z v)) No s := h c G s S
theorem Tr.bind {α : Type} {f : Bool -> Sem α} {Q : α -> Shared -> Prop} {z : Bool} (h : Tr K ρ e z) (S : ES c ρ G s) (h' : ∀ s' G', Go G s G' s' -> ES c ρ G' s' -> wpAny (Mo c.W) c.A (f z) Q No s') : wpAny (Mo c.W) c.A (isTrue e c.env (eval e c.env) >>= f) Q No s :=
 aa (oX (h c G s S) (by rintro _ s' ⟨hr, G', g⟩; exact hr ▸ h' s' G' g (S.go g)))
theorem pJ : Ev K ρ (.Constant .none n p) .none := λ c G s S => ai (Gv.pure S.sub rfl)
theorem pL {z : Bool} : Ev K ρ (.Constant (.bool z) n p) (.bool z) := λ c G s S => ai (Gv.pure S.sub rfl)
theorem mt {i : Int} : Ev K ρ (.Constant (.int i) n p) (.int i) := λ c G s S => by rw [arm_eval_Constant]; exact wpAny_mkInt (Gv.tok _ S.sub ⟨_, rfl⟩)
theorem I3 {z : Bs} : Ev K ρ (.Constant (.bytes z) n p) (.bytes z) := λ c G s S => PySem.W.Constant_bytes (Gv.tok _ S.sub ⟨_, rfl⟩)
theorem pM {sc : Sc} {x : Str} (h : m9 sc x = true) : ∃ k, sc.lookup x = some k := by
 unfold m9 at h
 cases e : sc.lookup x with
 | none => rw [e] at h; cases h
 | some k => exact ⟨k, rfl⟩
theorem ng {x : Str} (h1 : m9 K.sc x = true) (h2 : ρ.get x = some v) (h3 : uN v = true) : Ev K ρ (.Name x p) v := λ c G s S => by
 obtain ⟨u, l, q⟩ := S.var x v h1 h2 h3
 obtain ⟨k, hk⟩ := pM h1
 exact b8 (l.load (Gv.pure S.sub q)) (c.dbg x k hk)
theorem mJ {op : Operator} (h1 : Ev K ρ l a) (h2 : Ev K ρ r b) (h3 : Bo op a b v) : Ev K ρ (.BinOp l op r p) v := λ c G s S => by
 rw [mu]
 exact Gv.bind (h1.at S) λ x s₁ G₁ g₁ p₁ => aa (aO (Gv.then (h2.at (S.go g₁)) λ y s₂ G₂ g₂ p₂ => aa (aI (fh (Gv.out (g₁.trans g₂) (h3 _ _ _ _ _ _ g₂.u.sub (p₁.vw.go g₂) p₂.vw))))))
theorem MG {u : Value} (h : Tt a t) (sub : G.sub s.heap) (hv : VW W G s.heap a u) : wpAny (Mo W) A (unaryOp .Not u) (Gv G s (zC W (.bool !t))) No s := by
 unfold unaryOp
 exact aO (aa (oX (h _ _ _ _ _ No sub hv) (by
  rintro _ s' ⟨hb, k, hk⟩
  subst hb hk
  exact ai (Gv.tok k sub rfl))))
theorem Mh (h1 : Ev K ρ e a) (h2 : Tt a t) : Ev K ρ (.UnaryOp .Not e p) (.bool !t) := λ c G s S =>
 mD (Gv.then (h1.at S) λ _ _ _ g₁ p₁ => Gv.out g₁ (MG h2 g₁.u.sub p₁.vw))
theorem Lu {op : UnaryOp} (h1 : Ev K ρ e a) (h2 : Uo op a v) : Ev K ρ (.UnaryOp op e p) v := λ c G s S =>
 mD (Gv.then (h1.at S) λ _ _ _ g₁ p₁ => Gv.out g₁ (h2 _ _ _ _ _ g₁.u.sub p₁.vw))
theorem zk {i : Int} (h1 : Ev K ρ e (.int i)) : Ev K ρ (.UnaryOp .USub e p) (.int (-i)) := Lu h1 Nd
theorem tP {i : Int} (h1 : Ev K ρ e (.int i)) : Ev K ρ (.UnaryOp .Invert e p) (.int (bD i)) := Lu h1 Mr
theorem MI {op : CmpOp} (h1 : Ev K ρ l a) (h2 : Ev K ρ r b) (h3 : Co op a b t) (S : ES c ρ G s) (hQ : ∀ v s', Gv G s (zC c.W (.bool t)) v s' -> Q v s') :
  wpAny (Mo c.W) c.A (eval l c.env) (λ x s₁ => wpAny (Mo c.W) c.A (eval r c.env) (λ y s₂ => wpAny (Mo c.W) c.A (compareOp op x y) Q No s₂) No s₁) No s :=
 Gv.then (h1.at S) λ _ _ _ g₁ p₁ => Gv.then (h2.at (S.go g₁)) λ _ _ _ g₂ p₂ => oX (Gv.out (g₁.trans g₂) (h3 _ _ _ _ _ _ c.units g₂.u.sub (p₁.vw.go g₂) p₂.vw)) hQ
theorem rm {t : Expr} (h : Tr K ρ t x) (h1 : x = true -> mO K ρ l v) (h2 : x = false -> mO K ρ r v) : Ev K ρ (.IfExp t l r p) v := λ c G s S => by
 rw [arm_eval_IfExp]
 refine h.bind S λ s' G' g S' => ?_
 cases x with
 | true => exact Gv.out g ((h1 rfl).at S')
 | false => exact Gv.out g ((h2 rfl).at S')
end
inductive Dg (K : Ky) (ρ : En) : List Expr -> PV -> Prop
 | one {e v} (h : mO K ρ e v) : Dg K ρ [e] v
 | cons {e e2 : Expr} {es : List Expr} {x y : Bool} (h : mO K ρ e (.bool x)) (g : x = true -> Dg K ρ (e2 :: es) (.bool y)) : Dg K ρ (e :: e2 :: es) (.bool (x && y))
inductive Kq (K : Ky) (ρ : En) : List Expr -> PV -> Prop
 | one {e v} (h : mO K ρ e v) : Kq K ρ [e] v
 | cons {e e2 : Expr} {es : List Expr} {x y : Bool} (h : mO K ρ e (.bool x)) (g : x = false -> Kq K ρ (e2 :: es) (.bool y)) : Kq K ρ (e :: e2 :: es) (.bool (x || y))
inductive qM (K : Ky) (ρ : En) : List Expr -> Bool -> Prop
 | nil : qM K ρ [] true
 | cons {e es x y} (h : Tr K ρ e x) (g : x = true -> qM K ρ es y) : qM K ρ (e :: es) (x && y)
inductive B2 (K : Ky) (ρ : En) : List Expr -> Bool -> Prop
 | nil : B2 K ρ [] false
 | cons {e es x y} (h : Tr K ρ e x) (g : x = false -> B2 K ρ es y) : B2 K ρ (e :: es) (x || y)
inductive Ja (K : Ky) (ρ : En) (z : Expr -> Bool) : List Expr -> List PV -> Prop
 | nil : Ja K ρ z [] []
 | cons' {e es v vs} (hn : mU e) (h : Nj K ρ e v (z e)) (g : Ja K ρ z es vs) : Ja K ρ z (e :: es) (v :: vs)
inductive GL (G : Fz) (s : Shared) (P : Fz -> Heap -> List Value -> Prop) (us : List Value) (s' : Shared) : Prop
 | mk (G' : Fz) (g : Go G s G' s') (p : P G' s'.heap us)
section
variable {K : Ky} {c : Cf K} {ρ : En} {G G' : Fz} {s s' : Shared} {W : Wo} {A : Around} {E Q : Value -> Shared -> Prop} {e e1 e2 l r : Expr} {p q : Pos} {v a b : PV} {es : List Expr} {vs : List PV} {n : Nat} {t x y z : Bool} {env : Env}
theorem oA {op : CmpOp} (h1 : Ev K ρ l a) (h2 : Ev K ρ r b) (h3 : Co op a b t) (hb : autoParam (behindInMarks op r = false) tR) : Ev K ρ (.Compare l [op] [r] p) (.bool t) := λ c G s S =>
 wpAny_Compare1 (MI h1 h2 h3 S λ _ _ x => x) hb
theorem Eh {u : Value} (g : Go G s G' s') (h : Tt a t) (hv : VW W G' s'.heap a u) : wpAny (Mo W) A (truthy u) (λ r s'' => r = t /\ ∃ G'', Go G s G'' s'') No s' :=
 oX (h _ _ _ _ _ No g.u.sub hv) (by
  rintro _ _ ⟨h, k, hk⟩
  subst h hk
  exact ⟨rfl, _, g.trans (Go.tok g.u.sub k)⟩)
theorem nv (he : ∀ env t, isTrue e env t = (do let v <- t; standAt e.pos; holding [v] (truthy v))) (h : Ev K ρ e a) (ht : Tt a t) : Tr K ρ e t := λ c G s S => by
 rw [he]
 exact Gv.bind (h.at S) λ _ _ _ g₁ p₁ => aa (aI (aO (Eh g₁ ht p₁.vw)))
theorem pc (h : Tr K ρ e x) : Tr K ρ (.UnaryOp .Not e p) (!x) := λ c G s S => by
 rw [arm_isTrue_UnaryOp]
 exact h.bind S λ s' G' g S' => ai ⟨rfl, G', g⟩
theorem mM {op : CmpOp} (h1 : Ev K ρ l a) (h2 : Ev K ρ r b) (h3 : Co op a b t) (hb : autoParam (behindInMarks op r = false) tR) : Tr K ρ (.Compare l [op] [r] p) t := λ c G s S => by
 rw [arm_isTrue_Compare]
 have hm : markedEach [op] [r] (evalEach [r] c.env) = [eval r c.env] := by
  rw [arm_evalEach_cons, arm_evalEach_nil]
  show [markedBehindIn op r (eval r c.env)] = _
  unfold markedBehindIn
  rw [hb]
 rw [hm]
 refine aa (Gv.then (h1.at S) λ x s₁ G₁ g₁ p₁ => ?_)
 show wpAny _ _ (holding [x] (eval r c.env) >>= _) _ _ _
 refine aa (aO (Gv.then (h2.at (S.go g₁)) λ y s₂ G₂ g₂ p₂ => aa (aI (aa (fh (oX (Gv.out (g₁.trans g₂) (h3 _ _ _ _ _ _ c.units g₂.u.sub (p₁.vw.go g₂) p₂.vw)) (by rintro u s₃ ⟨k, G₃, uu, p₃⟩; exact aO (Eh ⟨k, uu⟩ nw (.inl p₃)))))))))
theorem vM (h : Dg K ρ es v) : Ev K ρ (.BoolOp .And es p) v := λ c G s S => by
 rw [l3]
 induction h generalizing G s with
 | one h => exact h.at S
 | @cons e e2 es x y h g ih =>
  refine Gv.bind (h.at S) λ u s' G' g₁ p₁ => aa (aI (aa (aO (oX (Eh g₁ nw (.inl p₁)) λ b s'' ⟨hb, G'', g'⟩ => ?_))))
  subst hb
  cases b with
  | false => exact ai (g'.gv (show VR c.W G'' (.bool false) u from p₁))
  | true => exact Gv.out g' (ih rfl G'' s'' (S.go g'))
theorem LD (h : Kq K ρ es v) : Ev K ρ (.BoolOp .Or es p) v := λ c G s S => by
 rw [l3]
 induction h generalizing G s with
 | one h => exact h.at S
 | @cons e e2 es x y h g ih =>
  refine Gv.bind (h.at S) λ u s' G' g₁ p₁ => aa (aI (aa (aO (oX (Eh g₁ nw (.inl p₁)) λ b s'' ⟨hb, G'', g'⟩ => ?_))))
  subst hb
  cases b with
  | true => exact ai (g'.gv (show VR c.W G'' (.bool true) u from p₁))
  | false => exact Gv.out g' (ih rfl G'' s'' (S.go g'))
theorem qM.one (h : Tr K ρ e x) : qM K ρ [e] x := by
 have := qM.cons h λ _ => .nil
 rwa [db] at this
theorem B2.one (h : Tr K ρ e x) : B2 K ρ [e] x := by
 have := B2.cons h λ _ => .nil
 rwa [a7] at this
theorem pN (h : qM K ρ es x) : Tr K ρ (.BoolOp .And es p) x := λ c G s S => by
 rw [lI]
 induction h generalizing G s with
 | nil => exact ai ⟨rfl, G, Go.rfl S.sub⟩
 | @cons e es x y h g ih =>
  rw [lR]
  refine h.bind S λ s' G' g₁ S' => ?_
  cases x with
  | false => exact ai ⟨rfl, G', g₁⟩
  | true => exact oX (ih rfl G' s' S') λ _ _ ⟨hb, G'', g₂⟩ => ⟨hb, G'', g₁.trans g₂⟩
theorem sq (h : B2 K ρ es x) : Tr K ρ (.BoolOp .Or es p) x := λ c G s S => by
 rw [lI]
 induction h generalizing G s with
 | nil => exact ai ⟨rfl, G, Go.rfl S.sub⟩
 | @cons e es x y h g ih =>
  rw [lR]
  refine h.bind S λ s' G' g₁ S' => ?_
  cases x with
  | true => exact ai ⟨rfl, G', g₁⟩
  | false => exact oX (ih rfl G' s' S') (by rintro _ _ ⟨hb, G'', g₂⟩; exact ⟨hb, G'', g₁.trans g₂⟩)
noncomputable abbrev xZ (K : Ky) (ρ : En) := Ja K ρ (o7 K.ow)
noncomputable abbrev nJ (K : Ky) (ρ : En) := Ja K ρ λ _ => true
theorem xZ.nil : xZ K ρ [] [] := Ja.nil
theorem nJ.nil : nJ K ρ [] [] := Ja.nil
theorem xZ.cons (h : Ev K ρ e v) (g : xZ K ρ es vs) (hn : autoParam (mU e) tF) : xZ K ρ (e :: es) (v :: vs) := Ja.cons' hn h g
theorem nJ.cons (h : mO K ρ e v) (g : nJ K ρ es vs) (hn : autoParam (mU e) tF) : nJ K ρ (e :: es) (v :: vs) := Ja.cons' hn h g
theorem qE {z : Expr -> Bool} (h : Ja K ρ z es vs) : (backTo p (starEach es env)).any (·.1) = false := by
 induction h with
 | nil => rfl
 | cons' hn h g ih => rw [hn]; exact ih
theorem zL (h : xZ K ρ es vs) (S : ES c ρ G s) : wpAny (Mo c.W) c.A (spliced (backTo p (starEach es c.env))) (GL G s λ G' h us => Hz c.W G' h vs us) No s := by
 induction h generalizing G s with
 | nil => exact bz ⟨G, Go.rfl S.sub, rfl⟩
 | cons' hn h g ih =>
  rw [hn]
  exact aW (Gv.then (h.at S) λ u s' G' g₁ p₁ => oX (ih (S.go g₁)) (by rintro us s'' ⟨G'', g₂, p₂⟩; exact ⟨G'', g₁.trans g₂, _, _, rfl, p₁.vw.go g₂, p₂⟩))
theorem wk (h : nJ K ρ es vs) (S : ES c ρ G s) : wpAny (Mo c.W) c.A (spliced (backTo p (starEach es c.env))) (GL G s λ G' h us => nG c.W G' vs us) No s := by
 induction h generalizing G s with
 | nil => exact bz ⟨G, Go.rfl S.sub, rfl⟩
 | cons' hn h g ih =>
  rw [hn]
  exact aW (Gv.then (h.at S) λ u s' G' g₁ p₁ => oX (ih (S.go g₁)) (by rintro us s'' ⟨G'', g₂, p₂⟩; exact ⟨G'', g₁.trans g₂, _, _, rfl, VR.mono g₂.u.le _ _ p₁, p₂⟩))
theorem nK (h : nJ K ρ es vs) (hl : vs.length <= cap) : Ev K ρ (.List es p) (.list vs) := λ c G s S => by
 rw [jF]
 exact aa (aI (aa (oX (wk h S) (by rintro us s' ⟨G', g, q⟩; exact Gv.out g (CZ g.u.sub q (by rw [q.length]; exact hl))))))
theorem tK (h : nJ K ρ es vs) (hl : vs.length <= cap) : Ev K ρ (.Tuple es n p) (.tuple vs) := λ c G s S => by
 rw [fK]
 exact aa (aI (aa (oX (wk h S) (by rintro us s' ⟨G', g, q⟩; exact Gv.out g (q0 g.u.sub q (by rw [q.length]; exact hl))))))
end
section
variable {K : Ky} {c : Cf K} {ρ : En} {G G' : Fz} {s s' : Shared} {W : Wo} {A : Around} {E Q : Value -> Shared -> Prop} {e e1 e2 l r : Expr} {p q : Pos} {v a b : PV} {es : List Expr} {vs : List PV} {n : Nat} {t x y z : Bool} {env : Env}
theorem B6 {i : Expr} (hi : ∀ va vb, subscripted i false va vb = operate [va, vb] (getItem va vb)) (he : ∀ env, eval (.Subscript e i p) env = (do let va <- eval e env; let vb <- holding [va] (eval i env); standAt p; let r <- subscripted i (<- getitemInPython va) va vb; letTemporaryGo e va r; pure r)) (h1 : Ev K ρ e a) (h2 : Ev K ρ i b) (h3 : Sb a b v) : Ev K ρ (.Subscript e i p) v := λ c G s S => by
 rw [he]
 exact Gv.bind (h1.at S) λ x s₁ G₁ g₁ p₁ => aa (aO (Gv.then (h2.at (S.go g₁)) λ y s₂ G₂ g₂ p₂ => aa (aI (Gv.out (g₁.trans g₂) (y5 h3 hi g₂.u.sub (p₁.vw.go g₂) p₂.vw)))))
theorem AL (sub : G.sub s.heap) (k : Keeps s s') : Go G s G s' := ⟨k, Fz.le.rfl, λ a o e => p0 k (sub a o e), λ _ _ _ => rfl⟩
inductive NX (K : Ky) (ρ : En) : Option Expr -> Option Nat -> Prop
 | none : NX K ρ none none
 | some {e : Expr} {i : Nat} (h : Ev K ρ e (.int i)) : NX K ρ (some e) (some i)
theorem Dt {o : Option Expr} {i : Option Nat} (h : NX K ρ o i) (S : ES c ρ G s) : wpAny (Mo c.W) c.A (evalPart o c.env) (Gv G s λ _ _ v => IsPart v (i.map λ (a : Nat) => (a : Int))) No s := by
 cases h with
 | none => rw [mF]; exact ai (Gv.pure S.sub .none)
 | some h =>
  rw [evalPart_some]
  refine Gv.then (h.at S) λ v s' G' g p => g.gv ?_
  obtain ⟨t, rfl⟩ := p.vw.int
  exact .int _ t
theorem IN {α : Type} {l : List α} {lo hi : Option Nat} : (xV l lo hi).length <= l.length := by
 unfold xV
 rw [fM]
 refine ac (dz _ _) ?_
 cases hi with
 | none => exact aQ _
 | some b => exact dj _ _
theorem sH {lo hi : Option Expr} {i j : Option Nat} {l : List PV} (h1 : Ev K ρ e (.list l)) (h2 : NX K ρ lo i) (h3 : NX K ρ hi j) : Ev K ρ (.Subscript e (.Slice lo hi none q) p) (.list (xV l i j)) := λ c G s S => by
 rw [arm_eval_Subscript]
 refine Gv.bind (h1.at S) λ o s₁ G₁ g₁ p₁ => aa (aO (wpAny_Slice (Gv.then (Dt h2 (S.go g₁)) λ vl s₂ G₂ g₂ p₂ => Gv.then (Dt h3 ((S.go g₁).go g₂)) λ vu s₃ G₃ g₃ p₃ => ?_)))
 rw [mF]
 refine ai (aa (aI ?_))
 obtain ⟨x, vx, nx, rfl, hx, rx, cx⟩ := ((p₁.vw.go g₂).go g₃).list g₃.u.sub
 have hl := mP hx
 generalize hH : s₃.heap.push { cls := .type "slice", data := .fields #[vl, vu, .none] } = H
 have hlH : H.IsList x vx.toArray := hH ▸ hl.push _
 have hT : kK { s₃ with heap := H } (.ref x) "list" := hlH.typeIs
 have gH : Go G₃ s₃ G₃ { s₃ with heap := H } := nZ g₃.u.sub λ b o e => hH ▸ aj _ e
 have hg : wpAny (Mo c.W) c.A (getItem (.ref x) (.ref s₃.heap.objs.size)) (Gv G s (zC c.W (.list (xV l i j)))) No { s₃ with heap := H } := by
  refine wpAny_getItem_list_slice hlH (hH ▸ lL ..) p₂ p₃ .none (by simp) ?_ (tI cx)
  rw [xU]
  have gN := tV (t := s₃.toks) (o := lObj (xV vx i j) 0) gH.u.sub rfl
  exact (((g₁.trans g₂).trans g₃).trans (gH.trans gN)).gv ⟨_, _, 0, rfl, Fz.add_self, (rx.cut _ _).mono gN.u.le, ac IN cx⟩
 refine aa ?_
 rw [kj hT.not_modules]
 refine aa (fe hT kX ?_)
 have fin : wpAny (Mo c.W) c.A (operate [.ref s₃.heap.objs.size, .ref x] (getItem (.ref x) (.ref s₃.heap.objs.size))) (λ r' s₄ => wpAny (Mo c.W) c.A (letTemporaryGo e (.ref x) r' >>= λ _ => pure r') (Gv G s (zC c.W (.list (xV l i j)))) No s₄) No { s₃ with heap := H } :=
  fh (oX hg λ r s₄ h₄ => aa (kJ (ai h₄)))
 first
  | exact ai (aa fin)
  | exact aa (ai (aa fin))
  | exact aa fin
theorem qp {f : Str} {u : Value} (hg : om K.sc f = true) (g : vA c.W f u) (st : c.W.h₀.StaysIn s.heap) (h : Q u s) : wpAny (Mo c.W) c.A (eval (.Name f p) c.env) Q E s := by
 have hx : K.sc.lookup f = some .globalImplicit := beq_iff_eq.mp hg
 exact eZ c.kind (c.glk f hx) (g c.env c.hgl c.hbi c.A s E Q st h) (c.dbg f _ hx)
theorem oo {f : Value} {args : List (Bool × Sem Value)} {Q : Args -> Shared -> Prop} (hp : args.any (·.1) = false) (h : wpAny (Mo W) A (spliced args) (λ vs s' => Q ⟨vs, []⟩ s') E s) : wpAny (Mo W) A (evalArgs f true args []) Q E s := by
 cases args with
 | nil =>
  unfold evalArgs
  show wpAny _ A (spliced [] >>= _) Q E s
  exact aa (ay h (λ vs s' h' => aO (aa (ai (aa (ai (ai h')))))) λ _ _ x => x)
 | cons a r =>
  obtain ⟨b, x⟩ := a
  rw [dG, jB] at hp
  obtain ⟨rfl, _⟩ := hp
  exact di h
theorem zY {f : Str} {u : Value} (hg : om K.sc f = true) (hf : gvals.lookup f = some u) (hb : (∃ id, u = .builtin id) \/ ∃ T, u = .type T) (h : xZ K ρ es vs) (S : ES c ρ G s)
  (hQ : ∀ us s' G', Go G s G' s' -> Hz c.W G' s'.heap vs us -> wpAny (Mo c.W) c.A (call u us []) Q E s') : wpAny (Mo c.W) c.A (eval (.Call (.Name f p) es [] q) c.env) Q E s := by
 refine eA rfl (qp hg (c.hw.glo f u hf) S.base ?_)
 have hp := qE (p := q) (env := c.env) h
 have ha : wpAny (Mo c.W) c.A (spliced (backTo q (starEach es c.env))) (λ us s' => wpAny (Mo c.W) c.A (call u us []) Q E s') E s := oX (zL h S) (by rintro us s' ⟨G', g, q⟩; exact hQ us s' G' g q)
 rcases hb with ⟨id, rfl⟩ | ⟨T, rfl⟩
 ·exact cY hp (oo hp ha)
 ·exact gM hp (oo hp ha)
theorem Ae {f : Str} {u : Value} (hg : om K.sc f = true) (hf : gvals.lookup f = some u) (hb : (∃ id, u = .builtin id) \/ ∃ T, u = .type T) (h : xZ K ρ es vs) (hv : Bi u vs v) (hk : autoParam (K.hd = false) tR) : Ev K ρ (.Call (.Name f p) es [] q) v := λ c G s S =>
 zY hg hf hb h S λ us s' G' g q => Gv.out g (hv _ _ _ _ _ (c.hd hk) g.u.sub q)
theorem ui {f : Str} {id : String} (hg : om K.sc f = true) (hf : gvals.lookup f = some (.builtin id)) (h : xZ K ρ es vs) (hv : Bi (.builtin id) vs v) (hk : autoParam (K.hd = false) tR) : Ev K ρ (.Call (.Name f p) es [] q) v := Ae hg hf (.inl ⟨_, rfl⟩) h hv hk
theorem BI {f : Str} {T : String} (hg : om K.sc f = true) (hf : gvals.lookup f = some (.type T)) (h : xZ K ρ es vs) (hv : Bi (.type T) vs v) (hk : autoParam (K.hd = false) tR) : Ev K ρ (.Call (.Name f p) es [] q) v := Ae hg hf (.inr ⟨_, rfl⟩) h hv hk
theorem Jr {l : List PV} (hg : om K.sc "len" = true) (h : Ev K ρ e (.list l)) (hn : autoParam (mU e) tF) (hk : autoParam (K.hd = false) tR) : Ev K ρ (.Call (.Name "len" p) [e] [] q) (.int l.length) := ui hg rfl (xZ.cons h xZ.nil hn) M0 hk
noncomputable def Is (t : Str) (T : Value) (a : PV) (z : Bool) : Prop := gvals.lookup t = some T /\ ∀ (W : Wo) (A : Around) (G : Fz) (s : Shared) (u : Value), G.sub s.heap -> VW W G s.heap a u -> wpAny (Mo W) A (call (.builtin "isinstance") [u, T]) (Gv G s (zC W (.bool z))) No s
theorem Lr {z : Bool} : Is "bool" (.type "bool") (.bool z) true := ⟨rfl, λ W A G s u sub h => by cases h.bool; exact IsiPair.bool_bool (Gv.pure sub rfl)⟩
theorem NN : Is "bool" (.type "bool") .none false := ⟨rfl, λ W A G s u sub h => by cases h.none; exact IsiPair.NoneType_bool (Gv.tok _ sub rfl)⟩
theorem Om {l : List PV} : Is "bool" (.type "bool") (.list l) false := ⟨rfl, λ W A G s u sub h => by obtain ⟨a, vs, n, rfl, ho, _⟩ := h.list sub; exact IsiPair.list_bool ho rfl (Gv.tok _ sub rfl)⟩
theorem Ny {l : List PV} : Is "list" (.type "list") (.list l) true := ⟨rfl, λ W A G s u sub h => by obtain ⟨a, vs, n, rfl, ho, _⟩ := h.list sub; exact IsiPair.list_list ho rfl (Gv.pure sub rfl)⟩
theorem wb {t : Str} {T : Value} (hg : om K.sc "isinstance" = true) (ht : om K.sc t = true) (h : Ev K ρ e a) (hr : Is t T a z) {p2 : Pos} (hn : autoParam (mU e) tF) : Ev K ρ (.Call (.Name "isinstance" p) [e, .Name t p2] [] q) (.bool z) := λ c G s S => by
 refine eA rfl (qp hg (c.hw.glo _ _ rfl) S.base ?_)
 have e : backTo q (starEach [e, .Name t p2] c.env) = [(false, eval e c.env), (false, eval (.Name t p2) c.env)] := by rw [hn]; rfl
 rw [e]
 exact cY rfl (oo rfl (aW (Gv.then (h.at S) λ v s₁ G₁ g₁ p₁ => aW (qp ht (c.hw.glo _ _ hr.1) (S.go g₁).base (bz (Gv.out g₁ (hr.2 _ _ _ _ _ g₁.u.sub p₁.vw)))))))
structure OM (W : Wo) (k : Nat) (f : Str) (vs : List PV) (r : PV) (a : Addr) : Prop where
 glo : vA W f (.ref a)
 fn : ∃ o fd, W.h₀.get? a = some o /\ o.data = .func fd
 run : ∀ (A : Around) (s : Shared) (G : Fz) (us : List Value), A.handled = none -> A.depth + k <= 900 -> A.units + 8 * k <= 9000 -> W.h₀.StaysIn s.heap -> G.sub s.heap -> nG W G vs us -> wpAny (Mo W) A (call (.ref a) us []) (Gv G s (zC W r)) No s
noncomputable def Di (k : Nat) (f : Str) (vs : List PV) (r : PV) : Prop := ∀ W : Wo, Hw W -> ∃ a, OM W k f vs r a
theorem xq {r : PV} (h : wK r = true) {u : Value} (x : VR W G r u) : VR W G' r u := by
 cases r <;> first | exact x | cases h
theorem freeze {h : Heap} : ∀ {vs : List PV} {us : List Value} {G : Fz}, Hz W G h vs us -> G.sub h -> vs.all (λ p => !Lz p) = true -> ∃ G', G.le G' /\ G'.sub h /\ nG W G' vs us := by
 intro l_
 induction l_ with
 | nil =>
  rintro _ G e sub _
  exact ⟨G, Fz.le.rfl, sub, e⟩
 | cons p ps ih =>
  rintro _ G ⟨u, us, e, a, r⟩ sub hd
  subst e
  rw [cm, av] at hd
  obtain ⟨G', le, sub', hr⟩ := ih r sub hd.2
  rcases a with a | ⟨b, rfl, g, a⟩
  ·exact ⟨G', le, sub', _, _, rfl, a.mono le, hr⟩
  ·cases p with
   | list l =>
    obtain ⟨xs, n, ho, hu, hc⟩ := a
    have le2 : G'.le (G'.add b (lObj xs n)) := λ d o e => by
     unfold Fz.add
     split
     ·rename_i q; subst q; have := sub' d o e; rw [ho] at this; exact this
     ·exact e
    refine ⟨_, le.trans le2, λ d o e => ?_, _, _, rfl, ⟨b, xs, n, rfl, Fz.add_self, hu.mono (le.trans le2), hc⟩, hr.mono le2⟩
    unfold Fz.add at e
    split at e
    ·rename_i q; subst q; cases e; exact ho
    ·exact sub' d o e
   | dict l => cases hd.1
   | _ => exact a.elim
theorem nI {f : Str} (hg : om K.sc f = true) (ha : wK v = true) (h : xZ K ρ es vs) (hv : Di K.k f vs v) (hd : vs.all (λ p => !Lz p) = true) (hk : autoParam (K.hd = false) tR) : Ev K ρ (.Call (.Name f p) es [] q) v := λ c G s S => by
 refine mL λ gk => ?_
 obtain ⟨a, F⟩ := hv c.W c.hw
 obtain ⟨o, fd, ho, hfd⟩ := F.fn
 refine gk ?_
 refine eA rfl (qp hg F.glo S.base (dY (o := o) (fd := fd) (oo (qE h) (oX (zL h S) λ us s' ⟨G', g, q⟩ => ⟨⟨(S.go g).base a o ho, hfd⟩, ?_⟩))))
 refine mL λ gk => ?_
 obtain ⟨G₂, le, sub, hr⟩ := freeze q g.u.sub hd
 refine gk ?_
 exact oX (F.run c.A s' G₂ us (c.hd hk) c.dep c.uni (S.go g).base sub hr) (by rintro u s'' ⟨k, G₃, _, p⟩; exact (g.trans (AL g.u.sub k)).gv (show VR _ _ _ _ from xq ha p))
end
inductive EO (W : Wo) (G : Fz) (s : Shared) (xs : List PV) (nt st : Bool) (it : Value) (s' : Shared) : Prop
 | mk (G' : Fz) (I : Addr) (own src : List Addr) (t : Bool) (e : it = .ref I) (g : Go G s G' s') (i : s4 W G' s'.heap I own src xs t) (self : OR W G' s'.heap I own src) (ht : t = true -> nt = true) (ho : ∀ b ∈ own, s.heap.get? b = none) (hs : st = true -> ∀ b ∈ src, G' b ≠ none \/ s.heap.get? b = none)
noncomputable def xQ (K : Ky) (ρ : En) (e : Expr) (xs : List PV) : Prop := ∀ (c : Cf K) G s, ES c ρ G s -> wpAny (Mo c.W) c.A (eval e c.env) (λ v s₁ => wpAny (Mo c.W) c.A (pyIter v) (EO c.W G s xs (sr e) (o7 K.ow e)) No s₁) No s
section
variable {K : Ky} {c : Cf K} {ρ : En} {G G' : Fz} {s s' : Shared} {W : Wo} {A : Around} {E Q : Value -> Shared -> Prop} {e e1 e2 e3 : Expr} {p q : Pos} {xs ys : List PV} {nt st : Bool}
theorem Go.new (g : Go G s G' s') {b : Addr} (h : s'.heap.get? b = none) : s.heap.get? b = none := by
 cases e : s.heap.get? b with
 | none => rfl
 | some o => have := g.get e; rw [h] at this; cases this
theorem EO.out {it : Value} {s'' : Shared} (g : Go G s G' s') (x : EO W G' s' xs nt st it s'') : EO W G s xs nt st it s'' := by
 obtain ⟨G₂, I, own, src, t, e, g₂, i, sf, ht, ho, hs⟩ := x
 exact ⟨G₂, I, own, src, t, e, g.trans g₂, i, sf, ht, λ b hb => g.new (ho b hb), λ h b hb => (hs h b hb).imp id g.new⟩
theorem nW {s : Shared} : s.heap.get? s.heap.objs.size = none := pn _ _ (aQ _)
theorem IZ {o oi : Obj} {a : Addr} (sub : G.sub s.heap) (ho : s.heap.get? a = some o) (hf : oi.isFreed = false) (self : ∀ (A : Around) (s' : Shared) (E Q : Value -> Shared -> Prop), s'.heap.get? s.heap.objs.size = some oi -> Q (.ref s.heap.objs.size) s' -> wpAny (Mo W) A (pyIter (.ref s.heap.objs.size)) Q E s')
  (nx : ∀ h' : Heap, h'.get? s.heap.objs.size = some oi -> h'.get? a = some o -> Nx W s.heap.objs.size [s.heap.objs.size] [a] false xs G h') (hs : st = true -> G a ≠ none) : EO W G s xs nt st (.ref s.heap.objs.size) { s with heap := s.heap.push oi } := by
 have kp : ∀ b o, s.heap.get? b = some o -> (s.heap.push oi).get? b = some o := λ b o e => aj _ e
 have hi : (s.heap.push oi).get? s.heap.objs.size = some oi := aJ _ hf
 refine ⟨G, _, [s.heap.objs.size], [a], false, rfl, nZ sub kp, ⟨⟨Fz.le.rfl, λ b o e => kp b o (sub b o e), λ b hb => ?_, λ _ _ _ e => e⟩, λ b hb => ?_, nx _ hi (kp _ _ ho)⟩, λ A G' s' E Q L hq => self A s' E Q (L.kp _ _ (.inl (.head _)) hi) hq, (λ h => by cases h), λ b hb => ?_, λ h b hb => ?_⟩
 ·cases ae.mp hb; exact m4 sub nW
 ·rcases hb with hb | hb <;> cases ae.mp hb
  ·exact ⟨_, hi⟩
  ·exact ⟨_, kp _ _ ho⟩
 ·cases ae.mp hb; exact nW
 ·cases ae.mp hb; exact .inl (hs h)
theorem DJ {a : Addr} {vs : List Value} {n : Nat} (sub : G.sub s.heap) (ho : s.heap.get? a = some (lObj vs n)) (hr : nG W G xs vs) (hs : st = true -> G a ≠ none) : wpAny (Mo W) A (pyIter (.ref a)) (EO W G s xs nt st) No s :=
 eF (mP ho) (IZ sub ho rfl (λ A s' E Q hi hq => wpAny_pyIter_listiter (l := a) (i := 0) ⟨_, hi, rfl, rfl⟩ hq) (λ h' hi ha => Et (i := 0) (qw ho) rfl hr ⟨_, hi, rfl, rfl⟩ ha) hs)
theorem Mc {a : Addr} {vs : List Value} {n : Nat} (sub : G.sub s.heap) (ho : s.heap.get? a = some (tB vs n)) (hr : nG W G xs vs) (hs : st = true -> G a ≠ none) : wpAny (Mo W) A (pyIter (.ref a)) (EO W G s xs nt st) No s :=
 lk (oF ho) (IZ sub ho rfl (λ A s' E Q hi hq => wpAny_pyIter_tupleiter (t := a) (i := 0) ⟨_, hi, rfl, rfl⟩ hq) (λ h' hi ha => GS (i := 0) (qw ho) rfl hr ⟨_, hi, rfl, rfl⟩ ha) hs)
theorem FC {v : PV} {a : Addr} {l : List PV} {G : Fz} {h : Heap} (x : Pe W st (.list l) G h (.ref a)) : st = true -> G a ≠ none := λ e => by
 subst e
 obtain ⟨b, vs, n, e, g, _⟩ := x
 cases e
 rw [g]
 exact λ e => nomatch e
theorem mY (h : Ev K ρ e (.list xs)) : xQ K ρ e xs := λ c G s S => Gv.then (h.at S) λ v s' G' g p => by
 obtain ⟨a, vs, n, rfl, ho, hr, hc⟩ := p.vw.list g.u.sub
 exact oX (DJ g.u.sub ho hr (FC (v := .none) p)) λ it s₂ x => x.out g
theorem Im {r : Addr} {a b d : Int} {t u v : Tok} {n : Nat} (sub : G.sub s.heap) (hr : IsRange s.heap r a b d t u v) (hsm : fL a b d = true) (hn : dN a b d = n) : wpAny (Mo W) A (pyIter (.ref r)) (EO W G s (Aq a d n) nt st) No s := by
 refine wpAny_pyIter_range hr hsm ?_
 rw [hn]
 have kp : ∀ b o, s.heap.get? b = some o -> (s.heap.push { cls := .type "range_iterator", data := .fields #[rawInt a, rawInt (n : Int), rawInt d] }).get? b = some o := λ b o e => aj _ e
 have hi : IsRangeIter (s.heap.push { cls := .type "range_iterator", data := .fields #[rawInt a, rawInt (n : Int), rawInt d] }) s.heap.objs.size a n d := aJ _ rfl
 refine ⟨G, _, [s.heap.objs.size], [], false, rfl, nZ sub kp, ⟨⟨Fz.le.rfl, λ b o e => kp b o (sub b o e), λ b hb => ?_, λ _ _ _ e => e⟩, λ b hb => ?_, M9 hi⟩, λ A G' s' E Q L hq => wpAny_pyIter_rangeiter (L.kp _ _ (.inl (.head _)) hi) hq, (λ h => by cases h), λ b hb => ?_, λ h b hb => by cases hb⟩
 ·cases ae.mp hb; exact m4 sub nW
 ·rcases hb with hb | hb
  ·cases ae.mp hb; exact ⟨_, hi⟩
  ·cases hb
 ·cases ae.mp hb; exact nW
theorem xN {b : Nat} (hb : b <= 1000000) : dN ((b : Int) - 1) (-1) (-1) = (b : Int) /\ fL ((b : Int) - 1) (-1) (-1) = true := by
 have e : dN ((b : Int) - 1) (-1) (-1) = (b : Int) := by
  unfold dN
  simp only [show ¬ ((-1 : Int) > 0) by decide, if_false, show (-(-1) : Int) = 1 by decide, Int.ediv_one]
  split <;> omega
 refine ⟨e, ?_⟩
 unfold fL
 rw [e]
 simp only [lY, av, bq, decide_eq_true_eq, beq_iff_eq, show ¬ ((-1 : Int) > 0) by decide, if_false]
 lia
theorem ur {a b d : Int} {t u v : Tok} {tk : Nat} (sub : G.sub s.heap) : Go G s G { s with heap := s.heap.push { cls := .type "range", data := .fields #[.int a t, .int b u, .int d v] }, toks := tk } := nZ sub λ b o e => aj _ e
theorem Hz.two {h : Heap} {a b : PV} {us : List Value} (x : Hz W G h [a, b] us) : ∃ u v, us = [u, v] /\ VW W G h a u /\ VW W G h b v := by
 obtain ⟨u, _, rfl, h, y⟩ := x
 obtain ⟨v, rfl, h'⟩ := Hz.one y
 exact ⟨u, v, rfl, h, h'⟩
theorem EW {b : Nat} (hg : om K.sc "range" = true) (h : Ev K ρ e (.int b)) (hb : b <= 1000000) (hn : autoParam (mU e) tF) : xQ K ρ (.Call (.Name "range" p) [e] [] q) (Aq 0 1 b) := λ c G s S =>
 zY hg rfl (.inr ⟨_, rfl⟩) (xZ.cons h xZ.nil hn) S λ us s' G' g x => by
  obtain ⟨u, rfl, hu⟩ := x.one
  obtain ⟨t, rfl⟩ := hu.int
  exact call_range_1 (oX (Im (n := b) (ur g.u.sub).u.sub (ld ..) (small_one (by lia) (by lia) (by lia) (by lia)) (by rw [rangeSize_one]; split <;> lia)) λ it s₂ x => x.out (g.trans (ur g.u.sub)))
theorem CO {b : Nat} (hg : om K.sc "range" = true) (h1 : Ev K ρ e1 (.int ((b : Int) - 1))) (h2 : Ev K ρ e2 (.int (-1))) (h3 : Ev K ρ e3 (.int (-1))) (hb : b <= 1000000) (hn1 : autoParam (mU e1) tF) (hn2 : autoParam (mU e2) tF) (hn3 : autoParam (mU e3) tF) : xQ K ρ (.Call (.Name "range" p) [e1, e2, e3] [] q) (Aq ((b : Int) - 1) (-1) b) := λ c G s S =>
 zY hg rfl (.inr ⟨_, rfl⟩) (xZ.cons h1 (xZ.cons h2 (xZ.cons h3 xZ.nil hn3) hn2) hn1) S λ us s' G' g x => by
  obtain ⟨u, _, rfl, hu, x⟩ := x
  obtain ⟨t, rfl⟩ := hu.int
  obtain ⟨v, w, rfl, hv, hw⟩ := Hz.two x
  obtain ⟨t2, rfl⟩ := hv.int
  obtain ⟨t3, rfl⟩ := hw.int
  exact call_range_3 (by decide) (oX (Im (n := b) (ur (tk := s'.toks) g.u.sub).u.sub (ld ..) (xN hb).2 (xN hb).1) λ it s₂ x => x.out (g.trans (ur (tk := s'.toks) g.u.sub))) (Or.inl (iJ (by decide)))
theorem nG.l1 {l : List PV} {us : List Value} (x : nG W G [.list l] us) : ∃ a vs n, us = [.ref a] /\ G a = some (lObj vs n) /\ nG W G l vs /\ vs.length <= cap := by
 obtain ⟨_, _, rfl, ⟨a, vs, n, rfl, g, r, c⟩, e⟩ := x
 cases (show _ = _ from e)
 exact ⟨a, vs, n, rfl, g, r, c⟩
theorem Bp {es : List Expr} {vs : List PV} {f : Str} {T : String} (hg : om K.sc f = true) (hf : gvals.lookup f = some (.type T)) (h : nJ K ρ es vs) (S : ES c ρ G s)
  (hQ : ∀ us s' G', Go G s G' s' -> nG c.W G' vs us -> wpAny (Mo c.W) c.A (call (.type T) us []) Q E s') : wpAny (Mo c.W) c.A (eval (.Call (.Name f p) es [] q) c.env) Q E s :=
 eA rfl (qp hg (c.hw.glo f _ hf) S.base (gM (qE h) (oo (qE h) (oX (wk h S) (by rintro us s' ⟨G', g, q⟩; exact hQ us s' G' g q)))))
theorem sI {l : List PV} (hg : om K.sc "enumerate" = true) (h1 : mO K ρ e1 (.list l)) (hn : autoParam (mU e1) tF) : xQ K ρ (.Call (.Name "enumerate" p) [e1] [] q) (wV 0 l) := λ c G s S =>
 Bp hg rfl (nJ.cons h1 nJ.nil hn) S λ us s' G' g x => by
  refine mL λ gk => ?_
  obtain ⟨a, vs, n, rfl, ga, hr, hc⟩ := x.l1
  refine gk ?_
  have ho := g.u.sub _ _ ga
  refine call_enumerate_list (mP ho) λ h' he hit hsz hk => lC he ?_
  have f0 : s'.heap.get? s'.heap.objs.size = none := nW
  have f1 : s'.heap.get? (s'.heap.objs.size + 1) = none := pn _ _ (dv _)
  have nn : ∀ b ∈ [s'.heap.objs.size + 1, s'.heap.objs.size], s'.heap.get? b = none := λ b hb => by
   rcases ag.mp hb with rfl | hb
   ·exact f1
   ·cases ae.mp hb; exact f0
  refine mL λ gk => ?_
  obtain ⟨oi, hoi, hoc, hod⟩ := id hit
  refine gk ?_
  refine EO.out g ⟨G', _, [s'.heap.objs.size + 1, s'.heap.objs.size], [a], true, rfl, nZ g.u.sub hk, ⟨⟨Fz.le.rfl, λ b o e => hk b o (g.u.sub b o e), λ b hb => m4 g.u.sub (nn b hb), λ _ _ _ e => e⟩, λ b hb => ?_, KH (i := 0) (fP _) (qw ho) (aE (aL (aR ho))) rfl hr he hit (hk _ _ ho)⟩,
   λ A G₂ s₂ E Q L hq => lC (L.kp _ _ (.inl (.head _)) he) hq, λ _ => rfl, nn, λ _ b hb => .inl ?_⟩
  ·rcases hb with hb | hb
   ·rcases ag.mp hb with rfl | hb
    ·exact ⟨_, he⟩
    ·cases ae.mp hb; exact ⟨_, hoi⟩
   ·cases ae.mp hb; exact ⟨_, hk _ _ ho⟩
  ·cases ae.mp hb; rw [ga]; exact λ e => nomatch e
theorem JC {l m : List PV} (hg : om K.sc "zip" = true) (h1 : mO K ρ e1 (.list l)) (h2 : mO K ρ e2 (.list m)) (hn1 : autoParam (mU e1) tF) (hn2 : autoParam (mU e2) tF) : xQ K ρ (.Call (.Name "zip" p) [e1, e2] [] q) (DO l m) := λ c G s S =>
 Bp hg rfl (nJ.cons h1 (nJ.cons h2 nJ.nil hn2) hn1) S λ us s' G' g x => by
  obtain ⟨_, _, rfl, ⟨a, vs, n, rfl, ga, hr, hc⟩, x⟩ := x
  obtain ⟨b, vs2, n2, rfl, gb, hr2, hc2⟩ := nG.l1 x
  have ho := g.u.sub _ _ ga
  have ho2 := g.u.sub _ _ gb
  refine call_zip_2 (mP ho) (mP ho2) λ h' hz hTI hTO hi1 hi2 hsz hk => lM hz ?_
  have fr : ∀ i, s'.heap.get? (s'.heap.objs.size + i) = none := λ i => pn _ _ (aV _ _)
  have nn : ∀ b ∈ [s'.heap.objs.size + 4, s'.heap.objs.size + 3, s'.heap.objs.size, s'.heap.objs.size + 1], s'.heap.get? b = none := λ b hb => by
   simp only [ag, a9, or_false] at hb
   rcases hb with rfl | rfl | rfl | rfl
   ·exact fr 4
   ·exact fr 3
   ·exact fr 0
   ·exact fr 1
  refine mL λ gk => ?_
  obtain ⟨o1, ho1', hc1', hd1'⟩ := id hi1
  obtain ⟨o2, ho2', hc2', hd2'⟩ := id hi2
  refine gk ?_
  have al : ∀ b, b ∈ [s'.heap.objs.size + 4, s'.heap.objs.size + 3, s'.heap.objs.size, s'.heap.objs.size + 1] -> ∃ o, h'.get? b = some o := λ b hb => by
   simp only [ag, a9, or_false] at hb
   rcases hb with rfl | rfl | rfl | rfl
   ·exact ⟨_, hz⟩
   ·exact ⟨_, hTO⟩
   ·exact ⟨_, ho1'⟩
   ·exact ⟨_, ho2'⟩
  refine EO.out g ⟨G', _, [s'.heap.objs.size + 4, s'.heap.objs.size + 3, s'.heap.objs.size, s'.heap.objs.size + 1], [s'.heap.objs.size + 2, a, b], true, rfl, nZ g.u.sub hk, ⟨⟨Fz.le.rfl, λ b o e => hk b o (g.u.sub b o e), λ b hb => m4 g.u.sub (nn b hb), λ _ _ _ e => e⟩, λ d hb => ?_, MK (i := 0) (zipApart_new (aR ho) (aR ho2)) rfl rfl hr hr2 hz hTI hTO hi1 hi2 (hk _ _ ho) (hk _ _ ho2)⟩,
   λ A G₂ s₂ E Q L hq => lM (L.kp _ _ (.inl (.head _)) hz) hq, λ _ => rfl, nn, λ _ d hb => ?_⟩
  ·rcases hb with hb | hb
   ·exact al d hb
   ·simp only [ag, a9, or_false] at hb
    rcases hb with rfl | rfl | rfl
    ·exact ⟨_, hTI⟩
    ·exact ⟨_, hk _ _ ho⟩
    ·exact ⟨_, hk _ _ ho2⟩
  ·simp only [ag, a9, or_false] at hb
   rcases hb with rfl | rfl | rfl
   ·exact .inr (fr 2)
   ·exact .inl (by rw [ga]; exact λ e => nomatch e)
   ·exact .inl (by rw [gb]; exact λ e => nomatch e)
theorem Gj (hs : o7 K.ow e = true) (h : Ev K ρ e (.tuple xs)) : xQ K ρ e xs := λ c G s S => Gv.then ((mO.of hs h).at S) λ v s' G' g p => by
 refine mL λ gk => ?_
 obtain ⟨a, vs, n, rfl, ga, hr, hc⟩ := (show VR _ _ _ _ from p)
 refine gk ?_
 exact oX (Mc g.u.sub (g.u.sub _ _ ga) hr λ _ => by rw [ga]; exact λ e => nomatch e) λ it s₂ x => x.out g
end
inductive sS : Expr -> PV -> En -> En -> Prop
 | one {x p v ρ} : sS (.Name x p) v ρ ((x, some v) :: ρ)
 | two {x y p q n r a b ρ} : sS (.Tuple [.Name x p, .Name y q] n r) (.tuple [a, b]) ρ ((y, some b) :: (x, some a) :: ρ)
noncomputable abbrev Jv (gs : List Comprehension) : List Str := gs.flatMap λ g => tn g.target
noncomputable def nV : List Str -> Bool
 | [] => true
 | x :: r => !r.contains x && nV r
inductive Cr (K : Ky) (elt : Expr) : En -> List Comprehension -> List PV -> List PV -> Prop
 | nil {ρ g gs} : Cr K elt ρ (g :: gs) [] []
 | skip {ρ ρ' g gs x xs ys} (hb : sS g.target x ρ ρ') (ht : qM K ρ' g.ifs false) (h : Cr K elt ρ (g :: gs) xs ys) : Cr K elt ρ (g :: gs) (x :: xs) ys
 | item {ρ ρ' g x xs v ys} (hb : sS g.target x ρ ρ') (ht : qM K ρ' g.ifs true) (he : mO K ρ' elt v) (h : Cr K elt ρ [g] xs ys) : Cr K elt ρ [g] (x :: xs) (v :: ys)
 | deep {ρ ρ' g g2 gs x xs zs us ys} (hb : sS g.target x ρ ρ') (ht : qM K ρ' g.ifs true) (hs : o7 K.ow g2.iter = true) (hi : xQ K ρ' g2.iter zs) (hd : Cr K elt ρ' (g2 :: gs) zs us) (h : Cr K elt ρ (g :: g2 :: gs) xs ys) : Cr K elt ρ (g :: g2 :: gs) (x :: xs) (us ++ ys)
structure Kx (S : Addr -> Prop) (G : Fz) (s : Shared) (G' : Fz) (s' : Shared) : Prop where
 eq : ∃ h tk, s' = { s with heap := h, toks := tk }
 kp : ∀ b o, ¬ S b -> s.heap.get? b = some o -> s'.heap.get? b = some o
 old : ∀ b o, ¬ S b -> s.heap.get? b = some o -> G' b = G b
 le : G.le G'
 sub : G'.sub s'.heap
section
variable {G G' G'' : Fz} {s s' s'' : Shared} {S S' : Addr -> Prop} {W : Wo}
theorem Kx.trans (x : Kx S G s G' s') (y : Kx S' G' s' G'' s'') (hs : ∀ b, S' b -> S b \/ s.heap.get? b = none) : Kx S G s G'' s'' where
 eq := by
  obtain ⟨h, tk, rfl⟩ := x.eq
  obtain ⟨h', tk', rfl⟩ := y.eq
  exact ⟨h', tk', rfl⟩
 kp := λ b o hb e => y.kp b o (λ h => (hs b h).elim hb λ n => by rw [n] at e; cases e) (x.kp b o hb e)
 old := λ b o hb e => (y.old b o (λ h => (hs b h).elim hb λ n => by rw [n] at e; cases e) (x.kp b o hb e)).trans (x.old b o hb e)
 le := x.le.trans y.le
 sub := y.sub
theorem Kx.rfl (sub : G.sub s.heap) : Kx (λ _ => False) G s G s := ⟨⟨_, _, _root_.rfl⟩, λ _ _ _ e => e, λ _ _ _ _ => _root_.rfl, Fz.le.rfl, sub⟩
theorem Go.kx (g : Go G s G' s') : Kx S G s G' s' := ⟨by obtain ⟨h, tk, e, _⟩ := g.k; exact ⟨h, tk, e⟩, λ _ _ _ e => g.get e, λ b o _ e => g.u.old b o e, g.u.le, g.u.sub⟩
theorem tS {a : Addr} {h' : Heap} {tk : Nat} (sub : G.sub s.heap) (g : G a = none) (e : ∀ b o, b ≠ a -> s.heap.get? b = some o -> h'.get? b = some o) (hs : S a) : Kx S G s G { s with heap := h', toks := tk } :=
 ⟨⟨_, _, rfl⟩, λ b o hb => e b o λ q => hb (q ▸ hs), λ _ _ _ _ => rfl, Fz.le.rfl, λ b o q => e b o (by rintro rfl; rw [g] at q; cases q) (sub b o q)⟩
theorem Kx.sub' (x : Kx S G s G' s') (hs : ∀ b, S b -> S' b) : Kx S' G s G' s' := ⟨x.eq, λ b o hb => x.kp b o λ h => hb (hs b h), λ b o hb => x.old b o λ h => hb (hs b h), x.le, x.sub⟩
theorem Hx {own : List Addr} (k : KB own s s') (u : Up G s.heap G' s'.heap) (hs : ∀ b ∈ own, S b) : Kx S G s G' s' := ⟨by obtain ⟨h, tk, e, _⟩ := k; exact ⟨h, tk, e⟩, λ b o hb => k.get λ h => hb (hs b h), λ b o _ => u.old b o, u.le, u.sub⟩
theorem s4.to {I : Addr} {own src : List Addr} {xs : List PV} {t : Bool} {h h' : Heap} (i : s4 W G h I own src xs t) (L : Lt own src G h G' h') : s4 W G' h' I own src xs t := by
 refine ⟨⟨Fz.le.rfl, L.sub, L.nn, λ _ _ _ e => e⟩, λ b hb => (by obtain ⟨o, ho⟩ := i.al b hb; exact ⟨o, L.kp b o hb ho⟩), ?_⟩
 cases xs with
 | nil => exact λ A G₂ s₂ E Q L₂ => i.nx A G₂ s₂ E Q (L.trans L₂)
 | cons x xs => exact λ A G₂ s₂ E Q tg L₂ => i.nx A G₂ s₂ E Q tg (L.trans L₂)
theorem s4.later {I : Addr} {own src : List Addr} {xs : List PV} {t : Bool} (i : s4 W G s.heap I own src xs t) (k : Kx S G s G' s') (hS : ∀ b, b ∈ own \/ b ∈ src -> ¬ S b) : s4 W G' s'.heap I own src xs t :=
 i.to ⟨k.le, k.sub, λ b hb => by obtain ⟨o, ho⟩ := i.al b (.inl hb); rw [k.old b o (hS b (.inl hb)) ho]; exact i.lt.nn b hb, λ b o hb e => k.kp b o (hS b hb) e⟩
theorem s4.next {A : Around} {I : Addr} {own src : List Addr} {x : PV} {xs : List PV} {t : Bool} {E Q : Value -> Shared -> Prop} {target : Expr} (i : s4 W G s.heap I own src (x :: xs) t) (ht : t = true -> BV target) (hQ : ∀ v s' G', Kx (· ∈ own) G s G' s' -> VR W G' x v -> s4 W G' s'.heap I own src xs t -> Q v s') :
  wpAny (Mo W) A (pyNext (.ref I)) (λ r s₁ => match r with | none => False | some v => wpAny (Mo W) A (letOwnedTupleGo target (.ref I) v) (λ _ s₂ => Q v s₂) E s₁) E s :=
 i.nx A G s E Q target i.lt ht λ v s' G' kb u hv gd nx =>
  hQ v s' G' (Hx kb u λ _ h => h) hv ⟨⟨Fz.le.rfl, u.sub, λ b hb => (gd b hb).1, λ _ _ _ e => e⟩, λ b hb => by
   by_cases h : b ∈ own
   ·exact (gd b h).2
   ·obtain ⟨o, ho⟩ := i.al b hb; exact ⟨o, kb.get h ho⟩, nx⟩
theorem s4.done {A : Around} {I : Addr} {own src : List Addr} {t : Bool} {E : Value -> Shared -> Prop} {Q : Option Value -> Shared -> Prop} (i : s4 W G s.heap I own src [] t) (hh : A.handled = none) (hQ : ∀ s', Kx (· ∈ own) G s G s' -> Q none s') : wpAny (Mo W) A (pyNext (.ref I)) Q E s :=
 i.nx A G s E Q i.lt hh λ s' kb => hQ s' (Hx kb (by obtain ⟨h, tk, rfl, k⟩ := kb; exact BC i.lt.sub i.lt.nn k) λ _ h => h)
end
section
variable {W : Wo} {K : Ky} {c : Cf K} {ρ ρ' ρb : En} {G G' Gb : Fz} {A : Around} {s s' sb : Shared} {h h' : Heap} {env : Env} {D : Addr} {m m' : Str -> Option Value} {acc acc' : List PV} {room room' : Nat} {lam lam' : List (Str × PV)}
theorem Ew {elt : Expr} {gens : List Comprehension} {scope : Scope} {pos : Pos} {d : Nat} {g : Comprehension} {it acc : Value} {R : Result -> Shared -> Prop} {K : Shared -> Prop} (hg : gens[d]? = some g) (ha : g.is_async = 0)
  (hset : ∀ g', gens[d + 1]? = some g' -> g'.is_async = 0 /\ ∀ env x, foldedSetIterable g'.iter env x = pure x)
  (h : wpAny (Mo W) A (pyNext it) (λ r s₁ => match r with
   | none => R (.ok .next) s₁
   | some v => wpAny (Mo W) A (letOwnedTupleGo g.target it v) (λ _ s₂ => wpAny (Mo W) A (assign g.target env v) (λ _ s₃ =>
     wpAny (Mo W) A (forIn g.ifs true λ c r => if r = true then do let ok <- isTrue c env (eval c env); pure (ForInStep.yield ok) else pure (ForInStep.yield r)) (λ ok s₄ =>
      if ok = true then (match gens[d + 1]? with
       | none => wpAny (Mo W) A (eval elt env) (λ x s₅ => wpAny (Mo W) A (call (.builtin "list.append") [acc, x]) (λ _ s₆ => K s₆) No s₅) No s₄
       | some g' => wpAny (Mo W) A (eval g'.iter env) (λ x s₅ => wpAny (Mo W) A (pyIter x) (λ it' s₆ => codeAny (Mo W) A (.compStart (.ListComp elt gens scope pos) (d + 1) it' acc env) (λ r s' => match r with | .ok _ => K s' | .error _ => False) s₆) No s₅) No s₄)
      else K s₄) No s₃) No s₂) No s₁) No s)
  (hK : ∀ s', K s' -> codeAny (Mo W) A (.compLoop (.ListComp elt gens scope pos) d it acc env) R s') :
  codeAny (Mo W) A (.compLoop (.ListComp elt gens scope pos) d it acc env) R s := by
 refine fm ?_
 show wpAny _ A ((compTurn (.ListComp elt gens scope pos) d it acc env).onRaise (λ x => do noteFrame x env; theTreesLotGoes x)) _ _ s
 refine kI ?_
 delta compTurn
 simp only [hg, ha]
 refine aa (aI (aa (oX h (λ r s₁ h₁ => ?_))))
 cases r with
 | none => exact ai h₁
 | some v =>
  refine aa (oX h₁ λ _ s₂ h₂ => ?_)
  refine aa (oX h₂ λ _ s₃ h₃ => ?_)
  refine aa (oX h₃ λ ok s₄ h₄ => ?_)
  cases ok with
  | false =>
   simp only [bB, if_false] at h₄ |-
   exact ai ⟨rfl, hK _ h₄⟩
  | true =>
   simp only [if_true] at h₄ |-
   cases hg' : gens[d + 1]? with
   | none =>
    rw [hg'] at h₄
    refine aa (aa (oX h₄ λ x s₅ h₅ => aa (oX h₅ λ _ s₆ h₆ => ai (ai ⟨rfl, hK _ h₆⟩))))
   | some g' =>
    rw [hg'] at h₄
    obtain ⟨ha', hs'⟩ := hset g' hg'
    simp only [ha']
    refine aa (oX h₄ λ x s₅ h₅ => aa (aI (aa (dq (hs' env x) (aa (aO (oX h₅ λ it' s₆ h₆ => aa (wpAny_runOwn ?_))))))))
    rw [Around.mark_none]
    refine iu h₆ λ r s₇ h₇ => ?_
    cases r with
    | ok f => exact ai ⟨rfl, hK _ h₇⟩
    | error e => exact h₇.elim
theorem Aj {elt : Expr} {gens : List Comprehension} {scope : Scope} {pos : Pos} {d : Nat} {g : Comprehension} {it acc : Value} {R : Result -> Shared -> Prop} (hg : gens[d]? = some g) (ha : g.is_async = 0)
  (h0 : codeAny (Mo W) A (.compLoop (.ListComp elt gens scope pos) d it acc env) R s)
  (h : wpAny (Mo W) A (pyIter it) (λ it' s' => codeAny (Mo W) A (.compLoop (.ListComp elt gens scope pos) d it' acc env) R s') No s) :
  codeAny (Mo W) A (.compStart (.ListComp elt gens scope pos) d it acc env) R s := by
 refine fm ?_
 show wpAny _ _ ((compStart (.ListComp elt gens scope pos) d it acc env).onRaise (λ x => do noteFrame x env; standAt theWindowsPlace)) _ _ s
 refine wpAny_notedAt ?_
 delta compStart
 have hc : (clausesOf (.ListComp elt gens scope pos))[d]? = some g := hg
 simp only [hc, Option.elim, ha]
 show wpAny _ _ (ask >>= _) _ _ s
 refine aa (wpAny_askSetting (wpAny_ite ?_))
 split
 ·first
   | exact aa (ai (ai (ji rfl h0)))
   | exact ai (ji rfl h0)
 ·refine aa (jl ?_)
  first
   | exact aa (aI (aa (oX h λ it' s' h' => ai (ji rfl h'))))
   | (show wpAny _ _ (standAt g.iter.pos >>= _) _ _ s; exact aa (aI (aa (oX h λ it' s' h' => ai (ji rfl h')))))
theorem Ar {env : Env} {ifs : List Expr} {Q : Bool -> Shared -> Prop} {E : Value -> Shared -> Prop} (hQ : Q false s) :
  wpAny (Mo W) A (forIn ifs false λ c r => if r = true then do let ok <- isTrue c env (eval c env); pure (ForInStep.yield ok) else pure (ForInStep.yield r)) Q E s := by
 induction ifs with
 | nil => exact ai hQ
 | cons e es ih =>
  rw [io]
  simp only [bB, if_false]
  exact aa (ai ih)
noncomputable def zE (lam : List (Str × PV)) : En := lam.map λ p => (p.1, some p.2)
theorem I5 {lam : List (Str × PV)} {ρ : En} {x : Str} : En.get (zE lam ++ ρ) x = match lam.lookup x with | some p => some p | none => En.get ρ x := by
 delta En.get zE
 induction lam with
 | nil => rfl
 | cons a r ih =>
  obtain ⟨y, p⟩ := a
  simp only [bE, ie, au]
  cases hxy : (x == y) with
  | true => rfl
  | false => exact ih
noncomputable def rF (W : Wo) (G : Fz) (m : Str -> Option Value) (lam : List (Str × PV)) : Prop := ∀ x p, lam.lookup x = some p -> ∃ v, m x = some v /\ VR W G p v
theorem rF.mono (l : rF W G m lam) (le : G.le G') : rF W G' m lam := λ x p h => (by obtain ⟨v, a, b⟩ := l x p h; exact ⟨v, a, VR.mono le _ _ b⟩)
theorem tN {lam : List (Str × PV)} {x : Str} {p : PV} (h : lam.lookup x = some p) : x ∈ lam.map (·.1) := by
 induction lam with
 | nil => cases h
 | cons a r ih =>
  obtain ⟨y, q⟩ := a
  rw [au] at h
  cases e : (x == y) with
  | true => rw [be e]; exact .head _
  | false => rw [e] at h; exact .tail _ (ih h)
theorem rF.frame (l : rF W G m lam) (e : ∀ x ∈ lam.map (·.1), m' x = m x) : rF W G m' lam := λ x p h => (by obtain ⟨v, a, b⟩ := l x p h; exact ⟨v, (e x (tN h)).trans a, b⟩)
noncomputable abbrev O5 (m : Str -> Option Value) (x : Str) (v : Value) : Str -> Option Value := λ y => if y = x then some v else m y
theorem rF.cons {x : Str} {p : PV} {v : Value} (hl : rF W G m lam) (hp : VR W G p v) : rF W G (O5 m x v) ((x, p) :: lam) := λ y q hq => by
 rw [au] at hq
 by_cases e : y = x
 ·subst e
  rw [beq_self_eq_true] at hq
  cases hq
  exact ⟨v, if_pos rfl, hp⟩
 ·rw [beq_eq_false_iff_ne.mpr e] at hq
  obtain ⟨u, hu, hr⟩ := hl y q hq
  exact ⟨u, (if_neg e).trans hu, hr⟩
theorem vB {x : Str} {v : Value} {E : Value -> Shared -> Prop} {Q : Unit -> Shared -> Prop} {pos : Pos} (hk : env.kindOf x = some .local) (hf : env.scope.kind = .function) (hn : s.heap.Ns env.locals m) (sub : G.sub s.heap) (hg : G env.locals = none)
  (hQ : ∀ s', Kx (· = env.locals) G s G s' -> s'.heap.Ns env.locals (O5 m x v) -> Q () s') : wpAny (Mo W) A (assign (.Name x pos) env v) Q E s :=
 cZ (cM hk hn (λ h' hn' hs' => hQ _ (tS sub hg hs'.extBut rfl) hn') (by rw [hf]; rfl))
theorem EJ {t : Expr} {p : PV} {v : Value} (hh : c.A.handled = none) (hl : ∀ x ∈ tn t, c.env.kindOf x = some .local) (hb : sS t p (zE lam ++ ρ) ρ') (sub : G.sub s.heap) (hg : G c.env.locals = none) (hp : VR c.W G p v) (hn : s.heap.Ns c.env.locals m) (lm : rF c.W G m lam) {Q : Unit -> Shared -> Prop}
  (hQ : ∀ s' m' lam', Kx (· = c.env.locals) G s G s' -> s'.heap.Ns c.env.locals m' -> (∀ y, y ∉ tn t -> m' y = m y) -> ρ' = zE lam' ++ ρ -> rF c.W G m' lam' -> (∀ y ∈ lam'.map (·.1), y ∈ tn t \/ y ∈ lam.map (·.1)) -> Q () s') : wpAny (Mo c.W) c.A (assign t c.env v) Q No s := by
 generalize hr : zE lam ++ ρ = r at hb
 cases hb with
 | one =>
  subst hr
  exact vB (hl _ (.head _)) c.kind hn sub hg λ s' k hn' => hQ s' _ ((_, p) :: lam) k hn' (λ y hy => if_neg (by rintro rfl; exact hy (.head _))) rfl (lm.cons hp) λ y hy => (ag.mp hy).imp (by rintro rfl; exact .head _) id
 | @two x y _ _ _ _ a b _ =>
  subst hr
  obtain ⟨t, vs, n, rfl, hg', ⟨v1, _, rfl, r1, v2, _, rfl, r2, e⟩, _⟩ := hp
  cases (show _ = _ from e)
  rw [gg]
  refine aa (aI (lj hh (oF (sub _ _ hg')) rfl (by rfl) λ h' he => ?_))
  have k1 : Go G s G { s with heap := h' } := nZ (t := s.toks) sub λ b o e => he b o (aE (aR e)) e
  have hn1 : h'.Ns c.env.locals m := hn.at' λ o e => k1.get e
  show wpAny _ _ (assignInOrder [assign (.Name x _) c.env, assign (.Name y _) c.env] [v1, v2]) _ _ _
  refine dg (vB (s := { s with heap := h' }) (hl _ (.tail _ (.head _))) c.kind hn1 k1.u.sub hg λ s2 k2 hn2 => dg (vB (hl _ (.head _)) c.kind hn2 k2.sub hg λ s3 k3 hn3 => fV ?_))
  refine hQ s3 _ ((y, b) :: (x, a) :: lam) ((k1.kx.trans k2 λ _ h => .inl h).trans k3 λ _ h => .inl h) hn3 (λ z hz => ?_) rfl ((lm.cons r1).cons r2) λ z hz => ?_
  ·exact (if_neg (by rintro rfl; exact hz (.head _))).trans (if_neg (by rintro rfl; exact hz (.tail _ (.head _))))
  ·rcases ag.mp hz with rfl | hz
   ·exact .inl (.head _)
   ·exact (ag.mp hz).imp (by rintro rfl; exact .tail _ (.head _)) id
structure CB (c : Cf K) (ρb : En) (Gb : Fz) (sb : Shared) (D : Addr) : Prop where
 es : ES c ρb Gb sb
 loc : ∀ x, K.sc.lookup x = some .local -> c.env.kindOf x = some .local
 fC : sb.heap.get? c.env.locals = none
 fD : sb.heap.get? D = none
 CD : c.env.locals ≠ D
 hh : c.A.handled = none
inductive DL (W : Wo) (G : Fz) (h : Heap) (D : Addr) (acc : List PV) (room : Nat) : Prop
 | mk (us : List Value) (n : Nat) (g : h.get? D = some (lObj us n)) (r : nG W G acc us) (c : us.length + room <= cap)
structure CS (c : Cf K) (Gb : Fz) (sb : Shared) (D : Addr) (lam : List (Str × PV)) (G : Fz) (s : Shared) (m : Str -> Option Value) (acc : List PV) (room : Nat) : Prop where
 kp : ∀ b o, sb.heap.get? b = some o -> s.heap.get? b = some o
 le : Gb.le G
 old : ∀ b o, sb.heap.get? b = some o -> G b = Gb b
 sub : G.sub s.heap
 ns : s.heap.Ns c.env.locals m
 lm : rF c.W G m lam
 gC : G c.env.locals = none
 gD : G D = none
 dl : DL c.W G s.heap D acc room
theorem xh (n : h.Ns env.locals m) : ∃ o, h.get? env.locals = some o := (by obtain ⟨o, _, _, ho, _⟩ := n; exact ⟨o, ho⟩)
theorem CS.es (B : CB c ρb Gb sb D) (L : CS c Gb sb D lam G s m acc room) (hl : ∀ x ∈ lam.map (·.1), K.sc.lookup x = some .local) (ho : ∀ x ∈ lam.map (·.1), K.ow.contains x = false) : ES c (zE lam ++ ρb) G s where
 base := λ b o e => L.kp b o (B.es.base b o e)
 sub := L.sub
 var := λ x p hx hr hv => by
  rw [I5] at hr
  cases hlk : lam.lookup x with
  | some q =>
   rw [hlk] at hr
   refine mL λ gk => ?_
   cases hr
   obtain ⟨v, hm, hp⟩ := L.lm x _ hlk
   refine gk ?_
   refine ⟨v, .inl ⟨B.loc x (hl x (tN hlk)), m, L.ns, hm⟩, ?_⟩
   rw [ho x (tN hlk)]
   exact hp
  | none =>
   rw [hlk] at hr
   refine mL λ gk => ?_
   obtain ⟨v, l, q⟩ := B.es.var x p hx hr hv
   refine gk ?_
   refine ⟨v, l.keep L.kp, ?_⟩
   revert q
   cases K.ow.contains x with
   | true => exact λ q => VW.keep q ⟨L.le, L.sub, L.old⟩ L.kp
   | false => exact VR.mono L.le _ _
theorem CS.step {S : Addr -> Prop} (L : CS c Gb sb D lam G s m acc room) (k : Kx S G s G' s') (hS : ∀ b, S b -> sb.heap.get? b = none) (ns : s'.heap.Ns c.env.locals m') (lm : rF c.W G' m' lam') (gC : G' c.env.locals = none) (gD : G' D = none) (dl : DL c.W G' s'.heap D acc' room') : CS c Gb sb D lam' G' s' m' acc' room' where
 kp := λ b o e => k.kp b o (λ h => by rw [hS b h] at e; cases e) (L.kp b o e)
 le := L.le.trans k.le
 old := λ b o e => (k.old b o (λ h => by rw [hS b h] at e; cases e) (L.kp b o e)).trans (L.old b o e)
 sub := k.sub
 ns := ns
 lm := lm
 gC := gC
 gD := gD
 dl := dl
theorem CS.keep {S : Addr -> Prop} (L : CS c Gb sb D lam G s m acc room) (k : Kx S G s G' s') (hS : ∀ b, S b -> sb.heap.get? b = none) (nC : ¬ S c.env.locals) (nD : ¬ S D) : CS c Gb sb D lam G' s' m acc room := by
 refine mL λ gk => ?_
 obtain ⟨us, n, g, r, cc⟩ := L.dl
 obtain ⟨o, ho⟩ := xh L.ns
 refine gk ?_
 exact L.step k hS (L.ns.at' λ o => k.kp _ o nC) (L.lm.mono k.le) ((k.old _ _ nC ho).trans L.gC) ((k.old _ _ nD g).trans L.gD) ⟨us, n, k.kp _ _ nD g, r.mono k.le, cc⟩
theorem CS.go (L : CS c Gb sb D lam G s m acc room) (g : Go G s G' s') : CS c Gb sb D lam G' s' m acc room := L.keep (S := λ _ => False) g.kx (λ _ h => h.elim) id id
theorem HK {es : List Expr} {b : Bool} (h : qM K ρ es b) (S : ES c ρ G s) :
  wpAny (Mo c.W) c.A (forIn es true λ e r => if r = true then do let ok <- isTrue e c.env (eval e c.env); pure (ForInStep.yield ok) else pure (ForInStep.yield r)) (λ r s' => r = b /\ ∃ G', Go G s G' s') No s := by
 induction h generalizing G s with
 | nil => exact ai ⟨rfl, G, Go.rfl S.sub⟩
 | @cons e es x y h g ih =>
  rw [io, if_pos rfl]
  refine aa (h.bind S λ s' G' g₁ S' => ai ?_)
  cases x with
  | false => exact Ar ⟨rfl, G', g₁⟩
  | true => exact oX (ih rfl S') (by rintro _ _ ⟨hb, G'', g₂⟩; exact ⟨hb, G'', g₁.trans g₂⟩)
end
section
variable {W : Wo} {K : Ky} {c : Cf K} {ρ ρ' ρb : En} {G G' Gb : Fz} {A : Around} {s s' sb : Shared} {h h' : Heap} {env : Env} {D : Addr} {m m' : Str -> Option Value} {acc acc' : List PV} {room room' : Nat} {lam lam' : List (Str × PV)}
theorem x0 : ∀ {a b : List Str}, nV (a ++ b) = true -> nV b = true /\ ∀ x ∈ a, x ∉ b := by
 intro l_
 induction l_ with
 | nil =>
  rintro b h
  exact ⟨h, λ x hx => by cases hx⟩
 | cons y a ih =>
  rintro b h
  obtain ⟨h0, h1⟩ := bL.mp (show (!(a ++ b).contains y && nV (a ++ b)) = true from h)
  have h0 : y ∉ a ++ b := λ hm => by rw [eD.mpr hm] at h0; cases h0
  obtain ⟨h1, h2⟩ := ih h1
  refine ⟨h1, λ x hx => ?_⟩
  rcases ag.mp hx with rfl | hx
  ·exact λ h => h0 (aq _ h)
  ·exact h2 x hx
structure wJ (sc : Sc) (ow : List Str) (g : Comprehension) : Prop where
 as : g.is_async = 0
 loc : ∀ x ∈ tn g.target, sc.lookup x = some .local
 ow : ∀ x ∈ tn g.target, ow.contains x = false
 tup : sr g.iter = true -> BV g.target
 set : ∀ env x, foldedSetIterable g.iter env x = pure x
theorem z3 {elt : Expr} {gens : List Comprehension} {g : Comprehension} {scope : Scope} {pos : Pos} {d : Nat} {I : Addr} {own src : List Addr} {t b : Bool} {x : PV} {xs : List PV} {R : Result -> Shared -> Prop} (hg : gens[d]? = some g) (go : wJ K.sc K.ow g) (hset : ∀ g', gens[d + 1]? = some g' -> wJ K.sc K.ow g')
  (B : CB c ρb Gb sb D) (L : CS c Gb sb D lam G s m acc room) (hl : ∀ x ∈ lam.map (·.1), K.sc.lookup x = some .local /\ K.ow.contains x = false) (i : s4 c.W G s.heap I own src (x :: xs) t) (ht : t = true -> BV g.target) (hfr : ∀ b, b ∈ own \/ b ∈ src -> b ≠ c.env.locals /\ b ≠ D) (hfo : ∀ b ∈ own, sb.heap.get? b = none)
  (hb : sS g.target x (zE lam ++ ρb) ρ') (hand : qM K ρ' g.ifs b)
  (h : ∀ s' G' m' lam', Kx (λ b => b = c.env.locals \/ b ∈ own) G s G' s' -> CS c Gb sb D lam' G' s' m' acc room -> ES c ρ' G' s' -> ρ' = zE lam' ++ ρb -> (∀ y, y ∉ tn g.target -> m' y = m y) -> (∀ y ∈ lam'.map (·.1), y ∈ tn g.target \/ y ∈ lam.map (·.1)) -> s4 c.W G' s'.heap I own src xs t ->
   if b = true then (match gens[d + 1]? with
       | none => wpAny (Mo c.W) c.A (eval elt c.env) (λ x s₅ => wpAny (Mo c.W) c.A (call (.builtin "list.append") [.ref D, x]) (λ _ s₆ => codeAny (Mo c.W) c.A (.compLoop (.ListComp elt gens scope pos) d (.ref I) (.ref D) c.env) R s₆) No s₅) No s'
       | some g' => wpAny (Mo c.W) c.A (eval g'.iter c.env) (λ x s₅ => wpAny (Mo c.W) c.A (pyIter x) (λ it' s₆ => codeAny (Mo c.W) c.A (.compStart (.ListComp elt gens scope pos) (d + 1) it' (.ref D) c.env) (λ r s' => match r with | .ok _ => codeAny (Mo c.W) c.A (.compLoop (.ListComp elt gens scope pos) d (.ref I) (.ref D) c.env) R s' | .error _ => False) s₆) No s₅) No s')
      else codeAny (Mo c.W) c.A (.compLoop (.ListComp elt gens scope pos) d (.ref I) (.ref D) c.env) R s') :
  codeAny (Mo c.W) c.A (.compLoop (.ListComp elt gens scope pos) d (.ref I) (.ref D) c.env) R s := by
 refine Ew (K := λ s' => codeAny (Mo c.W) c.A (.compLoop (.ListComp elt gens scope pos) d (.ref I) (.ref D) c.env) R s') hg go.as (λ g' hg' => ⟨(hset g' hg').as, (hset g' hg').set⟩) ?_ λ _ h => h
 refine ay (i.next ht (E := No) (Q := λ v s₁ => wpAny (Mo c.W) c.A (assign g.target c.env v) (λ _ s₃ => wpAny (Mo c.W) c.A (forIn g.ifs true λ e r => if r = true then do let ok <- isTrue e c.env (eval e c.env); pure (ForInStep.yield ok) else pure (ForInStep.yield r)) (λ ok s₄ =>
   if ok = true then (match gens[d + 1]? with
       | none => wpAny (Mo c.W) c.A (eval elt c.env) (λ x s₅ => wpAny (Mo c.W) c.A (call (.builtin "list.append") [.ref D, x]) (λ _ s₆ => codeAny (Mo c.W) c.A (.compLoop (.ListComp elt gens scope pos) d (.ref I) (.ref D) c.env) R s₆) No s₅) No s₄
       | some g' => wpAny (Mo c.W) c.A (eval g'.iter c.env) (λ x s₅ => wpAny (Mo c.W) c.A (pyIter x) (λ it' s₆ => codeAny (Mo c.W) c.A (.compStart (.ListComp elt gens scope pos) (d + 1) it' (.ref D) c.env) (λ r s' => match r with | .ok _ => codeAny (Mo c.W) c.A (.compLoop (.ListComp elt gens scope pos) d (.ref I) (.ref D) c.env) R s' | .error _ => False) s₆) No s₅) No s₄)
      else codeAny (Mo c.W) c.A (.compLoop (.ListComp elt gens scope pos) d (.ref I) (.ref D) c.env) R s₄) No s₃) No s₁) λ v s₁ G₁ k₁ hv i₁ => ?_) (λ r s₁ hr => by cases r with | none => exact hr.elim | some v => exact hr) λ _ _ e => e
 have L₁ := L.keep k₁ hfo (λ h => (hfr _ (.inl h)).1 rfl) λ h => (hfr _ (.inl h)).2 rfl
 refine EJ B.hh (λ x hx => B.loc x (go.loc x hx)) hb L₁.sub L₁.gC hv L₁.ns L₁.lm λ s₂ m₂ lam₂ k₂ ns₂ em hρ lm₂ nm => ?_
 obtain ⟨us, n, gd, rr, cc⟩ := L₁.dl
 have nD : D ≠ c.env.locals := Ne.symm B.CD
 have gC₂ : G₁ c.env.locals = none := L₁.gC
 have L₂ := L₁.step k₂ (λ b e => by rw [e]; exact B.fC) ns₂ lm₂ gC₂ L₁.gD ⟨us, n, k₂.kp _ _ nD gd, rr, cc⟩
 have hl₂ : ∀ y ∈ lam₂.map (·.1), K.sc.lookup y = some .local /\ K.ow.contains y = false := λ y hy => (nm y hy).elim (λ h => ⟨go.loc y h, go.ow y h⟩) (hl y)
 have E₂ : ES c ρ' G₁ s₂ := hρ ▸ L₂.es B (λ y hy => (hl₂ y hy).1) λ y hy => (hl₂ y hy).2
 have i₂ := i₁.later k₂ λ b hb e => (hfr b hb).1 e
 refine oX (HK hand E₂) λ r s₃ ⟨hr, G₃, g₃⟩ => ?_
 subst hr
 have := h s₃ G₃ m₂ lam₂ (((k₁.sub' λ b hb => .inr hb).trans k₂ λ _ e => .inl (.inl e)).trans g₃.kx (S' := λ _ => False) λ _ h => h.elim) (L₂.go g₃) (E₂.go g₃) hρ em nm (i₂.later (S := λ _ => False) g₃.kx λ _ _ => id)
 exact this
end
section
variable {W : Wo} {K : Ky} {c : Cf K} {ρ ρ' ρb : En} {Gb : Fz} {sb : Shared} {D : Addr}
theorem EO.disj {G G' : Fz} {s s' : Shared} {own src : List Addr} {st : Bool} (g : Go G s G' s') (ho : ∀ b ∈ own, s.heap.get? b = none) (hs : st = true -> ∀ b ∈ src, G' b ≠ none \/ s.heap.get? b = none) (e : st = true) {a : Addr} {o : Obj} (ha : s.heap.get? a = some o) (ga : G a = none) : ∀ b, b ∈ own \/ b ∈ src -> b ≠ a := λ b hb q => by
 subst q
 rcases hb with hb | hb
 ·rw [ho b hb] at ha; cases ha
 ·rcases hs e b hb with h | h
  ·exact h ((g.u.old b o ha).trans ga)
  ·rw [h] at ha; cases ha
theorem Jj {elt : Expr} {gens gs : List Comprehension} {scope : Scope} {pos : Pos} {ρ : En} {xs ys : List PV} (C : Cr K elt ρ gs xs ys) (B : CB c ρb Gb sb D) : ∀ {d : Nat} {lam : List (Str × PV)} {G : Fz} {s : Shared} {m : Str -> Option Value} {acc : List PV} {room : Nat} {I : Addr} {own src : List Addr} {t : Bool} {R : Result -> Shared -> Prop},
  ρ = zE lam ++ ρb -> gens.drop d = gs -> (∀ g ∈ gs, wJ K.sc K.ow g) -> nV (Jv gs) = true -> (∀ x ∈ lam.map (·.1), x ∉ Jv gs) -> (∀ x ∈ lam.map (·.1), K.sc.lookup x = some .local /\ K.ow.contains x = false) -> CS c Gb sb D lam G s m acc (room + ys.length) -> s4 c.W G s.heap I own src xs t -> (∀ g r, gs = g :: r -> t = true -> BV g.target) ->
  (∀ b, b ∈ own \/ b ∈ src -> b ≠ c.env.locals /\ b ≠ D) -> (∀ b ∈ own, sb.heap.get? b = none) ->
  (∀ s' G' m', Kx (λ b => b = c.env.locals \/ b = D \/ b ∈ own) G s G' s' -> CS c Gb sb D lam G' s' m' (acc ++ ys) room -> (∀ x, x ∉ Jv gs -> m' x = m x) -> R (.ok .next) s') ->
  codeAny (Mo c.W) c.A (.compLoop (.ListComp elt gens scope pos) d (.ref I) (.ref D) c.env) R s := by
 induction C with
 | @nil ρ g gs =>
  intro d lam G s m acc room I own src t R hρ hd hok hnd hl0 hl L i ht hfr hfo hR
  have hgd : gens[d]? = some g := (oI hd).1
  have go := hok g (.head _)
  refine Ew (K := λ s' => codeAny (Mo c.W) c.A (.compLoop (.ListComp elt gens scope pos) d (.ref I) (.ref D) c.env) R s') hgd go.as (λ g' hg' => ?_) (i.done B.hh λ s' k => ?_) λ _ h => h
  ·have hm : g' ∈ g :: gs := by rw [<- hd]; exact cQ (i := 1) (by rw [gR]; exact hg')
   exact ⟨(hok g' hm).as, (hok g' hm).set⟩
  ·have L' := L.keep k hfo (λ h => (hfr _ (.inl h)).1 rfl) λ h => (hfr _ (.inl h)).2 rfl
   exact hR s' G m (k.sub' λ b hb => .inr (.inr hb)) (by rw [cI]; exact L') λ _ _ => rfl
 | @skip ρ ρ' g gs x xs ys hb hand h ih =>
  intro d lam G s m acc room I own src t R hρ hd hok hnd hl0 hl L i ht hfr hfo hR
  subst hρ
  have hgd : gens[d]? = some g := (oI hd).1
  refine z3 hgd (hok g (.head _)) (λ g' hg' => hok g' ?_) B L hl i (ht g gs rfl) hfr hfo hb hand λ s' G' m' lam' k L' E' hρ' em nm i' => ?_
  ·rw [<- hd]; exact cQ (i := 1) (by rw [gR]; exact hg')
  ·have emL : ∀ y ∈ lam.map (·.1), m' y = m y := λ y hy => em y λ h => hl0 y hy (aC _ h)
   exact ih rfl hd hok hnd hl0 hl { L' with lm := (L.lm.mono k.le).frame emL } i' ht hfr hfo λ s₂ G₂ m₂ k₂ L₂ em₂ => hR s₂ G₂ m₂ ((k.sub' λ b hb => hb.imp id .inr).trans k₂ λ b h => .inl h) L₂ λ y hy => (em₂ y hy).trans (em y λ h => hy (aC _ h))
 | @item ρ ρ' g x xs v ys hb hand he h ih =>
  intro d lam G s m acc room I own src t R hρ hd hok hnd hl0 hl L i ht hfr hfo hR
  subst hρ
  obtain ⟨hgd, hd1⟩ := oI hd
  have hnone : gens[d + 1]? = none := by have := Hj hd1; exact this
  refine z3 hgd (hok g (.head _)) (λ g' hg' => by rw [hnone] at hg'; cases hg') B L hl i (ht g [] rfl) hfr hfo hb hand λ s' G' m' lam' k L' E' hρ' em nm i' => ?_
  rw [if_pos rfl, hnone]
  refine Gv.then (he.at E') λ u s₄ G₄ g₄ p₄ => ?_
  have L₄ := L'.go g₄
  obtain ⟨us, n, hD, r, cc⟩ := L₄.dl
  have hlen : us.length + 1 <= cap := ac (a6 (Nat.le_add_left_of_le (bX (bM _))) _) cc
  refine jM (⟨n, hD⟩ : s₄.heap.PlainList D us.toArray) (λ h₅ hl₅ hs₅ => ?_) (by rw [aG]; exact ac (cU hlen) tE)
  obtain ⟨n₅, hD₅⟩ := hl₅
  have k₅ : Kx (· = D) G₄ s₄ G₄ { s₄ with heap := h₅ } := tS (tk := s₄.toks) L₄.sub L₄.gD hs₅.extBut rfl
  have kall := ((k.sub' (S' := λ b => b = c.env.locals \/ b = D \/ b ∈ own) λ b hb => hb.imp id .inr).trans (g₄.kx (S := λ _ => False)) λ _ h => h.elim).trans k₅ λ b e => .inl (.inr (.inl e))
  have emL : ∀ y ∈ lam.map (·.1), m' y = m y := λ y hy => em y λ h => hl0 y hy (aC _ h)
  have L₅ : CS c Gb sb D lam G₄ { s₄ with heap := h₅ } m' (acc ++ [v]) (room + ys.length) := L₄.step k₅ (λ b e => by rw [e]; exact B.fD) (L₄.ns.sameBut hs₅ B.CD) ((L.lm.mono kall.le).frame emL) L₄.gC L₄.gD
   ⟨us ++ [u], n₅, by rw [hD₅]; simp, r.snoc p₄, by rw [aA, cP]; exact ac (a6 (by rw [Nat.add_left_comm, ce ([u].length)]; exact aQ _) _) cc⟩
  have i₅ := (i'.later (S := λ _ => False) g₄.kx λ _ _ => id).later k₅ λ b hb => (hfr b hb).2
  exact ih rfl hd hok hnd hl0 hl L₅ i₅ ht hfr hfo λ s₂ G₂ m₂ k₂ L₂ em₂ => hR s₂ G₂ m₂ (kall.trans k₂ λ b h => .inl h) (by rw [bU] at L₂; exact L₂) λ y hy => (em₂ y hy).trans (em y λ h => hy (aC _ h))
 | @deep ρ ρ' g g2 gs x xs zs us ys hb hand hs hi hd2 h ih2 ih =>
  intro d lam G s m acc room I own src t R hρ hd hok hnd hl0 hl L i ht hfr hfo hR
  subst hρ
  obtain ⟨hgd, hd1⟩ := oI hd
  have hg2 : gens[d + 1]? = some g2 := (oI hd1).1
  have ok2 : ∀ g' ∈ g2 :: gs, wJ K.sc K.ow g' := λ g' h => hok g' (.tail _ h)
  obtain ⟨hnd2, hdis⟩ := x0 hnd
  refine z3 hgd (hok g (.head _)) (λ g' hg' => by rw [hg2] at hg'; cases hg'; exact ok2 _ (.head _)) B L hl i (ht g _ rfl) hfr hfo hb hand λ s' G' m' lam' k L' E' hρ' em nm i' => ?_
  rw [if_pos rfl, hg2]
  have hl' : ∀ y ∈ lam'.map (·.1), K.sc.lookup y = some .local /\ K.ow.contains y = false := λ y hy => (nm y hy).elim (λ h => ⟨(hok g (.head _)).loc y h, (hok g (.head _)).ow y h⟩) (hl y)
  refine oX (hi c G' s' E') λ w s₅ h₅ => oX h₅ λ it s₆ q => ?_
  obtain ⟨G₆, I2, own2, src2, t2, rfl, g₆, i2, sf, ht2, ho2, hs2⟩ := q
  have L₆ := L'.go g₆
  obtain ⟨oC, hoC⟩ := xh L'.ns
  obtain ⟨us', n', hD', _, _⟩ := L'.dl
  have dC := EO.disj g₆ ho2 hs2 hs hoC L'.gC
  have dD := EO.disj g₆ ho2 hs2 hs hD' L'.gD
  have fo2 : ∀ b ∈ own2, sb.heap.get? b = none := λ b hb => by
   cases e : sb.heap.get? b with
   | none => rfl
   | some o => have := L'.kp b o e; rw [ho2 b hb] at this; cases this
  have fin : codeAny (Mo c.W) c.A (.compLoop (.ListComp elt gens scope pos) (d + 1) (.ref I2) (.ref D) c.env) (λ r s' => match r with | .ok _ => codeAny (Mo c.W) c.A (.compLoop (.ListComp elt gens scope pos) d (.ref I) (.ref D) c.env) R s' | .error _ => False) s₆ := by
   refine ih2 hρ' hd1 ok2 hnd2 (λ y hy => (nm y hy).elim (hdis y) λ h h' => hl0 y h (aq _ h')) hl' (room := room + ys.length) (by rw [aA, ce us.length, <- cP] at L₆; exact L₆) i2 (λ g' r e h => by cases e; exact (ok2 _ (.head _)).tup (ht2 h)) (λ b hb => ⟨dC b hb, dD b hb⟩) fo2 λ s₇ G₇ m₇ k₇ L₇ em₇ => ?_
   have dis : ∀ b, b ∈ own \/ b ∈ src -> ¬ (b = c.env.locals \/ b = D \/ b ∈ own2) := λ b hb => by
    rintro (e | e | e)
    ·exact (hfr b hb).1 e
    ·exact (hfr b hb).2 e
    ·obtain ⟨o, ho⟩ := i'.al b hb; rw [ho2 b e] at ho; cases ho
   have i₇ := (i'.later (S := λ _ => False) g₆.kx λ _ _ => id).later k₇ dis
   have kall := ((k.sub' (S' := λ b => b = c.env.locals \/ b = D \/ b ∈ own) λ b hb => hb.imp id .inr).trans (g₆.kx (S := λ _ => False)) λ _ h => h.elim).trans k₇ λ b e => by
    rcases e with e | e | e
    ·exact .inl (.inl e)
    ·exact .inl (.inr (.inl e))
    ·by_cases hb : b ∈ own
     ·exact .inl (.inr (.inr hb))
     ·right
      cases q : s.heap.get? b with
      | none => rfl
      | some o =>
       by_cases hC : b = c.env.locals
       ·exact absurd hC (dC b (.inl e))
       ·have := k.kp b o (λ h => h.elim hC hb) q; rw [ho2 b e] at this; cases this
   have em2 : ∀ y, y ∉ Jv (g :: g2 :: gs) -> m₇ y = m y := λ y hy => (em₇ y λ h => hy (aq _ h)).trans (em y λ h => hy (aC _ h))
   exact ih rfl hd hok hnd hl0 hl { L₇ with lm := (L.lm.mono kall.le).frame λ y hy => em2 y (hl0 y hy) } i₇ ht hfr hfo λ s₂ G₂ m₂ k₂ L₂ em₂ => hR s₂ G₂ m₂ (kall.trans k₂ λ b h => .inl h) (by rw [bU] at L₂; exact L₂) λ y hy => (em₂ y hy).trans (em2 y hy)
  exact Aj hg2 (ok2 _ (.head _)).as fin (sf c.A G₆ s₆ _ _ i2.lt fin)
end
noncomputable def cut (sc : Sc) (ρ : En) : En := ρ.filter λ p => sc.lookup p.1 != some .local
structure zQ (out : Sc) (sc : Scope) : Prop where
 kind : sc.kind = .function
 dbg : ∀ y ∈ sc.names, (y.1 == ("__debug__" : Str)) = false /\ (y.1 == ("__classdict__" : Str)) = false
 nm : ∀ y ∈ sc.names, (y.2 = .local /\ sc.names.lookup y.1 = some .local) \/ (y.2 = .free /\ (out.lookup y.1 = some .cell \/ out.lookup y.1 = some .free)) \/ y.2 = .globalImplicit
section
variable {env : Env}
noncomputable def qZ (env : Env) (l : List (Str × NameKind)) (cs : List (Str × Addr)) : List (Str × Addr) := l.foldl (λ cs y => cond (y.2 == .free) ((y.1, (env.cells.lookup y.1).getD 0) :: cs) cs) cs
theorem tH {scope : Scope} (h : ∀ y ∈ scope.names, y.2 = .free -> ∃ c, env.cells.lookup y.1 = some c) : closureFor scope env = pure (qZ env scope.names []) := by
 unfold closureFor
 have key : ∀ (l : List (Str × NameKind)) (cs : List (Str × Addr)), (∀ y ∈ l, y.2 = .free -> ∃ c, env.cells.lookup y.1 = some c) ->
   (forIn l cs (λ x r => (match x with | (name, kind) => if (kind == NameKind.free) = true then do let c <- cellOf env name; pure (ForInStep.yield ((name, c) :: r)) else pure (ForInStep.yield r))) : Sem (List (Str × Addr))) = pure (qZ env l cs) := by
  intro l
  induction l with
  | nil => intro cs _; rfl
  | cons y r ih =>
   intro cs hl
   obtain ⟨x, kd⟩ := y
   rw [io]
   have hr : ∀ y ∈ r, y.2 = .free -> ∃ c, env.cells.lookup y.1 = some c := λ y hy => hl y (.tail _ hy)
   by_cases hk : kd = .free
   ·subst hk
    obtain ⟨c, hc⟩ := hl (x, .free) (.head _) rfl
    have e : cellOf env x = pure c := by unfold cellOf; rw [hc]
    simp only [beq_self_eq_true, if_true, e, pure_bind]
    rw [ih _ hr]
    show _ = pure (qZ env r ((x, (env.cells.lookup x).getD 0) :: cs))
    rw [hc]; rfl
   ·have hk' : (kd == NameKind.free) = false := by cases kd <;> first | rfl | exact absurd rfl hk
    simp only [hk', bB, if_false, pure_bind]
    rw [ih _ hr]
    cases kd <;> first | rfl | exact absurd rfl hk
 have := key scope.names [] h
 first
  | simpa using this
  | (rw [show (pure (qZ env scope.names []) : Sem _) = _ from this.symm]; rfl)
theorem u5 : ∀ (l : List (Str × NameKind)) (cs : List (Str × Addr)) (x : Str), (∀ c, cs.lookup x = some c -> env.cells.lookup x = some c) -> (∀ y ∈ l, y.2 = .free -> ∃ c, env.cells.lookup y.1 = some c) -> (x, NameKind.free) ∈ l \/ (cs.lookup x).isSome = true ->
  (qZ env l cs).lookup x = env.cells.lookup x := by
 intro l_
 induction l_ with
 | nil =>
  rintro cs x hc _ hx
  rcases hx with hx | hx
  ·cases hx
  ·obtain ⟨c, e⟩ := fz.mp hx
   show cs.lookup x = _
   rw [e, hc c e]
 | cons p_ r ih =>
  obtain ⟨y, kd⟩ := p_
  rintro cs x hc hl hx
  have hr : ∀ y ∈ r, y.2 = .free -> ∃ c, env.cells.lookup y.1 = some c := λ y hy => hl y (.tail _ hy)
  by_cases hk : kd = .free
  ·subst hk
   obtain ⟨c, hcy⟩ := hl (y, .free) (.head _) rfl
   show (qZ env r ((y, (env.cells.lookup y).getD 0) :: cs)).lookup x = _
   refine ih _ x (λ c' e => ?_) hr ?_
   ·simp only [au] at e
    by_cases hxy : x = y
    ·subst hxy
     simp [hcy] at e
     rw [<- e, hcy]
    ·have : (x == y) = false := by simp [hxy]
     rw [this] at e
     exact hc c' e
   ·by_cases hxy : x = y
    ·subst hxy; right; simp [au]
    ·rcases hx with hx | hx
     ·left
      rcases ag.mp hx with hx | hx
      ·cases hx; exact absurd rfl hxy
      ·exact hx
     ·right
      have : (x == y) = false := by simp [hxy]
      simp [au, this, hx]
  ·have e : qZ env ((y, kd) :: r) cs = qZ env r cs := by cases kd <;> first | rfl | exact absurd rfl hk
   rw [e]
   refine ih cs x hc hr ?_
   rcases hx with hx | hx
   ·left
    rcases ag.mp hx with hx | hx
    ·cases hx; exact absurd rfl hk
    ·exact hx
   ·exact .inr hx
theorem m7 {l : List (Str × NameKind)} {x : Str} {kd : NameKind} (h : l.lookup x = some kd) : (x, kd) ∈ l := by
 induction l with
 | nil => cases h
 | cons a r ih =>
  obtain ⟨y, q⟩ := a
  by_cases hxy : x = y
  ·subst hxy
   simp only [au, beq_self_eq_true, mv] at h
   subst h
   exact .head _
  ·have : (x == y) = false := by simp [hxy]
   simp only [au, this] at h
   exact .tail _ (ih h)
theorem qz {scope : Scope} {x : Str} : (relabel scope env).names.lookup x = (scope.names.lookup x).map λ k => if (k == .free && env.scope.kind == .function && env.kindOf x == some .cell) then .cell else k := by
 unfold relabel
 simp only
 induction scope.names with
 | nil => rfl
 | cons a r ih =>
  obtain ⟨y, kd⟩ := a
  simp only [bE]
  by_cases hxy : x = y
  ·subst hxy
   by_cases hc : (kd == .free && env.scope.kind == .function && env.kindOf x == some .cell) = true
   ·rw [if_pos hc]; simp only [au, beq_self_eq_true, ic, if_pos hc]
   ·rw [if_neg hc]; simp only [au, beq_self_eq_true, ic, if_neg hc]
  ·have : (x == y) = false := by simp [hxy]
   by_cases hc : (kd == .free && env.scope.kind == .function && env.kindOf y == some .cell) = true
   ·rw [if_pos hc]; simp only [au, this]; exact ih
   ·rw [if_neg hc]; simp only [au, this]; exact ih
theorem JW {sc : Sc} {ρ : En} {x : Str} {pv : PV} (h : En.get (cut sc ρ) x = some pv) : sc.lookup x ≠ some .local /\ En.get ρ x = some pv := by
 unfold En.get cut at *
 induction ρ with
 | nil => cases h
 | cons a r ih =>
  obtain ⟨y, o⟩ := a
  by_cases hl : sc.lookup y = some .local
  ·have e : (sc.lookup y != some .local) = false := by simp [hl]
   rw [cw, e] at h
   simp only [bB, if_false] at h
   refine mL λ gk => ?_
   obtain ⟨h1, h2⟩ := ih h
   refine gk ?_
   refine ⟨h1, ?_⟩
   have hne : x ≠ y := λ e => h1 (by rw [e]; exact hl)
   have : (x == y) = false := by simp [hne]
   simp only [au, this]; exact h2
  ·have e : (sc.lookup y != some .local) = true := by simp [hl]
   rw [cw, e] at h
   simp only [if_true] at h
   by_cases hxy : x = y
   ·subst hxy
    simp only [au, beq_self_eq_true] at h |-
    exact ⟨hl, h⟩
   ·have : (x == y) = false := by simp [hxy]
    simp only [au, this] at h |-
    exact ih h
theorem zQ.look {out : Sc} {sc : Scope} (h : zQ out sc) {x : Str} (hx : m9 sc.names x = true) : sc.names.lookup x = some .local \/ (sc.names.lookup x = some .free /\ (out.lookup x = some .cell \/ out.lookup x = some .free)) := by
 refine mL λ gk => ?_
 obtain ⟨k, hk⟩ := pM hx
 refine gk ?_
 have hm := m7 hk
 rcases h.nm _ hm with ⟨e, _⟩ | ⟨e, q⟩ | e
 ·left; rw [hk]; exact congrArg some e
 ·right; exact ⟨hk.trans (congrArg some e), q⟩
 ·refine mL λ gk => ?_
  cases (show k = _ from e)
  refine gk ?_
  unfold m9 at hx
  rw [hk] at hx
  cases hx
end
section
variable {W : Wo} {K : Ky} {c : Cf K} {ρ : En} {G G' : Fz} {s s' : Shared} {sc : Scope} {g : Comprehension} {gs : List Comprehension} {elt : Expr} {xs ys : List PV} {p : Pos}
theorem zQ.free (h : zQ K.sc sc) : ∀ y ∈ sc.names, y.2 = .free -> ∃ a, c.env.cells.lookup y.1 = some a := λ y hy hf => by
 rcases h.nm y hy with e | e | e
 ·rw [hf] at e; cases e.1
 ·exact (c.cls y.1 e.2).1
 ·rw [hf] at e; cases e
noncomputable def Cf.comp (c : Cf K) (sc : Scope) (h : zQ K.sc sc) (C : Addr) : Cf (K.to sc.names) :=
 { c with
  env := compEnvC sc (qZ c.env sc.names []) C c.env
  kind := h.kind
  dbg := λ x k hx => (h.dbg _ (m7 hx)).1
  glk := λ x hx => by
   show (relabel sc c.env).names.lookup x = _
   rw [qz, show sc.names.lookup x = _ from hx]; rfl
  cls := λ x hx => by
   have hxf : sc.names.lookup x = some .free := by
    rcases hx with e | e
    ·rcases h.nm _ (m7 e) with q | q | q
     ·cases q.1
     ·cases q.1
     ·cases q
    ·exact e
   obtain ⟨a, ha⟩ := h.free (c := c) _ (m7 hxf) rfl
   refine ⟨⟨a, ?_⟩, ?_⟩
   ·show (qZ c.env sc.names []).lookup x = some a
    rw [u5 sc.names [] x (λ c e => by cases e) h.free (.inl (m7 hxf))]
    exact ha
   ·show (relabel sc c.env).names.lookup x = _ \/ ((relabel sc c.env).names.lookup x = _ /\ _)
    rw [qz, hxf]
    simp only [ic]
    split
    ·exact .inl rfl
    ·exact .inr ⟨rfl, (h.dbg _ (m7 hxf)).2⟩ }
theorem ES.comp (S : ES c ρ G s) (h : zQ K.sc sc) (C : Addr) : ES (c.comp sc h C) (cut sc.names ρ) G s where
 base := S.base
 sub := S.sub
 var := λ x q hx hr hv => by
  obtain ⟨hnl, hr'⟩ := JW hr
  rcases h.look hx with e | ⟨hxf, hout⟩
  ·exact absurd e hnl
  ·obtain ⟨v, l, r⟩ := S.var x q (by unfold m9; rcases hout with e | e <;> rw [e]) hr' hv
   refine ⟨v, ?_, r⟩
   have hce := (c.cls x hout).2
   rcases l with ⟨hk, _⟩ | ⟨hk, a, ha, hv⟩
   ·rw [hk] at hce
    rcases hce with e | e
    ·cases e
    ·cases e.1
   ·refine .inr ⟨((c.comp sc h C).cls x (.inr hxf)).2, a, ?_, hv⟩
    show (qZ c.env sc.names []).lookup x = some a
    rw [u5 sc.names [] x (λ c e => by cases e) h.free (.inl (m7 hxf))]
    exact ha
theorem zw {W : Wo} {h : Heap} (H : Hw W) (st : W.h₀.StaysIn h) : (h.objs.size == sysModules) = false := by
 obtain ⟨o, ho⟩ := H.low
 exact beq_eq_false_iff_ne.mpr λ e => absurd (e ▸ aR (st _ _ ho)) (by decide)
structure OQ (W : Wo) (G : Fz) (s : Shared) (ys : List PV) (C D : Addr) (s' : Shared) (G' : Fz) : Prop where
 g : Go G s G' s'
 fC : s.heap.get? C = none
 fD : s.heap.get? D = none
 gC : G' C = none
 gD : G' D = none
 CD : C ≠ D
 ne : (D == sysModules) = false
 ns : ∃ m, s'.heap.Ns C m
 dl : DL W G' s'.heap D ys 0
noncomputable def Og (W : Wo) (A : Around) (use : Option (Value -> Sem Unit)) (Q : Value -> Shared -> Prop) (C D : Addr) (s' : Shared) : Prop :=
 match use with
 | none => ∀ h', jf C s'.heap h' -> Q (.ref D) { s' with heap := h' }
 | some u => wpAny (Mo W) A (u (.ref D)) (λ _ s'' => ∃ m, s''.heap.Ns C m /\ ∀ h', jf C s''.heap h' -> Q .none { s'' with heap := h' }) No s'
theorem ID {use : Option (Value -> Sem Unit)} {Q : Value -> Shared -> Prop} {pos : Pos} (hk : K.hd = false) (hs : zQ K.sc sc) (hg : ∀ x ∈ g :: gs, wJ sc.names K.ow x) (hn : nV (Jv (g :: gs)) = true) (hi : xQ K ρ g.iter xs) (hc : Cr (K.to sc.names) elt (cut sc.names ρ) (g :: gs) xs ys) (hl : ys.length <= cap) (S : ES c ρ G s)
  (hU : ∀ C D s' G', OQ c.W G s ys C D s' G' -> Og c.W c.A use Q C D s') : wpAny (Mo c.W) c.A (comprehension (.ListComp elt (g :: gs) sc pos) sc c.env p (newList []) (firstAsync (g :: gs)) (firstIter (g :: gs) c.env) use) Q No s := by
 have go := hg g (.head _)
 have hfa : firstAsync (g :: gs) = false := by
  obtain ⟨a, b, c, d⟩ := g
  cases (show d = 0 from go.as)
  rfl
 rw [hfa, show firstIter (g :: gs) c.env = eval g.iter c.env by obtain ⟨_, _, _, _⟩ := g; rfl]
 have hnl : ∀ y ∈ sc.names, y.2 = .local -> sc.names.lookup y.1 = some .local := λ y hy hl => by
  rcases hs.nm y hy with e | e | e
  ·exact e.2
  ·rw [hl] at e; cases e.1
  ·rw [hl] at e; cases e
 have hnc : ∀ y ∈ sc.names, y.2 ≠ .cell := λ y hy hl => by
  rcases hs.nm y hy with e | e | e <;> rw [hl] at e
  ·cases e.1
  ·cases e.1
  ·cases e
 refine wpAny_comprehension_free (use := use) rfl (go.set c.env) (tH hs.free) hs.kind hnl ?_
 refine oX (hi c G s S) λ v s₁ h₁ => oX h₁ λ it s₂ q => ?_
 obtain ⟨G₂, I, own, src, t, rfl, g₂, i, sf, ht, ho, _⟩ := q
 refine cq (dR hnc (by intro y hy; cases hy) (λ h₁ hns₁ hsb₁ => ?_) hs.kind)
 dsimp only at hns₁ hsb₁ |-
 generalize hH : s₂.heap.push { cls := .type "list", dict := none, data := .seq ([] : List Value).toArray } = H at hns₁ hsb₁ |-
 have hCs : H.objs.size = s₂.heap.objs.size + 1 := by rw [<- hH, du]
 have hCD : H.objs.size ≠ s₂.heap.objs.size := by rw [hCs]; exact fP _
 have old : ∀ b o, s₂.heap.get? b = some o -> h₁.get? b = some o := λ b o e => hsb₁.extBut b o (aE (by rw [hCs]; exact aL (aR e))) (aj _ (hH ▸ aj _ e))
 have hD₁ : h₁.get? s₂.heap.objs.size = some (lObj [] 0) := hsb₁.extBut _ _ (Ne.symm hCD) (aj _ (hH ▸ aJ _ rfl))
 have fC : s₂.heap.get? H.objs.size = none := pn _ _ (by rw [hCs]; exact dv _)
 have key : ∀ tk, codeAny (Mo c.W) c.A (.compLoop (.ListComp elt (g :: gs) sc pos) 0 (.ref I) (.ref s₂.heap.objs.size) (compEnvC sc (qZ c.env sc.names []) H.objs.size c.env)) (compPost (Mo c.W) c.A No use Q (.ref s₂.heap.objs.size) H.objs.size) { s₂ with heap := h₁, toks := tk } := λ tk => by
  have g₁ : Go G₂ s₂ G₂ { s₂ with heap := h₁, toks := tk } := nZ g₂.u.sub old
  have al : ∀ b, b ∈ own \/ b ∈ src -> b ≠ H.objs.size /\ b ≠ s₂.heap.objs.size := λ b hb => by
   obtain ⟨o, e⟩ := i.al b hb
   exact ⟨(λ q => by rw [q, fC] at e; cases e), λ q => by rw [q, nW] at e; cases e⟩
  refine Jj (c := c.comp sc hs H.objs.size) (ρb := cut sc.names ρ) (Gb := G) (sb := s) (D := s₂.heap.objs.size) (lam := []) (acc := []) (room := 0) hc ⟨S.comp hs _, λ x hx => ?_, g₂.new fC, g₂.new nW, hCD, c.hd hk⟩ rfl rfl hg hn (λ x hx => by cases hx) (λ x hx => by cases hx)
   ⟨λ b o e => g₁.get (g₂.get e), g₂.u.le, g₂.u.old, g₁.u.sub, hns₁, (λ x p h => by cases h), m4 g₂.u.sub fC, m4 g₂.u.sub nW, ⟨[], 0, hD₁, rfl, by rw [cF]; simpa using hl⟩⟩ (i.later (S := λ _ => False) g₁.kx λ _ _ => id) (λ g' r e h => by cases e; exact go.tup (ht h)) al ho λ s' G' m' k L em => ?_
  ·show (relabel sc c.env).names.lookup x = _
   rw [qz, show sc.names.lookup x = _ from hx]; rfl
  ·obtain ⟨h', tk', rfl⟩ := k.eq
   have gA : Go G s G' { s₂ with heap := h', toks := tk' } := ⟨by obtain ⟨ha, ta, rfl, ka⟩ := g₂.k; exact ⟨h', tk', rfl, L.kp⟩, L.le, L.sub, L.old⟩
   have hU' := hU H.objs.size s₂.heap.objs.size _ G' ⟨gA, g₂.new fC, g₂.new nW, L.gC, L.gD, hCD, zw c.hw ((S.go g₂).base), ⟨m', L.ns⟩, L.dl⟩
   cases use with
   | none => exact ⟨m', L.ns, hU'⟩
   | some u => exact hU'
 exact Aj rfl go.as (key _) (sf c.A G₂ _ _ _ ⟨Fz.le.rfl, λ b o e => old b o (g₂.u.sub b o e), i.lt.nn, λ b o _ e => old b o e⟩ (key _))
end
noncomputable def pD (x : Int × Bs) : List (Int × Bs) -> List (Int × Bs)
 | [] => [x]
 | y :: r => if pF y x then y :: pD x r else x :: y :: r
theorem Lh {a b : Bs} : Ey a b = true ↔ a < b := by
 induction a generalizing b with
 | nil => cases b with
  | nil => exact ⟨nofun, nofun⟩
  | cons b bs => exact ⟨λ _ => List.nil_lt_cons _ _, λ _ => rfl⟩
 | cons a as ih => cases b with
  | nil => exact ⟨nofun, nofun⟩
  | cons b bs =>
   rw [List.cons_lt_cons_iff, <- ih]
   show (if (a == b) = true then Ey as bs else decide (a < b)) = true ↔ _
   by_cases e : a = b
   ·subst e
    rw [if_pos (beq_self_eq_true a)]
    exact ⟨λ h => .inr ⟨rfl, h⟩, λ h => h.elim (λ h => absurd h (ig a)) (·.2)⟩
   ·rw [if_neg λ h => e (be h), decide_eq_true_iff]
    exact ⟨.inl, λ h => h.elim id λ h => absurd h.1 e⟩
theorem El {a b : It} : pF a b = true ↔ a.1 < b.1 \/ a.1 = b.1 /\ a.2 < b.2 := by
 show (if (a.1 == b.1) = true then Ey a.2 b.2 else decide (a.1 < b.1)) = true ↔ _
 rw [<- Lh]
 by_cases e : a.1 = b.1
 ·rw [if_pos (beq_iff_eq.mpr e)]
  exact ⟨λ h => .inr ⟨e, h⟩, λ h => h.elim (λ h => absurd e (Int.ne_of_lt h)) (·.2)⟩
 ·rw [if_neg λ h => e (be h), decide_eq_true_iff]
  exact ⟨.inl, λ h => h.elim id λ h => absurd h.1 e⟩
theorem vF {a b : It} : pF a b = false ↔ b.1 <= a.1 /\ (a.1 = b.1 -> b.2 <= a.2) := by
 rw [<- kF, El, not_or, dE, not_and]; rfl
theorem o6 {a b : It} (h : pF a b = true) : pF b a = false := vF.mpr ((El.mp h).elim (λ h => ⟨c9 h, λ e => absurd e (eY h)⟩) λ h => ⟨lW h.1, λ _ => List.lt_asymm h.2⟩)
theorem xO {a b : It} (h : pF a b = false) (h' : pF b a = false) : a = b :=
 have h := vF.mp h
 have h' := vF.mp h'
 have e := dX h'.1 h.1
 jz e (List.le_antisymm (h'.2 e.symm) (h.2 e))
theorem ru {a b c : It} (h : pF a b = false) (h' : pF b c = false) : pF a c = false :=
 have h := vF.mp h
 have h' := vF.mp h'
 vF.mpr ⟨ew h'.1 h.1, λ e => List.le_trans (h'.2 (dX (e ▸ h.1) h'.1)) (h.2 (dX (e ▸ h'.1) h.1))⟩
noncomputable def tA (ts : List It) (i : Nat) : It := ts.getD i (0, [])
noncomputable def rC (ts : List It) (i j : Nat) : List It := (ts.set i (tA ts j)).set j (tA ts i)
theorem CT {ts : List It} {i : Nat} (h : i < ts.length) : ts[i]? = some (tA ts i) := by
 unfold tA; simp [h]
theorem o0 {ts : List It} {i j : Nat} : (rC ts i j).length = ts.length := by simp [rC]
theorem qY {ts : List It} {i j k : Nat} (hi : i < ts.length) (hj : j < ts.length) : tA (rC ts i j) k = if k = i then tA ts j else if k = j then tA ts i else tA ts k := by
 unfold rC
 have hg : ∀ (l : List It) (n : Nat), tA l n = l.getD n (0, []) := λ _ _ => rfl
 rw [hg ((ts.set i (tA ts j)).set j (tA ts i))]
 rw [ao, d6, d6]
 by_cases h1 : j = k
 ·subst h1
  simp only [if_true, dU, hj]
  by_cases h2 : j = i
  ·subst h2; simp
  ·simp [h2]
 ·simp only [h1, if_false]
  by_cases h2 : i = k
  ·subst h2; simp [hi]
  ·have h3 : ¬ k = i := λ e => h2 e.symm
   have h4 : ¬ k = j := λ e => h1 e.symm
   simp only [h2, h3, h4, if_false]
   rw [hg, ao]
theorem xt {ts : List It} {i j : Nat} (hi : i < ts.length) (hj : j < ts.length) : (rC ts i j).Perm ts := by
 have := List.set_set_perm (as := ts) hi hj
 unfold rC
 have e1 : tA ts i = ts[i] := by unfold tA; simp [hi]
 have e2 : tA ts j = ts[j] := by unfold tA; simp [hj]
 rw [e1, e2]; exact this
noncomputable def tX (ts : List It) : Prop := ∀ i, 0 < i -> i < ts.length -> pF (tA ts i) (tA ts ((i - 1) / 2)) = false
noncomputable def LI (ts : List It) (pos : Nat) : Prop := (∀ i, 0 < i -> i < ts.length -> i ≠ pos -> pF (tA ts i) (tA ts ((i - 1) / 2)) = false) /\
 ∀ i, 0 < i -> i < ts.length -> (i - 1) / 2 = pos -> 0 < pos -> pF (tA ts i) (tA ts ((pos - 1) / 2)) = false
noncomputable def M5 (ts : List It) (pos : Nat) : Prop := (∀ i, 0 < i -> i < ts.length -> i ≠ pos -> (i - 1) / 2 ≠ pos -> pF (tA ts i) (tA ts ((i - 1) / 2)) = false) /\
 ∀ i, 0 < i -> i < ts.length -> (i - 1) / 2 = pos -> 0 < pos -> pF (tA ts i) (tA ts ((pos - 1) / 2)) = false
theorem pe {i : Nat} (h : 0 < i) : (i - 1) / 2 < i := ar (Nat.div_le_self _ _) (iK h (by decide))
theorem LI.step {ts : List It} {pos : Nat} (h : LI ts pos) (h0 : 0 < pos) (hp : pos < ts.length) (hlt : pF (tA ts pos) (tA ts ((pos - 1) / 2)) = true) : LI (rC ts ((pos - 1) / 2) pos) ((pos - 1) / 2) := by
 have hq := aH (pe h0) hp
 refine ⟨λ i hi hl hne => ?_, λ i hi hl hpar hq0 => ?_⟩
 ·rw [o0] at hl
  rw [qY hq hp, qY hq hp]
  rw [if_neg hne]
  by_cases h1 : i = pos
  ·subst h1
   rw [if_pos rfl, if_pos rfl]
   exact o6 hlt
  ·rw [if_neg h1]
   by_cases h2 : (i - 1) / 2 = (pos - 1) / 2
   ·rw [if_pos h2]
    have := h.1 i hi hl h1
    rw [h2] at this
    exact ru this (o6 hlt)
   ·rw [if_neg h2]
    by_cases h3 : (i - 1) / 2 = pos
    ·rw [if_pos h3]; exact h.2 i hi hl h3 h0
    ·rw [if_neg h3]; exact h.1 i hi hl h1
 ·rw [o0] at hl
  have hne : i ≠ (pos - 1) / 2 := cO (hpar ▸ pe hi)
  rw [qY hq hp, qY hq hp, if_neg hne, if_neg (aE (pe hq0)), if_neg (aE (aH (pe hq0) (pe h0)))]
  have hpar' := h.1 ((pos - 1) / 2) hq0 hq (aE (pe h0))
  by_cases h1 : i = pos
  ·subst h1
   rw [if_pos rfl]
   exact hpar'
  ·rw [if_neg h1]
   have := h.1 i hi hl h1
   rw [hpar] at this
   exact ru this hpar'
theorem LI.done {ts : List It} {pos : Nat} (h : LI ts pos) (hd : pos = 0 \/ pF (tA ts pos) (tA ts ((pos - 1) / 2)) = false) : tX ts := λ i hi hl => by
 by_cases h1 : i = pos
 ·subst h1
  rcases hd with hd | hd
  ·exact absurd hd (cO hi)
  ·exact hd
 ·exact h.1 i hi hl h1
theorem M5.step {ts : List It} {pos c : Nat} (h : M5 ts pos) (hc : 0 < c /\ c < ts.length /\ (c - 1) / 2 = pos) (hmin : ∀ i, 0 < i -> i < ts.length -> (i - 1) / 2 = pos -> pF (tA ts i) (tA ts c) = false) : M5 (rC ts c pos) c := by
 obtain ⟨hc0, hcl, hcp⟩ := hc
 have hp : pos < ts.length := hcp ▸ aH (pe hc0) hcl
 have hpc : pos < c := hcp ▸ pe hc0
 refine ⟨λ i hi hl hne hpar => ?_, λ i hi hl hpar _ => ?_⟩
 ·rw [o0] at hl
  rw [qY hcl hp, qY hcl hp, if_neg hne, if_neg hpar]
  by_cases h1 : i = pos
  ·subst h1
   rw [if_pos rfl, if_neg (aE (pe hi))]
   exact h.2 c hc0 hcl hcp hi
  ·rw [if_neg h1]
   by_cases h2 : (i - 1) / 2 = pos
   ·rw [if_pos h2]; exact hmin i hi hl h2
   ·rw [if_neg h2]; exact h.1 i hi hl h1 h2
 ·rw [o0] at hl
  have hci : c < i := hpar ▸ pe hi
  rw [qY hcl hp, qY hcl hp, if_neg (cO hci), if_neg (cO (aH hpc hci)), if_neg (aE (pe hc0)), if_pos hcp]
  have := h.1 i hi hl (cO (aH hpc hci)) (hpar ▸ cO hpc)
  rw [hpar] at this
  exact this
theorem M5.leaf {ts : List It} {pos : Nat} (h : M5 ts pos) (hl : ts.length <= 2 * pos + 1) : LI ts pos :=
 ⟨λ i hi hil hne => h.1 i hi hil hne (aE (Nat.div_lt_of_lt_mul (Nat.sub_one_lt_of_le hi (br (aP hil hl))))), h.2⟩
theorem tX.root {ts : List It} (h : tX ts) : ∀ i, i < ts.length -> pF (tA ts i) (tA ts 0) = false := by
 intro i
 induction i using iv with
 | ind i ih =>
  intro hl
  by_cases h0 : i = 0
  ·subst h0
   cases e : pF (tA ts 0) (tA ts 0) with
   | false => rfl
   | true => have := o6 e; rw [e] at this; exact this
  ·exact ru (h i (fq h0) hl) (ih ((i - 1) / 2) (pe (fq h0)) (aH (pe (fq h0)) hl))
theorem yI {ts : List It} {x : It} {i : Nat} (h : i < ts.length) : tA (ts ++ [x]) i = tA ts i := by
 unfold tA; simp [ao, iN h]
theorem tX.push {ts : List It} (h : tX ts) (x : It) : LI (ts ++ [x]) ts.length := by
 refine ⟨λ i hi hl hne => ?_, λ i hi hl hpar _ => ?_⟩ <;> rw [aA] at hl
 ·have hl := dB (br hl) hne
  rw [yI hl, yI (aH (pe hi) hl)]
  exact h i hi hl
 ·exact absurd (hpar ▸ pe hi) (cC (br hl))
theorem tX.pop {ts : List It} (h : tX ts) (x : It) : M5 (ts.dropLast.set 0 x) 0 := by
 refine ⟨λ i hi hl h0 hpar => ?_, λ i _ _ _ h => absurd h (gP 0)⟩
 rw [dU, gi] at hl
 have at' : ∀ j, j ≠ 0 -> j < ts.length - 1 -> tA (ts.dropLast.set 0 x) j = tA ts j := λ j hj hjl => by
  unfold tA
  rw [ao, ao, d6, if_neg (λ e => hj e.symm), List.getElem?_dropLast, if_pos hjl]
 rw [at' i h0 hl, at' ((i - 1) / 2) hpar (aH (pe hi) hl)]
 exact h i hi (aP hl (dz _ _))
noncomputable def pw (l : List It) : Prop := l.Pairwise λ a b => pF b a = false
theorem pu (x : It) : ∀ l, (pD x l).Perm (x :: l) := by
 intro l_
 induction l_ with
 | nil =>
  exact .refl _
 | cons y r ih =>
  show mw (if pF y x then y :: pD x r else x :: y :: r) _
  split
  ·exact ((ih).cons y).trans (.swap x y r)
  ·exact .refl _
theorem tf (x : It) : ∀ {l : List It}, pw l -> pw (pD x l) := by
 intro l_
 induction l_ with
 | nil =>
  rintro _
  exact bR _ _
 | cons y r ih =>
  rintro h
  show pw (if pF y x then y :: pD x r else x :: y :: r)
  unfold pw at h |-
  rw [bg] at h
  split
  ·rename_i hlt
   rw [bg]
   refine ⟨λ z hz => ?_, ih h.2⟩
   rcases ag.mp ((pu x r).mem_iff.mp hz) with rfl | hz
   ·exact o6 hlt
   ·exact h.1 z hz
  ·rename_i hlt
   have hlt' : pF y x = false := by simpa using hlt
   rw [bg]
   refine ⟨λ z hz => ?_, bg.mpr h⟩
   rcases ag.mp hz with rfl | hz
   ·exact hlt'
   ·exact ru (h.1 z hz) hlt'
structure Pc (ts l : List It) : Prop where
 h : tX ts
 p : ts.Perm l
 s : pw l
theorem H0 {ts l : List It} {x : It} (hh : tX ts) (hp : ts.Perm (x :: l)) (hs : pw (x :: l)) : tA ts 0 = x := by
 have hne : 0 < ts.length := by rw [hp.length_eq]; simp
 have h0 : tA ts 0 ∈ ts := by
  have := CT hne
  exact cQ this
 have hx : x ∈ ts := hp.mem_iff.mpr (.head _)
 obtain ⟨i, hi⟩ := gm hx
 have hil : i < ts.length := (bH.mp hi).1
 have e : tA ts i = x := by have := CT hil; rw [hi] at this; exact (bN this).symm
 have h1 : pF x (tA ts 0) = false := by rw [<- e]; exact hh.root i hil
 have h2 : pF (tA ts 0) x = false := by
  rcases ag.mp (hp.mem_iff.mp h0) with h | h
  ·rw [h]
   cases q : pF x x with
   | false => rfl
   | true => have := o6 q; rw [q] at this; exact this
  ·unfold pw at hs
   exact (bg.mp hs).1 _ h
 exact xO h2 h1
inductive Tg where
 | frame
 | cell (x : Str)
 | own (x : Str)
inductive xP (W : Wo) (G : Fz) (h : Heap) (l : List It) (v : Value) (L : Addr) : Prop
 | mk (x dx : Addr) (ox od : Obj) (ts : List It) (vs : List Value) (n : Nat) (e : v = .ref x) (gx : G x = some ox) (dx' : ox.dict = some dx) (gd : G dx = some od) (inst : ∀ h : Heap, h.get? x = some ox -> h.get? dx = some od -> h.InstFk x W.C (λ y => if y = "pq" then some (.ref L) else none))
  (g : h.get? L = some (lObj vs n)) (r : nG W G (ts.map rn) vs) (p : Pc ts l)
inductive Ph (W : Wo) (O : Addr -> Option Tg) (G : Fz) (h : Heap) (x : Str) (ps : List PV) (v : Value) : Prop
 | mk (a : Addr) (vs : List Value) (n : Nat) (e : v = .ref a) (o : O a = some (.own x)) (g : h.get? a = some (lObj vs n)) (r : nG W G ps vs) (c : vs.length <= cap)
inductive Pd (W : Wo) (O : Addr -> Option Tg) (G : Fz) (h : Heap) (x : Str) (kvs : List (Bs × PV)) (v : Value) : Prop
 | mk (a : Addr) (us : List (Bs × Value)) (e : v = .ref a) (o : O a = some (.own x)) (d : h.DictOf (bK W) a us) (k : us.map (·.1) = kvs.map (·.1)) (r : nG W G (kvs.map (·.2)) (us.map (·.2))) (c : us.length <= cap) (ne : (a == sysModules) = false)
inductive Pg (W : Wo) (O : Addr -> Option Tg) (G : Fz) (h : Heap) (x : Str) (l : List It) (v : Value) : Prop
 | mk (a : Addr) (o : O a = some (.own x)) (w : xP W G h l v a)
noncomputable def uJ (W : Wo) (O : Addr -> Option Tg) (G : Fz) (h : Heap) (x : Str) (p : PV) (v : Value) : Prop := match p with
 | .list ps => Ph W O G h x ps v
 | .dict kvs => Pd W O G h x kvs v
 | .wl l => Pg W O G h x l v
 | _ => False
structure OU (W : Wo) (A : Around) (env : Env) (sb : Shared) (Gb : Fz) (l : List Env) : Prop where
 fr : A.frames = some l
 top : ∃ o, l = env :: o
 eq : env.frame = some env.locals
 al : ∀ b ∈ mS l, b = env.locals \/ ∃ o, sb.heap.get? b = some o
 hfr : ∀ b ∈ mS l ++ tabs, W.h₀.get? b = none
 lt : env.locals ∉ tabs
structure Fc (K : Ky) extends Cf K where
 nh : K.hd = false
 Gb : Fz
 sb : Shared
 l : List Env
 clk : ∀ G G' i v, G.le G' -> K.cl env.cells W G i v -> K.cl env.cells W G' i v
 knd : ∀ x k, K.sc.lookup x = some k -> env.kindOf x = some k
 nfr : ∀ x, K.sc.lookup x ≠ some .free
 base : W.h₀.StaysIn sb.heap
 mkf : ∀ P, K.tb = some P -> OH W env.code env.qual P
 ex : K.exn = true -> OU W A env sb Gb l
noncomputable abbrev Fc.Cl {K : Ky} (c : Fc K) (G : Fz) (i : Nat) (v : Value) : Prop := K.cl c.env.cells c.W G i v
noncomputable def Fc.fr {K : Ky} (c : Fc K) : List Addr := bif K.exn then mS c.l ++ tabs else []
section
variable {K : Ky}
noncomputable def oN (c : Fc K) (m : Str -> Option Value) (h : Heap) (x : Str) (v : Value) : Prop :=
 (K.sc.lookup x = some .local /\ m x = some v) \/ (K.sc.lookup x = some .cell /\ ∃ a, c.env.cells.lookup x = some a /\ h.IsCell a (some v))
noncomputable def vP (c : Fc K) (O : Addr -> Option Tg) (G : Fz) (h : Heap) (x : Str) (p : PV) (v : Value) : Bool -> Prop
 | true => uJ c.W O G h x p v
 | false => VR c.W G p v \/ ∃ i, p = .clo i /\ c.Cl G i v
noncomputable abbrev oH (c : Fc K) (O : Addr -> Option Tg) (G : Fz) (h : Heap) (x : Str) (p : PV) (v : Value) : Prop := vP c O G h x p v (K.ow.contains x)
structure Ff (c : Fc K) (G : Fz) (s : Shared) (b : Addr) : Prop where
 g : G b = none
 new : c.sb.heap.get? b = none
 al : ∃ o, s.heap.get? b = some o
 fr : b ∈ c.fr -> b = c.env.locals
structure FR (c : Fc K) (ρ : En) (G : Fz) (O : Addr -> Option Tg) (m : Str -> Option Value) (s : Shared) : Prop where
 rest : tC c.sb s
 gens : K.exn = false -> s.gens = c.sb.gens
 kp : ∀ b o, b ∉ c.fr -> c.sb.heap.get? b = some o -> s.heap.get? b = some o
 sl : c.sb.heap.UpToSlots s.heap
 le : c.Gb.le G
 old : ∀ b o, c.sb.heap.get? b = some o -> G b = c.Gb b
 sub : G.sub s.heap
 gF : ∀ b ∈ c.fr, G b = none
 ow : ∀ b t, O b = some t -> Ff c G s b
 fo : O c.env.locals = some .frame
 frs : K.exn = true -> HH s.heap c.l
 tab : K.exn = true -> ql G s.heap
 ns : s.heap.Ns c.env.locals m
 cel : ∀ x, K.sc.lookup x = some .cell -> ∃ a o, c.env.cells.lookup x = some a /\ O a = some (.cell x) /\ s.heap.IsCell a o
 val : ∀ x p, ρ.get x = some p -> nQ K.sc x = true -> ∃ v, oN c m s.heap x v /\ oH c O G s.heap x p v
variable {c : Fc K} {ρ ρ' : En} {G G' : Fz} {O O' : Addr -> Option Tg} {m m' : Str -> Option Value} {s s' : Shared} {h h' : Heap} {x : Str} {p : PV} {v : Value} {S : Addr -> Prop}
theorem uJ.keep (q : uJ c.W O G h x p v) (k : ∀ b, O b = some (.own x) -> O' b = some (.own x) /\ ∀ o, h.get? b = some o -> h'.get? b = some o) (le : G.le G') : uJ c.W O' G' h' x p v := by
 cases p with
 | list ps =>
  refine mL λ gk => ?_
  obtain ⟨a, vs, n, e, o, g, r, cc⟩ := q
  refine gk ?_
  exact ⟨a, vs, n, e, (k a o).1, (k a o).2 _ g, r.mono le, cc⟩
 | dict kvs =>
  refine mL λ gk => ?_
  obtain ⟨a, us, e, o, ⟨ob, es, ep, ho, d⟩, kk, r, cc, ne⟩ := q
  refine gk ?_
  exact ⟨a, us, e, (k a o).1, ⟨ob, es, ep, (k a o).2 _ ho, d⟩, kk, r.mono le, cc, ne⟩
 | wl l =>
  refine mL λ gk => ?_
  obtain ⟨a, o, ⟨x, dx, ox, od, ts, vs, n, e, gx, dx', gd, inst, g, r, p⟩⟩ := q
  refine gk ?_
  exact ⟨a, (k a o).1, ⟨x, dx, ox, od, ts, vs, n, e, le _ _ gx, dx', le _ _ gd, inst, (k a o).2 _ g, r.mono le, p⟩⟩
 | _ => exact q.elim
theorem vP.keep (k : ∀ b, O b = some (.own x) -> O' b = some (.own x) /\ ∀ o, h.get? b = some o -> h'.get? b = some o) (le : G.le G') : ∀ {z : Bool}, vP c O G h x p v z -> vP c O' G' h' x p v z
 | true, q => uJ.keep q k le
 | false, q => q.imp (VR.mono le _ _) (by rintro ⟨i, e, q⟩; exact ⟨i, e, c.clk _ _ _ _ le q⟩)
theorem pQ {sc : Sc} {x : Str} : nQ sc x = true ↔ sc.lookup x = some .local \/ sc.lookup x = some .cell := by
 unfold nQ
 rw [bq, beq_iff_eq, beq_iff_eq]
theorem zJ {l : List Env} (f : HH h l) {b : Addr} (hb : b ∈ mS l) : ∃ o, h.get? b = some o := by
 refine mL λ gk => ?_
 obtain ⟨env, he, hf⟩ := dw.mp hb
 obtain ⟨_, L, o, hf', ho, hd⟩ := f env he
 refine gk ?_
 rw [hf'] at hf; cases hf
 exact ⟨o, ho⟩
theorem Fc.exn {b : Addr} (h : b ∈ c.fr) : K.exn = true /\ (b ∈ mS c.l \/ b ∈ tabs) := by
 unfold Fc.fr at h
 cases e : K.exn with
 | true => rw [e] at h; exact ⟨rfl, aX.mp h⟩
 | false => rw [e] at h; cases h
theorem Fc.fr_of (e : K.exn = true) {b : Addr} (h : b ∈ mS c.l ++ tabs) : b ∈ c.fr := by
 unfold Fc.fr
 rw [e]; exact h
theorem FR.frAl (R : FR c ρ G O m s) {b : Addr} (hb : b ∈ c.fr) : ∃ o, s.heap.get? b = some o := by
 obtain ⟨e, h | h⟩ := c.exn hb
 ·exact zJ (R.frs e) h
 ·refine mL λ gk => ?_
  obtain ⟨ps, h, _⟩ := R.tab e b h
  refine gk ?_
  exact ⟨_, h⟩
theorem FR.core (R : FR c ρ G O m s) (k : Kx S G s G' s') (hS : ∀ b, S b -> c.sb.heap.get? b = none /\ (b ∈ c.fr -> b = c.env.locals)) (ow : ∀ b t, O' b = some t -> Ff c G' s' b) (fo : O' c.env.locals = some .frame) (ns : s'.heap.Ns c.env.locals m')
  (cel : ∀ x, K.sc.lookup x = some .cell -> ∃ a o, c.env.cells.lookup x = some a /\ O' a = some (.cell x) /\ s'.heap.IsCell a o)
  (val : ∀ x p, ρ'.get x = some p -> nQ K.sc x = true -> ∃ v, oN c m' s'.heap x v /\ oH c O' G' s'.heap x p v) : FR c ρ' G' O' m' s' := by
 have gF : ∀ b ∈ c.fr, G' b = none := λ b hb => by
  by_cases e : b = c.env.locals
  ·rw [e]; exact (ow _ _ fo).g
  ·refine mL λ gk => ?_
   obtain ⟨o, ho⟩ := R.frAl hb
   refine gk ?_
   exact (k.old b o (λ h => e ((hS b h).2 hb)) ho).trans (R.gF b hb)
 refine ⟨?_, λ e => ?_, λ b o hb e => k.kp b o (λ h => by rw [(hS b h).1] at e; cases e) (R.kp b o hb e), λ b o e hd => ?_, R.le.trans k.le, λ b o e => ?_, k.sub, gF, ow, fo, λ e env he => ?_, λ e => (R.tab e).keep k.le λ P hP o ho => ?_, ns, cel, val⟩
 ·obtain ⟨h, tk, rfl⟩ := k.eq; exact R.rest.trans ⟨rfl, rfl, λ g => g⟩
 ·obtain ⟨h, tk, rfl⟩ := k.eq; exact R.gens e
 ·refine mL λ gk => ?_
  obtain ⟨sl, hs⟩ := R.sl b o e hd
  refine gk ?_
  exact ⟨sl, k.kp b _ (λ h => by rw [(hS b h).1] at e; cases e) hs⟩
 ·by_cases hb : b ∈ c.fr
  ·rw [gF b hb]
   cases q : c.Gb b with
   | none => rfl
   | some o' => have := R.le b o' q; rw [R.gF b hb] at this; cases this
  ·exact (k.old b o (λ h => by rw [(hS b h).1] at e; cases e) (R.kp b o hb e)).trans (R.old b o e)
 ·refine mL λ gk => ?_
  obtain ⟨hk, L, o, hf, ho, hd⟩ := R.frs e env he
  refine gk ?_
  have hm : L ∈ mS c.l := dw.mpr ⟨env, he, hf⟩
  by_cases q : L = c.env.locals
  ·subst q
   refine mL λ gk => ?_
   obtain ⟨o', es, ep, ho', hd', _⟩ := ns
   refine gk ?_
   exact ⟨hk, _, o', hf, ho', λ vs q => by rw [hd'] at q; cases q⟩
  ·exact ⟨hk, L, o, hf, k.kp L o (λ h => q ((hS L h).2 (c.fr_of e (aC _ hm)))) ho, hd⟩
 ·exact k.kp P o (λ h => (c.ex e).lt (by rw [<- (hS P h).2 (c.fr_of e (aq _ hP))]; exact hP)) ho
theorem FR.alive (R : FR c ρ G O m s) {b : Addr} {t : Tg} (h : O b = some t) : ∃ o, s.heap.get? b = some o := (R.ow b t h).al
theorem oN.keep {v : Value} (q : oN c m h x v) (R : FR c ρ G O m s) (k : ∀ a, O a = some (.cell x) -> ∀ o, h.get? a = some o -> h'.get? a = some o) : oN c m h' x v := q.imp id λ ⟨hx, a, ha, hv⟩ => by
 refine mL λ gk => ?_
 obtain ⟨a', o, e1, e2, _⟩ := R.cel x hx
 rw [ha] at e1; cases e1
 obtain ⟨ob, h1, h2⟩ := hv
 refine gk ?_
 exact ⟨hx, a, ha, ob, k a e2 _ h1, h2⟩
theorem FR.kx (R : FR c ρ G O m s) (k : Kx S G s G' s') (hS : ∀ b, S b -> O b = none /\ c.sb.heap.get? b = none /\ b ∉ c.fr) : FR c ρ G' O m s' := by
 have nS : ∀ {b t}, O b = some t -> ¬ S b := λ e h => by rw [(hS _ h).1] at e; cases e
 refine R.core k (λ b h => ⟨(hS b h).2.1, λ q => absurd q (hS b h).2.2⟩) (λ b t e => ?_) R.fo (R.ns.at' λ o => k.kp _ o (nS R.fo)) (λ x hx => ?_) λ x p hr hx => ?_
 ·refine mL λ gk => ?_
  obtain ⟨g, n, ⟨o, ho⟩, f⟩ := R.ow b t e
  refine gk ?_
  exact ⟨(k.old b o (nS e) ho).trans g, n, ⟨o, k.kp b o (nS e) ho⟩, f⟩
 ·refine mL λ gk => ?_
  obtain ⟨a, o, h1, h2, ob, h3, h4⟩ := R.cel x hx
  refine gk ?_
  exact ⟨a, o, h1, h2, ob, k.kp _ _ (nS h2) h3, h4⟩
 ·refine mL λ gk => ?_
  obtain ⟨v, l, q⟩ := R.val x p hr hx
  refine gk ?_
  exact ⟨v, l.keep R λ a e o => k.kp a o (nS e), vP.keep (λ b e => ⟨e, λ o => k.kp b o (nS e)⟩) k.le q⟩
theorem FR.go (R : FR c ρ G O m s) (g : Go G s G' s') : FR c ρ G' O m s' := R.kx (S := λ _ => False) g.kx λ _ h => h.elim
end
section
variable {K : Ky} {c : Fc K} {ρ ρ' : En} {G G' G'' : Fz} {O O' O'' : Addr -> Option Tg} {m m' m'' : Str -> Option Value} {s s' s'' : Shared} {h h' : Heap} {x : Str} {p : PV} {v : Value} {S : Addr -> Prop}
structure Pz (c : Fc K) (G : Fz) (O : Addr -> Option Tg) (s : Shared) (G' : Fz) (O' : Addr -> Option Tg) (s' : Shared) : Prop where
 kp : ∀ b o, O b = none -> b ∉ c.fr -> s.heap.get? b = some o -> s'.heap.get? b = some o
 old : ∀ b o, O b = none -> b ∉ c.fr -> s.heap.get? b = some o -> G' b = G b /\ O' b = none
 le : G.le G'
theorem Pz.rfl : Pz c G O s G O s := ⟨λ _ _ _ _ e => e, λ _ _ e _ _ => ⟨_root_.rfl, e⟩, Fz.le.rfl⟩
theorem Pz.trans (a : Pz c G O s G' O' s') (b : Pz c G' O' s' G'' O'' s'') : Pz c G O s G'' O'' s'' :=
 ⟨λ d o h1 h2 e => b.kp d o (a.old d o h1 h2 e).2 h2 (a.kp d o h1 h2 e), λ d o h1 h2 e => ⟨(b.old d o (a.old d o h1 h2 e).2 h2 (a.kp d o h1 h2 e)).1.trans (a.old d o h1 h2 e).1, (b.old d o (a.old d o h1 h2 e).2 h2 (a.kp d o h1 h2 e)).2⟩, a.le.trans b.le⟩
theorem Pz.kx (k : Kx S G s G' s') (hS : ∀ b, S b -> O b ≠ none \/ s.heap.get? b = none) : Pz c G O s G' O s' :=
 ⟨λ b o h _ e => k.kp b o (λ q => (hS b q).elim (λ n => n h) λ n => by rw [n] at e; cases e) e, λ b o h _ e => ⟨k.old b o (λ q => (hS b q).elim (λ n => n h) λ n => by rw [n] at e; cases e) e, h⟩, k.le⟩
theorem Pz.go (g : Go G s G' s') : Pz c G O s G' O s' := .kx (S := λ _ => False) g.kx λ _ h => h.elim
theorem DP {x y : Str} {o : Option PV} {q : PV} {ρ : En} (h : (ρ.put x o).get y = some q) : (y = x /\ o = some q) \/ (y ≠ x /\ ρ.get y = some q) := by
 unfold En.get at h |-
 unfold En.put at h
 induction ρ with
 | nil => cases h
 | cons a r ih =>
  obtain ⟨z, w⟩ := a
  rw [bE, au] at h
  rw [au]
  by_cases hzx : (z == x) = true
  ·rw [if_pos hzx] at h
   refine mL λ gk => ?_
   cases be hzx
   refine gk ?_
   cases e : (y == x) with
   | true => rw [e] at h; exact .inl ⟨be e, h⟩
   | false => rw [e] at h; exact ih h
  ·rw [if_neg hzx] at h
   cases e : (y == z) with
   | true => rw [e] at h; cases be e; exact .inr ⟨λ q => hzx (by rw [q]; exact beq_self_eq_true _), h⟩
   | false => rw [e] at h; exact ih h
theorem Kz {x y : Str} {p q : PV} {ρ : En} (h : (ρ.set x p).get y = some q) : (y = x /\ q = p) \/ (y ≠ x /\ ρ.get y = some q) := (DP h).imp_left (by rintro ⟨a, b⟩; exact ⟨a, (bN b).symm⟩)
theorem FR.putU {z : Addr} {τ : Tg} (R : FR c ρ G O m s) (hz : O z = some τ) (hτ : ∀ y, y ≠ x -> τ ≠ .cell y /\ τ ≠ .own y) (k : Kx (· = z) G s G' s') (gz : G' z = none) (al : ∃ o, s'.heap.get? z = some o) (hO : ∀ b t, O b = some t -> O' b = some t) (hN : ∀ b t, O' b = some t -> O b = some t \/ (Ff c G s b /\ t = .own x))
  (ns : s'.heap.Ns c.env.locals m') (em : ∀ y, y ≠ x -> m' y = m y) (va : oN c m' s'.heap x v) (hv : oH c O' G' s'.heap x p v) : FR c (ρ.set x p) G' O' m' s' := by
 have ne : ∀ {b t}, O b = some t -> t ≠ τ -> b ≠ z := λ e h q => by rw [q, hz] at e; cases e; exact h rfl
 have tz : O' z = some τ := hO _ _ hz
 refine R.core k (λ b e => by rw [e]; exact ⟨(R.ow _ _ hz).new, (R.ow _ _ hz).fr⟩) (λ b t e => ?_) (hO _ _ R.fo) ns (λ y hy => ?_) λ y q hr hy => ?_
 ·have oa : Ff c G s b := (hN b t e).elim (R.ow b t) And.left
  by_cases q : b = z
  ·rw [q]; exact ⟨gz, q ▸ oa.new, al, q ▸ oa.fr⟩
  ·obtain ⟨o, ho⟩ := oa.al; exact ⟨(k.old b o q ho).trans oa.g, oa.new, ⟨o, k.kp b o q ho⟩, oa.fr⟩
 ·refine mL λ gk => ?_
  obtain ⟨a, o, h1, h2, ob, h3, h4⟩ := R.cel y hy
  refine gk ?_
  by_cases q : y = x
  ·subst q
   rcases va with ⟨e, _⟩ | ⟨_, a', e, hc⟩
   ·rw [hy] at e; cases e
   ·rw [h1] at e; cases e; exact ⟨a, _, h1, hO _ _ h2, hc⟩
  ·exact ⟨a, o, h1, hO _ _ h2, ob, k.kp _ _ (ne h2 (Ne.symm (hτ y q).1)) h3, h4⟩
 ·rcases Kz hr with ⟨rfl, rfl⟩ | ⟨q, hr⟩
  ·exact ⟨v, va, hv⟩
  ·refine mL λ gk => ?_
   obtain ⟨u, l, w⟩ := R.val y _ hr hy
   refine gk ?_
   refine ⟨u, ?_, vP.keep (λ b e => ⟨hO _ _ e, λ o => k.kp b o (ne e (Ne.symm (hτ y q).2))⟩) k.le w⟩
   rcases l.keep R λ a e o => k.kp a o (ne e (Ne.symm (hτ y q).1)) with ⟨e, hm⟩ | l
   ·exact .inl ⟨e, (em y q).trans hm⟩
   ·exact .inr l
theorem FR.put {z : Addr} {τ : Tg} (R : FR c ρ G O m s) (hz : O z = some τ) (hτ : ∀ y, y ≠ x -> τ ≠ .cell y /\ τ ≠ .own y) (k : Kx (· = z) G s G s') (al : ∃ o, s'.heap.get? z = some o) (hO : ∀ b t, O b = some t -> O' b = some t) (hN : ∀ b t, O' b = some t -> O b = some t \/ (Ff c G s b /\ t = .own x))
  (ns : s'.heap.Ns c.env.locals m') (em : ∀ y, y ≠ x -> m' y = m y) (va : oN c m' s'.heap x v) (hv : oH c O' G s'.heap x p v) : FR c (ρ.set x p) G O' m' s' := R.putU hz hτ k (R.ow _ _ hz).g al hO hN ns em va hv
structure wT (c : Fc K) (O : Addr -> Option Tg) (G : Fz) (s : Shared) (x : Str) (p : PV) (v : Value) (O' : Addr -> Option Tg) : Prop where
 up : ∀ b t, O b = some t -> O' b = some t
 new : ∀ b t, O' b = some t -> O b = some t \/ (Ff c G s b /\ t = .own x)
 val : oH c O' G s.heap x p v
theorem wT.vr (ho : K.ow.contains x = false) (hv : VR c.W G p v) : wT c O G s x p v O := ⟨λ _ _ e => e, λ _ _ e => .inl e, by unfold oH; rw [ho]; exact .inl hv⟩
theorem FR.store (R : FR c ρ G O m s) (hx : nQ K.sc x = true) (hv : wT c O G s x p v O') {E : Value -> Shared -> Prop} {Q : Unit -> Shared -> Prop}
  (hQ : ∀ s' m' z, (z = c.env.locals \/ O z = some (.cell x)) -> Kx (· = z) G s G s' -> FR c (ρ.set x p) G O' m' s' -> Q () s') : wpAny (Mo c.W) c.A (storeName c.env x v) Q E s := by
 rcases pQ.mp hx with hx | hx
 ·refine cM (c.knd x _ hx) R.ns (λ h' hn' hs' => ?_) (by rw [c.kind]; rfl)
  have k : Kx (· = c.env.locals) G s G { s with heap := h', toks := s.toks + 1 } := tS R.sub (R.ow _ _ R.fo).g hs'.extBut rfl
  refine hQ _ _ _ (.inl rfl) k (R.put R.fo (λ y _ => ⟨nofun, nofun⟩) k (xh hn') hv.up hv.new hn' (λ y q => if_neg q) (.inl ⟨hx, if_pos rfl⟩) (vP.keep (λ b e => ⟨e, λ o => k.kp b o λ q => ?_⟩) Fz.le.rfl hv.val))
  rw [q, hv.up _ _ R.fo] at e; cases e
 ·refine mL λ gk => ?_
  obtain ⟨a, o, ha, oa, hc⟩ := R.cel x hx
  refine gk ?_
  refine wpAny_storeName_cell c.kind (c.knd x _ hx) ha hc λ h' hc' hs' => ?_
  have k : Kx (· = a) G s G { s with heap := h' } := tS (tk := s.toks) R.sub (R.ow _ _ oa).g hs'.extBut rfl
  have hne : c.env.locals ≠ a := λ q => by have := R.fo; rw [q, oa] at this; cases this
  refine hQ _ m _ (.inr oa) k (R.put oa (λ y q => ⟨λ e => by cases e; exact q rfl, nofun⟩) k ((by obtain ⟨ob, h, _⟩ := hc'; exact ⟨ob, h⟩)) hv.up hv.new (R.ns.sameBut hs' hne) (λ _ _ => rfl) (.inr ⟨hx, a, ha, hc'⟩) (vP.keep (λ b e => ⟨e, λ o => k.kp b o λ q => ?_⟩) Fz.le.rfl hv.val))
  rw [q, hv.up _ _ oa] at e; cases e
theorem FR.mutU {a : Addr} (R : FR c ρ G O m s) (hx : nQ K.sc x = true) (ho : K.ow.contains x = true) (oa : O a = some (.own x)) (va : oN c m s.heap x v) (k : Kx (· = a) G s G' s') (ga : G' a = none) (al : ∃ o, s'.heap.get? a = some o) (hv : uJ c.W O G' s'.heap x p v) : FR c (ρ.set x p) G' O m s' := by
 have ne : ∀ {b t}, O b = some t -> t ≠ .own x -> b ≠ a := λ e h q => by rw [q, oa] at e; cases e; exact h rfl
 exact R.putU oa (λ y q => ⟨nofun, λ e => by cases e; exact q rfl⟩) k ga al (λ _ _ e => e) (λ _ _ e => .inl e) (R.ns.at' λ o => k.kp _ o (ne R.fo nofun)) (λ _ _ => rfl) (va.keep R λ b e o => k.kp b o (ne e nofun)) (by unfold oH; rw [ho]; exact hv)
theorem FR.mut {a : Addr} (R : FR c ρ G O m s) (hx : nQ K.sc x = true) (ho : K.ow.contains x = true) (oa : O a = some (.own x)) (va : oN c m s.heap x v) (k : Kx (· = a) G s G s') (al : ∃ o, s'.heap.get? a = some o) (hv : uJ c.W O G s'.heap x p v) : FR c (ρ.set x p) G O m s' := R.mutU hx ho oa va k (R.ow _ _ oa).g al hv
theorem Pz.mut {a : Addr} (oa : O a ≠ none) (k : Kx (· = a) G s G' s') : Pz c G O s G' O s' := .kx k λ b e => .inl (by rw [e]; exact oa)
theorem oN.look (va : oN c m s.heap x v) (ns : s.heap.Ns c.env.locals m) : CR c.env s.heap x v := va.elim ((by rintro ⟨e, h⟩; exact .inl ⟨c.knd x _ e, m, ns, h⟩)) (by rintro ⟨e, a, ha, h⟩; exact .inr ⟨.inl (c.knd x _ e), a, ha, h⟩)
theorem uJ.vw (q : uJ c.W O G s.heap x p v) (R : FR c ρ G O m s) (he : uN p = true) : VW c.W G s.heap p v := by
 cases p with
 | list ps => obtain ⟨a, vs, n, e, o, g, r, cc⟩ := q; exact .inr ⟨a, e, (R.ow _ _ o).g, vs, n, g, r, cc⟩
 | dict kvs => obtain ⟨a, us, e, o, d, k, r, cc, ne⟩ := q; exact .inr ⟨a, e, (R.ow _ _ o).g, us, d, k, r, cc⟩
 | wl l => cases he
 | _ => exact q.elim
theorem FR.es (R : FR c ρ G O m s) : ES c.toCf ρ G s where
 base := λ b o e => R.kp b o (λ h => by obtain ⟨q, _⟩ := c.exn h; rw [(c.ex q).hfr b (by unfold Fc.fr at h; rw [q] at h; exact h)] at e; cases e) (c.base b o e)
 sub := R.sub
 var := λ x p hx hr he => by
  have hl : nQ K.sc x = true := by
   obtain ⟨k, hk⟩ := pM hx
   unfold m9 at hx
   rw [hk] at hx
   unfold nQ
   rw [hk]
   cases k <;> first | rfl | exact absurd hk (c.nfr x) | cases hx
  obtain ⟨v, l, q⟩ := R.val x p hr hl
  refine ⟨v, l.look R.ns, ?_⟩
  unfold oH at q
  revert q
  cases K.ow.contains x with
  | true => exact λ q => uJ.vw q R he
  | false => exact λ q => q.elim id λ ⟨i, e, _⟩ => by subst e; cases he
end
inductive Fl where
 | next | brk | cont | ret (v : PV) | err
inductive pU (K : Ky) (w : Bool) : List Expr -> List PV -> En -> En -> Prop
 | nil {ρ} : pU K w [] [] ρ ρ
 | cons {x p ts v vs ρ ρ'} (h : (nQ K.sc x && (w || !K.ow.contains x)) = true) (t : pU K w ts vs (ρ.set x v) ρ') : pU K w (.Name x p :: ts) (v :: vs) ρ ρ'
inductive sR (K : Ky) : Expr -> PV -> En -> En -> Prop
 | one {x p v ρ} (h : (nQ K.sc x && !K.ow.contains x) = true) : sR K (.Name x p) v ρ (ρ.set x v)
 | tup {ts n p vs ρ ρ'} (h : pU K false ts vs ρ ρ') : sR K (.Tuple ts n p) (.tuple vs) ρ ρ'
section
variable {K : Ky}
structure IT (c : Fc K) (s' : Shared) (G' : Fz) : Prop where
 rest : tC c.sb s'
 gens : K.exn = false -> s'.gens = c.sb.gens
 kp : ∀ b o, b ∉ c.fr -> c.sb.heap.get? b = some o -> s'.heap.get? b = some o
 sl : c.sb.heap.UpToSlots s'.heap
 le : c.Gb.le G'
 old : ∀ b o, c.sb.heap.get? b = some o -> G' b = c.Gb b
 sub : G'.sub s'.heap
 tab : K.exn = true -> ql G' s'.heap
inductive FE (c : Fc K) (G : Fz) (O : Addr -> Option Tg) (s : Shared) (s' : Shared) (ρ : En) : Prop
 | mk (G' : Fz) (O' : Addr -> Option Tg) (m' : Str -> Option Value) (r : FR c ρ G' O' m' s') (p : Pz c G O s G' O' s')
noncomputable def OK (c : Fc K) (G : Fz) (O : Addr -> Option Tg) (s : Shared) (ρ : En) (f : Flow) (s' : Shared) : Fl -> Prop
 | .next => f = .next /\ FE c G O s s' ρ
 | .brk => f = .brk /\ FE c G O s s' ρ
 | .cont => f = .cont /\ FE c G O s s' ρ
 | .ret v => ∃ u, f = .ret u /\ ∃ G', IT c s' G' /\ VR c.W G' v u
 | .err => False
inductive Po (c : Fc K) (G : Fz) (O : Addr -> Option Tg) (s : Shared) (Q : En -> Fl -> Prop) (f : Flow) (s' : Shared) : Prop
 | mk (ρ : En) (fl : Fl) (q : Q ρ fl) (h : OK c G O s ρ f s' fl)
noncomputable def uj (c : Fc K) (G : Fz) (O : Addr -> Option Tg) (s : Shared) (Q : En -> Fl -> Prop) (E : Value -> Shared -> Prop) : Prop :=
 ∀ ρ x G₁ O₁ m₁ s₁ s₂, Q ρ .err -> K.exn = true -> FR c ρ G₁ O₁ m₁ s₁ -> Pz c G O s G₁ O₁ s₁ -> (rU G₁ s₁.heap c.l x s₂.heap \/ NK G₁ s₁.heap c.l c.env.locals x s₂.heap) -> tC s₁ s₂ -> E x s₂
noncomputable def Wp (K : Ky) (ρ : En) (ss : List Stmt) (Q : En -> Fl -> Prop) : Prop := ∀ (c : Fc K) G O m s, FR c ρ G O m s -> ∀ E, PassesOwn (Mo c.W) c.A c.env E -> uj c G O s Q E -> wpAny (Mo c.W) c.A (execs ss c.env) (Po c G O s Q) E s
noncomputable def Sx (K : Ky) (ρ : En) (st : Stmt) (Q : En -> Fl -> Prop) : Prop := ∀ (c : Fc K) G O m s, FR c ρ G O m s -> ∀ E, PassesOwn (Mo c.W) c.A c.env E -> uj c G O s Q E -> wpAny (Mo c.W) c.A (exec st c.env) (Po c G O s Q) E s
noncomputable abbrev Ex (K : Ky) (ρ : En) (st : Stmt) (ρ' : En) (fl : Fl) : Prop := Sx K ρ st λ r f => r = ρ' /\ f = fl
variable {c : Fc K} {ρ ρ' : En} {G G' : Fz} {O O' : Addr -> Option Tg} {m m' : Str -> Option Value} {s s' : Shared} {x : Str} {p q : Pos} {v : PV} {u : Value} {S : Addr -> Prop} {st : Stmt} {ss r b o : List Stmt} {e t it : Expr} {Q Q' : En -> Fl -> Prop} {E : Value -> Shared -> Prop} {fl : Fl} {f : Flow}
theorem FR.retOk (R : FR c ρ G O m s) : IT c s G := ⟨R.rest, R.gens, R.kp, R.sl, R.le, R.old, R.sub, R.tab⟩
theorem OK.back (P : Pz c G O s G' O' s') {s'' : Shared} : ∀ {fl : Fl}, OK c G' O' s' ρ f s'' fl -> OK c G O s ρ f s'' fl
 | .next, ⟨e, G₂, O₂, m₂, r, p⟩ => ⟨e, G₂, O₂, m₂, r, P.trans p⟩
 | .brk, ⟨e, G₂, O₂, m₂, r, p⟩ => ⟨e, G₂, O₂, m₂, r, P.trans p⟩
 | .cont, ⟨e, G₂, O₂, m₂, r, p⟩ => ⟨e, G₂, O₂, m₂, r, P.trans p⟩
 | .ret _, h => h
theorem Po.back (P : Pz c G O s G' O' s') {s'' : Shared} (h : Po c G' O' s' Q f s'') : Po c G O s Q f s'' := (by obtain ⟨ρ, fl, q, h⟩ := h; exact ⟨ρ, fl, q, h.back P⟩)
theorem uj.on (P : Pz c G O s G' O' s') (h : uj c G O s Q E) (hQ : ∀ ρ, Q' ρ .err -> Q ρ .err) : uj c G' O' s' Q' E := λ ρ x G₁ O₁ m₁ s₁ s₂ q e R p => h ρ x G₁ O₁ m₁ s₁ s₂ (hQ ρ q) e R (P.trans p)
theorem Wp.mono (h : Wp K ρ ss Q) (f : ∀ ρ' fl, Q ρ' fl -> Q' ρ' fl) : Wp K ρ ss Q' := λ c G O m s R E hE hX => ay (h c G O m s R E hE (hX.on Pz.rfl λ ρ => f ρ .err)) (λ _ _ q_ => q_.casesOn λ ρ fl q h => ⟨ρ, fl, f _ _ q, h⟩) λ _ _ e => e
theorem Sx.mono (h : Sx K ρ st Q) (f : ∀ ρ' fl, Q ρ' fl -> Q' ρ' fl) : Sx K ρ st Q' := λ c G O m s R E hE hX => ay (h c G O m s R E hE (hX.on Pz.rfl λ ρ => f ρ .err)) (λ _ _ q_ => q_.casesOn λ ρ fl q h => ⟨ρ, fl, f _ _ q, h⟩) λ _ _ e => e
noncomputable def tQ (K : Ky) (r : List Stmt) (Q : En -> Fl -> Prop) (ρ : En) (fl : Fl) : Prop := match fl with
 | .next => Wp K ρ r Q
 | fl => Q ρ fl
theorem mK (h : Q ρ .next) : Wp K ρ [] Q := λ c G O m s R E hE hX => bY ⟨ρ, .next, h, rfl, G, O, m, R, Pz.rfl⟩
theorem qj (h : Sx K ρ st (tQ K r Q)) : Wp K ρ (st :: r) Q := λ c G O m s R E hE hX => bx (ay (h c G O m s R E hE (hX.on Pz.rfl λ _ q => q)) (λ f s' q_ => q_.casesOn λ ρ' fl q h => by
 cases fl with
 | next =>
  obtain ⟨rfl, G', O', m', R', P⟩ := h
  exact ay (q c G' O' m' s' R' E hE (hX.on P λ _ q => q)) (λ _ _ h => h.back P) λ _ _ e => e
 | brk => obtain ⟨rfl, h⟩ := h; exact ⟨ρ', .brk, q, rfl, h⟩
 | cont => obtain ⟨rfl, h⟩ := h; exact ⟨ρ', .cont, q, rfl, h⟩
 | ret v => obtain ⟨u, rfl, h⟩ := h; exact ⟨ρ', .ret v, q, u, rfl, h⟩
 | err => exact h.elim) λ _ _ e => e)
theorem Dl (h : Ex K ρ st ρ' fl) (g : tQ K r Q ρ' fl) : Wp K ρ (st :: r) Q := qj (h.mono (by rintro _ _ ⟨h1, h2⟩; exact h1 ▸ h2 ▸ g))
theorem mQ (h : Ex K ρ st ρ' .next) (g : Wp K ρ' r Q) : Wp K ρ (st :: r) Q := Dl h g
theorem po (h : Ex K ρ st ρ' fl) (hf : ∀ r Q ρ, tQ K r Q ρ fl = Q ρ fl) (hq : Q ρ' fl) : Wp K ρ (st :: r) Q := Dl h (hf r Q ρ' ▸ hq)
noncomputable def LU (K : Ky) (ρ : En) (t : Expr) (z : Bool) : Prop := ∀ (c : Fc K) G O m s, FR c ρ G O m s -> wpAny (Mo c.W) c.A (isTrue t c.env (eval t c.env)) (λ x s' => x = z /\ ∃ G', FR c ρ G' O m s' /\ Pz c G O s G' O s') No s
theorem LU.of {z : Bool} (h : Tr K ρ t z) : LU K ρ t z := λ c G O m s R => oX (h c.toCf G s R.es) (by rintro x s' ⟨e, G', g⟩; exact ⟨e, G', R.go g, Pz.go g⟩)
theorem MD {x : Bool} (h : LU K ρ t x) (h1 : x = true -> Wp K ρ b Q) (h2 : x = false -> Wp K ρ o Q) : Sx K ρ (.If t b o p) Q := λ c G O m s R E hE hX => jm (oX (h c G O m s R) (by
 rintro z s' ⟨hz, G', R', P⟩
 subst hz
 cases z with
 | true => exact ay (h1 rfl c G' O m s' R' E hE (hX.on P λ _ q => q)) (λ _ _ h => h.back P) λ _ _ e => e
 | false => exact ay (h2 rfl c G' O m s' R' E hE (hX.on P λ _ q => q)) (λ _ _ h => h.back P) λ _ _ e => e))
theorem Oj {x : Bool} (h : Tr K ρ t x) (h1 : x = true -> Wp K ρ b Q) (h2 : x = false -> Wp K ρ o Q) : Sx K ρ (.If t b o p) Q := MD (.of h) h1 h2
theorem mV {x : Bool} (h : Tr K ρ t x) (h1 : x = true -> Wp K ρ b (tQ K r Q)) (h2 : x = false -> Wp K ρ o (tQ K r Q)) : Wp K ρ (.If t b o p :: r) Q := qj (Oj h h1 h2)
theorem IC : Ex K ρ (.Break p) ρ .brk := λ c G O m s R E hE hX => wpAny_Break ⟨ρ, .brk, ⟨rfl, rfl⟩, rfl, G, O, m, R, Pz.rfl⟩
theorem zr : Ex K ρ (.Continue p) ρ .cont := λ c G O m s R E hE hX => ml ⟨ρ, .cont, ⟨rfl, rfl⟩, rfl, G, O, m, R, Pz.rfl⟩
theorem HQ (h : mO K ρ e v) : Ex K ρ (.Return (some e) p) ρ (.ret v) := λ c G O m s R E hE hX => cK (Gv.then (h c.toCf G s R.es) λ u s' G' g q => ⟨ρ, .ret v, ⟨rfl, rfl⟩, u, rfl, G', (R.go g).retOk, q⟩)
theorem Fi {l : List PV} (hx : nQ K.sc x = true) (ho : K.ow.contains x = true) (hr : ρ.get x = some (.list l)) : Ex K ρ (.Return (some (.Name x q)) p) ρ (.ret (.list l)) := λ c G O m s R E hE hX => cK (by
 obtain ⟨v, va, w⟩ := R.val x _ hr hx
 unfold oH at w
 rw [ho] at w
 obtain ⟨a, vs, n, rfl, oa, ho', hr', hc⟩ := w
 refine b8 ((va.look R.ns).load (c := c.toCf) ?_) ((pQ.mp hx).elim (λ e => c.dbg x _ e) λ e => c.dbg x _ e)
 have A := R.ow _ _ oa
 have le : G.le (G.add a (lObj vs n)) := λ b o e => by
  unfold Fz.add
  split
  ·rename_i q; subst q; rw [A.g] at e; cases e
  ·exact e
 refine ⟨ρ, .ret _, ⟨rfl, rfl⟩, _, rfl, G.add a (lObj vs n), ⟨R.rest, R.gens, R.kp, R.sl, R.le.trans le, λ b o e => ?_, λ b o e => ?_, λ e => (R.tab e).keep le λ _ _ _ e => e⟩, a, vs, n, rfl, Fz.add_self, hr'.mono le, hc⟩
 ·unfold Fz.add
  split
  ·rename_i q; subst q; rw [A.new] at e; cases e
  ·exact R.old b o e
 ·unfold Fz.add at e
  split at e
  ·rename_i q; subst q; cases e; exact ho'
  ·exact R.sub b o e)
end
noncomputable def Ck (ts vs : List Expr) : Bool := !(ts.length == 2 || ts.length == 3) || vs.all (foldedForSure 8)
inductive KK (W : Wo) (G : Fz) (s : Shared) (p : PV) (v : Value) (s' : Shared) : Prop
 | mk (G' : Fz) (a : Addr) (g : Go G s G' s') (e : v = .ref a) (n : s.heap.get? a = none) (ga : G' a = none) (al : ∃ o, s'.heap.get? a = some o) (w : On W G' s'.heap p a) (ne : (a == sysModules) = false)
noncomputable def JV (K : Ky) (ρ : En) (e : Expr) (v : PV) : Prop := ∀ (c : Cf K) G s, ES c ρ G s -> wpAny (Mo c.W) c.A (eval e c.env) (KK c.W G s v) No s
inductive Vf (K : Ky) (ρ : En) (x : Str) (e : Expr) (v : PV) : Prop
 | own (ho : K.ow.contains x = true) (h : JV K ρ e v)
 | val (ho : K.ow.contains x = false) (h : mO K ρ e v)
inductive VF (K : Ky) (ρ : En) : List Expr -> List Expr -> List PV -> Prop
 | nil : VF K ρ [] [] []
 | cons {x p ts e es v vs} (hn : mU e) (h : Vf K ρ x e v) (t : VF K ρ ts es vs) : VF K ρ (.Name x p :: ts) (e :: es) (v :: vs)
inductive vv {K : Ky} (c : Fc K) (O : Addr -> Option Tg) (G : Fz) (h : Heap) : List Expr -> List PV -> List Value -> Prop
 | nil : vv c O G h [] [] []
 | cons {x q ts p ps u us} (a : oH c O G h x p u) (t : vv c O G h ts ps us) : vv c O G h (.Name x q :: ts) (p :: ps) (u :: us)
inductive Ow {K : Ky} (c : Fc K) (ρ : En) (m : Str -> Option Value) (G : Fz) (O : Addr -> Option Tg) (s : Shared) (P : (Addr -> Option Tg) -> Fz -> Heap -> Prop) (s' : Shared) : Prop
 | mk (G' : Fz) (O' : Addr -> Option Tg) (r : FR c ρ G' O' m s') (z : Pz c G O s G' O' s') (g : G.le G') (k : ∀ b t, O b = some t -> O' b = some t /\ ∀ o, s.heap.get? b = some o -> s'.heap.get? b = some o) (p : P O' G' s'.heap)
section
variable {K : Ky} {c : Fc K} {ρ ρ' : En} {G G' : Fz} {O O' : Addr -> Option Tg} {m m' : Str -> Option Value} {s s' : Shared} {h h' : Heap} {x : Str} {p q : Pos} {v : PV} {u : Value} {S : Addr -> Prop} {es ts : List Expr} {vs : List PV} {e l r t : Expr} {E : Value -> Shared -> Prop} {n n' : Nat} {W : Wo} {w : Bool}
theorem tv (h : nJ K ρ es vs) (hl : vs.length <= cap) : JV K ρ (.List es p) (.list vs) := λ c G s S => by
 rw [jF]
 refine aa (aI (aa (oX (wk h S) λ us s' q_ => q_.casesOn λ G' g q => ?_)))
 have hc : us.length <= cap := by rw [q.length]; exact hl
 refine cq ?_ (tI hc)
 have k : Go G' s' G' { s' with heap := s'.heap.push (lObj us 0) } := nZ (t := s'.toks) g.u.sub λ b o e => aj _ e
 exact ⟨G', _, g.trans k, rfl, g.new nW, m4 g.u.sub nW, ⟨_, aJ _ rfl⟩, ⟨us, 0, aJ _ rfl, q, hc⟩, zw c.hw (S.go g).base⟩
theorem we : JV K ρ (.Dict [] [] p) (.dict []) := λ c G s S => by
 refine wpAny_Dict_empty ?_
 have k : Go G s G { s with heap := s.heap.push { cls := .type "dict", data := .dict #[] } } := nZ (t := s.toks) S.sub λ b o e => aj _ e
 exact ⟨G, _, k, rfl, nW, m4 S.sub nW, ⟨_, aJ _ rfl⟩, ⟨[], mz s.heap, rfl, rfl, bM _⟩, zw c.hw S.base⟩
theorem MF {a b : List PV} (h1 : Ev K ρ l (.list a)) (h2 : Ev K ρ r (.list b)) (hc : (a ++ b).length <= cap) : JV K ρ (.BinOp l .Add r p) (.list (a ++ b)) := λ c G s S => by
 rw [mu]
 refine Gv.bind (h1.at S) λ x s₁ G₁ g₁ p₁ => aa (aO (Gv.then (h2.at (S.go g₁)) λ y s₂ G₂ g₂ p₂ => aa (aI (fh ?_))))
 obtain ⟨l1, vs1, n1, rfl, ho1, hr1, _⟩ := (p₁.vw.go g₂).list g₂.u.sub
 obtain ⟨l2, vs2, n2, rfl, ho2, hr2, _⟩ := p₂.vw.list g₂.u.sub
 have hc' : (vs1 ++ vs2).length <= cap := by rw [(hr1.append hr2).length]; exact hc
 have k : Go G₂ s₂ G₂ { s₂ with heap := s₂.heap.push (lObj (vs1 ++ vs2) 0) } := nZ (t := s₂.toks) g₂.u.sub λ b o e => aj _ e
 exact yA ho1 ho2 hc' ⟨G₂, _, (g₁.trans g₂).trans k, rfl, (g₁.trans g₂).new nW, m4 g₂.u.sub nW, ⟨_, aJ _ rfl⟩, ⟨_, 0, aJ _ rfl, hr1.append hr2, hc'⟩, zw c.hw ((S.go g₁).go g₂).base⟩
theorem FR.own {a : Addr} (R : FR c ρ G O m s) (g : Go G s G' s') (n : s.heap.get? a = none) (ga : G' a = none) (al : ∃ o, s'.heap.get? a = some o) (x : Str) {P : (Addr -> Option Tg) -> Fz -> Heap -> Prop} (hP : ∀ O', O' a = some (.own x) -> P O' G' s'.heap) : Ow c ρ m G O s P s' := by
 have na : a ∉ c.fr := λ h => by obtain ⟨o, ho⟩ := R.frAl h; rw [n] at ho; cases ho
 have Oa : O a = none := by
  cases e : O a with
  | none => rfl
  | some t => obtain ⟨o, ho⟩ := R.alive e; rw [n] at ho; cases ho
 have R' := R.go g
 have up : ∀ b t, O b = some t -> (if b = a then some (Tg.own x) else O b) = some t := λ b t e => by rw [if_neg (by rintro rfl; rw [Oa] at e; cases e)]; exact e
 refine ⟨G', λ b => if b = a then some (.own x) else O b, R'.core (Kx.rfl R'.sub) (λ b h => h.elim) (λ b t e => ?_) (up _ _ R.fo) R'.ns (λ y hy => ?_) (λ y q hr hy => ?_), ⟨λ b o _ _ e => g.get e, λ b o h _ e => ⟨g.u.old b o e, (if_neg (by rintro rfl; rw [n] at e; cases e)).trans h⟩, g.u.le⟩, g.u.le, λ b t e => ⟨up b t e, λ o => g.get⟩, hP _ (if_pos rfl)⟩
 ·by_cases q : b = a
  ·subst q
   refine ⟨ga, ?_, al, λ h => absurd h na⟩
   cases e : c.sb.heap.get? b with
   | none => rfl
   | some o => have := R.kp b o na e; rw [n] at this; cases this
  ·rw [if_neg q] at e; exact R'.ow b t e
 ·obtain ⟨a', o, h1, h2, h3⟩ := R'.cel y hy; exact ⟨a', o, h1, up _ _ h2, h3⟩
 ·obtain ⟨v, l, w⟩ := R'.val y q hr hy
  exact ⟨v, l, vP.keep (λ b e => ⟨up _ _ e, λ _ e => e⟩) Fz.le.rfl w⟩
theorem FR.ow0 (R : FR c ρ G O m s) (g : Go G s G' s') {P : (Addr -> Option Tg) -> Fz -> Heap -> Prop} (hP : P O G' s'.heap) : Ow c ρ m G O s P s' := ⟨G', O, R.go g, Pz.go g, g.u.le, λ b t e => ⟨e, λ o => g.get⟩, hP⟩
theorem C3 (h : Vf K ρ x e v) (R : FR c ρ G O m s) : wpAny (Mo c.W) c.A (eval e c.env) (λ u s' => Ow c ρ m G O s (λ O' G' h' => oH c O' G' h' x v u) s') No s := by
 rcases h with ⟨ho, h⟩ | ⟨ho, h⟩
 ·refine oX (h c.toCf G s R.es) λ u s' q_ => q_.casesOn λ G' a g e n ga al w ne => R.own g n ga al x λ O' ho' => ?_
  unfold oH
  rw [ho]
  cases v with
  | list ps => obtain ⟨vs, n, g, r, cc⟩ := w; exact ⟨a, vs, n, e, ho', g, r, cc⟩
  | dict ps => obtain ⟨us, d, k, r, cc⟩ := w; exact ⟨a, us, e, ho', d, k, r, cc, ne⟩
  | _ => exact w.elim
 ·exact Gv.then (h c.toCf G s R.es) λ u s' G' g q => R.ow0 g (by unfold oH; rw [ho]; exact .inl q)
theorem wT.old (h : oH c O G s.heap x v u) : wT c O G s x v u O := ⟨λ _ _ e => e, λ _ _ e => .inl e, h⟩
theorem Pz.st {z : Addr} (R : FR c ρ G O m s) (hz : z = c.env.locals \/ O z = some (.cell x)) (k : Kx (· = z) G s G s') : Pz c G O s G O s' := .kx k λ b e => .inl (by rw [e]; rcases hz with e | e <;> rw [e]; rw [R.fo]; all_goals exact nofun)
theorem tJ (hs : ∀ l env, swapsWith e (some (.Name x p)) l env = pure false) (hx : nQ K.sc x = true) (h : Vf K ρ x e v) : Ex K ρ (.Assign [.Name x p] e q) (ρ.set x v) .next := λ c G O m s R E hE hX =>
 c4 (oX (C3 h R) (by rintro u s' ⟨G', O', R', z, _, _, hv⟩; exact R'.store hx (wT.old hv) λ s'' m'' y hy k R'' => ⟨_, .next, ⟨rfl, rfl⟩, rfl, G', O', m'', R'', z.trans (Pz.st R' hy k)⟩)) (hs _ _)
theorem vv.keep (k : ∀ b x, O b = some (.own x) -> O' b = some (.own x) /\ ∀ o, h.get? b = some o -> h'.get? b = some o) (le : G.le G') {us : List Value} (a : vv c O G h ts vs us) : vv c O' G' h' ts vs us := by
 induction a with
 | nil => exact .nil
 | cons a t ih => exact .cons (vP.keep (λ b => k b _) le a) ih
theorem vv.len {us : List Value} (a : vv c O G h ts vs us) : us.length = vs.length := by
 induction a with
 | nil => rfl
 | cons a t ih => exact congrArg ee ih
theorem NU (a : VF K ρ ts es vs) (R : FR c ρ G O m s) : wpAny (Mo c.W) c.A (spliced (backTo p (starEach es c.env))) (λ us s' => Ow c ρ m G O s (λ O' G' h' => vv c O' G' h' ts vs us) s') No s := by
 induction a generalizing G O s with
 | nil => exact bz (R.ow0 (Go.rfl R.sub) .nil)
 | cons hn h t ih =>
  rw [hn]
  refine aW (oX (C3 h R) (by rintro u s₁ ⟨G₁, O₁, R₁, z₁, l₁, k₁, v₁⟩; exact oX (ih R₁) (by rintro us s₂ ⟨G₂, O₂, R₂, z₂, l₂, k₂, v₂⟩; exact ⟨G₂, O₂, R₂, z₁.trans z₂, l₁.trans l₂, λ b t e => ⟨(k₂ b t (k₁ b t e).1).1, λ o q => (k₂ b t (k₁ b t e).1).2 o ((k₁ b t e).2 o q)⟩, .cons (vP.keep (λ b e => k₂ b _ e) l₂ v₁) v₂⟩)))
theorem pU.len (a : pU K w ts vs ρ ρ') {env : Env} : (assignEach ts env).length = vs.length /\ (assignEach ts env).findIdx? (·.1) = none := by
 induction a with
 | nil => exact ⟨rfl, rfl⟩
 | @cons x p ts v vs ρ ρ' h t ih =>
  have e : assignEach (.Name x p :: ts) env = (false, assign (.Name x p) env) :: assignEach ts env := rfl
  rw [e]
  exact ⟨congrArg ee ih.1, by rw [List.findIdx?_cons, ih.2]; rfl⟩
theorem Cu (a : pU K w ts vs ρ ρ') : ∀ {us : List Value} {m : Str -> Option Value} {s : Shared}, vv c O G s.heap ts vs us -> FR c ρ G O m s -> wpAny (Mo c.W) c.A (assignInOrder ((assignEach ts c.env).map (·.2)) us) (λ _ s' => FE c G O s s' ρ') No s := by
 induction a with
 | nil => intro us m s a R; cases a; exact fV ⟨G, O, m, R, Pz.rfl⟩
 | @cons x p ts v vs ρ ρ' h t ih =>
  intro us m s a R
  cases a with
  | cons a b =>
   show wpAny _ _ (assignInOrder (assign (.Name x p) c.env :: (assignEach ts c.env).map (·.2)) _) _ _ _
   refine dg (cZ (R.store (bL.mp h).1 (wT.old a) λ s' m' z hz k R' => oX (ih (b.keep (λ d y e => ⟨e, λ o => k.kp d o λ q => ?_⟩) Fz.le.rfl) R') (by rintro _ s'' ⟨G'', O'', m'', R'', P⟩; exact ⟨G'', O'', m'', R'', (Pz.st R hz k).trans P⟩)))
   subst q
   rcases hz with q | q
   ·rw [q, R.fo] at e; cases e
   ·rw [q] at e; cases e
theorem zp {k k' : Nat} {p p' : Pos} {env : Env} (h : Ck ts es = true) : swappedStores [.Tuple ts k p] (.Tuple es k' p') env = pure none := by
 show (if (!(ts.length == 2 || ts.length == 3) || es.length != ts.length || env.blockKind != .function) = true then pure none else _) = _
 by_cases e : (!(ts.length == 2 || ts.length == 3) || es.length != ts.length || env.blockKind != .function) = true
 ·rw [if_pos e]
 ·rw [if_neg e]
  have h : es.all (foldedForSure 8) = true := by
   unfold Ck at h
   rw [bq] at h
   exact h.resolve_left λ q => e (by rw [q]; rfl)
  split
  ·rfl
  ·dsimp only
   split
   ·rfl
   ·rfl
theorem yo {us : List Value} (a : pU K w ts vs ρ ρ') (b : vv c O G s.heap ts vs us) (R : FR c ρ G O m s) {d : Addr} {k : Nat} (hd : s.heap.get? d = some (tB us k)) : wpAny (Mo c.W) c.A (assign (.Tuple ts n p) c.env (.ref d)) (λ _ s' => FE c G O s s' ρ') No s := by
 have hl := b.len
 rw [gg]
 refine aa (aI (lj (c.hd c.nh) (oF hd) (by rw [a.len.1, aG, hl]) a.len.2 λ h' he => ?_))
 have g : Go G s G { s with heap := h' } := nZ (t := s.toks) R.sub λ b o e => he b o (aE (aR e)) e
 exact oX (Cu a (s := { s with heap := h' }) (b.keep (λ d x e => ⟨e, λ o => g.get⟩) Fz.le.rfl) (R.go g)) (by rintro _ s' ⟨G', O', m', R', P⟩; exact ⟨G', O', m', R', (Pz.go g).trans P⟩)
theorem w9 (hw : Ck ts es = true) (hv : VF K ρ ts es vs) (hs : pU K true ts vs ρ ρ') (hl : vs.length <= cap) {p' : Pos} : Ex K ρ (.Assign [.Tuple ts n p] (.Tuple es n' p') q) ρ' .next := λ c G O m s R E hE hX => by
 rw [i3]
 have hsole : swapsWithSole [.Tuple ts n p] (.Tuple es n' p') q.line c.env = pure false := rfl
 refine aa (aI (aa (dq hsole ?_)))
 rw [if_neg nofun, fK]
 refine aa (aa (aI (aa (oX (NU hv R) λ us s₁ q_ => q_.casesOn λ G₁ O₁ R₁ z₁ l₁ k₁ v₁ => ?_))))
 have hul : us.length <= cap := by rw [v₁.len]; exact hl
 refine cq (aa (dq (zp hw) ?_)) (tI hul)
 have g : Go G₁ s₁ G₁ { s₁ with heap := s₁.heap.push (tB us 0) } := nZ (t := s₁.toks) R₁.sub λ b o e => aj _ e
 unfold assignStores
 show wpAny _ _ (assign (.Tuple ts n p) c.env (.ref s₁.heap.objs.size) >>= λ _ => pure kD) _ _ _
 exact aa (oX (yo hs (v₁.keep (λ d x e => ⟨e, λ o => g.get⟩) Fz.le.rfl) (R₁.go g) (aJ _ rfl)) (by rintro _ s' ⟨G', O', m', R', P⟩; exact ai ⟨_, .next, ⟨rfl, rfl⟩, rfl, G', O', m', R', z₁.trans ((Pz.go g).trans P)⟩))
theorem vv.of (a : pU K false ts vs ρ ρ') : ∀ {us : List Value}, nG c.W G vs us -> vv c O G h ts vs us := by
 induction a with
 | nil => intro us hv; cases (show _ = _ from hv); exact .nil
 | cons hh t ih =>
  intro us hv
  obtain ⟨u, us, rfl, hv, hr⟩ := hv
  refine .cons ?_ (ih hr)
  have := (bL.mp hh).2
  rw [b7, aN] at this
  unfold oH
  rw [this]
  exact .inl hv
theorem Dp (a : sR K t v ρ ρ') (hv : VR c.W G v u) (R : FR c ρ G O m s) : wpAny (Mo c.W) c.A (assign t c.env u) (λ _ s' => FE c G O s s' ρ') No s := by
 cases a with
 | one h =>
  rw [av, aN] at h
  exact cZ (R.store h.1 (.vr h.2 hv) λ s' m' z hz k R' => ⟨G, O, m', R', Pz.st R hz k⟩)
 | tup a =>
  obtain ⟨d, us, k, rfl, g, r, _⟩ := hv
  exact yo a (.of a r) R (R.sub _ _ g)
theorem Mt (he : ∀ env, swappedStores [.Tuple ts n p] e env = pure none) (hl : ∀ l env, swapsWithSole [.Tuple ts n p] e l env = pure false) (hv : mO K ρ e (.tuple vs)) (hs : pU K false ts vs ρ ρ') : Ex K ρ (.Assign [.Tuple ts n p] e q) ρ' .next := λ c G O m s R E hE hX => by
 rw [i3]
 refine aa (aI (aa (dq (hl _ _) ?_)))
 rw [if_neg nofun]
 refine Gv.bind (hv c.toCf G s R.es) λ u s₁ G₁ g p₁ => aa (dq (he _) ?_)
 unfold assignStores
 show wpAny _ _ (assign (.Tuple ts n p) c.env u >>= λ _ => pure kD) _ _ _
 exact aa (oX (Dp (.tup hs) p₁ (R.go g)) (by rintro _ s' ⟨G', O', m', R', P⟩; exact ai ⟨_, .next, ⟨rfl, rfl⟩, rfl, G', O', m', R', (Pz.go g).trans P⟩))
end
section
variable {s : Shared}
theorem uy {W : Wo} {A : Around} {env : Env} {target : Expr} {it : Value} {body : List Stmt} {R : Result -> Shared -> Prop}
  (h : wpAny (Mo W) A (pyNext it) (λ r s₁ => match r with
   | none => R (.ok .next) s₁
   | some v => wpAny (Mo W) A (letOwnedTupleGo target it v) (λ _ s₂ => wpAny (Mo W) A (assign target env v) (λ _ s₃ => wpAny (Mo W) A (execs body env) (λ f s₄ => match f with
     | .next | .cont => codeAny (Mo W) A (.forLoop target it body [] env) R s₄
     | .brk => R (.ok .next) s₄
     | .ret v => R (.ok (.ret v)) s₄) (notedBy (Mo W) A env λ e s' => R (.error e) s') s₃) No s₂) No s₁) No s) : codeAny (Mo W) A (.forLoop target it body [] env) R s := by
 refine fm ?_
 show wpAny _ A ((forTurn target it body [] env).onRaise (λ x => do noteFrame x env; theTreesLotGoes x)) _ _ s
 refine kI ?_
 simp only [forTurn]
 refine aa (aI (aa (mA (oX h λ r s₁ h₁ => ?_))))
 cases r with
 | none => exact ai ⟨rfl, codeAny_block (bY h₁)⟩
 | some v =>
  refine aa (oX h₁ λ _ s₂ h₂ => ?_)
  refine aa (oX h₂ λ _ s₃ h₃ => aa (ay h₃ (λ f s₄ h₄ => ?_) λ _ _ h' => h'))
  cases f with
  | next => exact ai ⟨rfl, h₄⟩
  | cont => exact ai ⟨rfl, h₄⟩
  | brk => exact ai h₄
  | ret v => exact ai h₄
theorem wY {W : Wo} {A : Around} {env : Env} {test : Expr} {body : List Stmt} {R : Result -> Shared -> Prop}
  (h : wpAny (Mo W) A (isTrue test env (eval test env)) (λ b s₂ =>
    if b then wpAny (Mo W) A (execs body env) (λ f s₃ => match f with
      | .next | .cont => codeAny (Mo W) A (.whileLoop test body [] env) R s₃
      | .brk => R (.ok .next) s₃
      | .ret v => R (.ok (.ret v)) s₃) (notedBy (Mo W) A env λ e s' => R (.error e) s') s₂
    else R (.ok .next) s₂) No s) : codeAny (Mo W) A (.whileLoop test body [] env) R s := by
 refine fm ?_
 show wpAny _ A ((whileTurn test body [] env).onRaise (λ x => do noteFrame x env; theTreesLotGoes x)) _ _ s
 refine kI ?_
 simp only [whileTurn]
 refine aa (oX h λ b s₂ h₂ => ?_)
 cases b with
 | false =>
  simp only [bB, if_false] at h₂ |-
  exact aa (bY (ai h₂))
 | true =>
  simp only [if_true] at h₂ |-
  refine aa (ay h₂ (λ f s₃ h₃ => ?_) λ _ _ h' => h')
  cases f with
  | next => exact ai ⟨rfl, h₃⟩
  | cont => exact ai ⟨rfl, h₃⟩
  | brk => exact ai h₃
  | ret v => exact ai h₃
end
noncomputable def Au (R : En -> Prop) (Q : En -> Fl -> Prop) (ρ : En) (fl : Fl) : Prop := match fl with
 | .next => R ρ
 | .cont => R ρ
 | .brk => Q ρ .next
 | fl => Q ρ fl
noncomputable abbrev Ca {K : Ky} (c : Fc K) (G₀ : Fz) (O₀ : Addr -> Option Tg) (s₀ : Shared) (Q : En -> Fl -> Prop) (E : Value -> Shared -> Prop) : Result -> Shared -> Prop := λ r s' => match r with
 | .ok f => Po c G₀ O₀ s₀ Q f s'
 | .error e => cameBackBy (Mo c.W) c.A c.env E e s'
noncomputable def uW (K : Ky) (ρ : En) (t : Expr) (b : List Stmt) (xs : List PV) (Q : En -> Fl -> Prop) : Prop := ∀ (c : Fc K) G₀ O₀ s₀ G O m s I own src tt, FR c ρ G O m s -> Pz c G₀ O₀ s₀ G O s -> s4 c.W G s.heap I own src xs tt -> (tt = true -> BV t) -> (∀ a, a ∈ own \/ a ∈ src -> O a = none /\ a ∉ c.fr) -> (∀ a ∈ own, s₀.heap.get? a = none /\ c.sb.heap.get? a = none) ->
 ∀ E, PassesOwn (Mo c.W) c.A c.env E -> uj c G₀ O₀ s₀ Q E -> codeAny (Mo c.W) c.A (.forLoop t (.ref I) b [] c.env) (Ca c G₀ O₀ s₀ Q E) s
section
variable {K : Ky} {c : Fc K} {ρ ρ' : En} {G G' G₀ : Fz} {O O' O₀ : Addr -> Option Tg} {m m' : Str -> Option Value} {s s' s₀ : Shared} {x : Str} {p q : Pos} {v : PV} {u : Value} {S : Addr -> Prop} {b r : List Stmt} {xs : List PV} {t it : Expr} {Q Q' : En -> Fl -> Prop} {E : Value -> Shared -> Prop}
theorem Pz.kx' (P : Pz c G₀ O₀ s₀ G O s) (k : Kx S G s G' s') (hS : ∀ b, S b -> s₀.heap.get? b = none) : Pz c G₀ O₀ s₀ G' O s' :=
 ⟨λ d o h1 h2 e => k.kp d o (λ h => by rw [hS d h] at e; cases e) (P.kp d o h1 h2 e), λ d o h1 h2 e => ⟨(k.old d o (λ h => by rw [hS d h] at e; cases e) (P.kp d o h1 h2 e)).trans (P.old d o h1 h2 e).1, (P.old d o h1 h2 e).2⟩, P.le.trans k.le⟩
theorem s5 (h : Q ρ .next) : uW K ρ t b [] Q := λ c G₀ O₀ s₀ G O m s I own src tt R P i ht ha hf E hE hX =>
 uy (ay (i.done (E := No) (Q := λ r s' => r = none /\ Po c G₀ O₀ s₀ Q .next s') (c.hd c.nh) λ s' k => ⟨rfl, ρ, .next, h, rfl, G, O, m, R.kx k λ b hb => ⟨(ha b (.inl hb)).1, (hf b hb).2, (ha b (.inl hb)).2⟩, P.kx' k λ b hb => (hf b hb).1⟩) (λ r s' h => by
  obtain ⟨rfl, h⟩ := h; exact h) λ _ _ e => e)
theorem rp {x : PV} (hb : sR K t x ρ ρ') (h : Wp K ρ' b (Au (λ ρ => uW K ρ t b xs Q) Q)) : uW K ρ t b (x :: xs) Q := λ c G₀ O₀ s₀ G O m s I own src tt R P i ht ha hf E hE hX => by
 refine uy (ay (i.next (E := No) (target := t) (Q := λ v s₂ => ∃ G₂, Kx (· ∈ own) G s G₂ s₂ /\ VR c.W G₂ x v /\ s4 c.W G₂ s₂.heap I own src xs tt) ht λ v s' G' a b c => ⟨G', a, b, c⟩) (λ r s₁ h₁ => ?_) λ _ _ e => e)
 cases r with
 | none => exact h₁.elim
 | some v =>
 refine oX h₁ λ _ s₂ ⟨G₂, k₂, v₂, i₂⟩ => ?_
 have P₂ := P.kx' k₂ λ b hb => (hf b hb).1
 refine oX (Dp hb v₂ (R.kx k₂ λ b hb => ⟨(ha b (.inl hb)).1, (hf b hb).2, (ha b (.inl hb)).2⟩)) λ _ s₃ q_ => q_.casesOn λ G₃ O₃ m₃ R₃ P₃ => ?_
 have P₀₃ := P₂.trans P₃
 have on : ∀ s₄ ρ₄ (_ : uW K ρ₄ t b xs Q), FE c G₃ O₃ s₃ s₄ ρ₄ -> codeAny (Mo c.W) c.A (.forLoop t (.ref I) b [] c.env) (Ca c G₀ O₀ s₀ Q E) s₄ := (by
  rintro s₄ ρ₄ F ⟨G₄, O₄, m₄, R₄, P₄⟩
  have P' := P₃.trans P₄
  exact F c G₀ O₀ s₀ G₄ O₄ m₄ s₄ I own src tt R₄ (P₀₃.trans P₄) (i₂.to ⟨P'.le, R₄.sub, λ b hb => by obtain ⟨o, ho⟩ := i₂.al b (.inl hb); rw [(P'.old b o (ha b (.inl hb)).1 (ha b (.inl hb)).2 ho).1]; exact i₂.lt.nn b hb, λ b o hb e => P'.kp b o (ha b hb).1 (ha b hb).2 e⟩) ht (λ a hm => by obtain ⟨o, ho⟩ := i₂.al a hm; exact ⟨(P'.old a o (ha a hm).1 (ha a hm).2 ho).2, (ha a hm).2⟩) hf E hE hX)
 refine lZ hE (ay (h c G₃ O₃ m₃ s₃ R₃ E hE (hX.on P₀₃ λ ρ q => q)) (λ f s₄ q_ => q_.casesOn λ ρ₄ fl q h₄ => ?_) λ _ _ e => e)
 cases fl with
 | next => obtain ⟨rfl, h₄⟩ := h₄; exact on s₄ ρ₄ q h₄
 | cont => obtain ⟨rfl, h₄⟩ := h₄; exact on s₄ ρ₄ q h₄
 | brk => obtain ⟨rfl, G₄, O₄, m₄, R₄, P₄⟩ := h₄; exact ⟨ρ₄, .next, q, rfl, G₄, O₄, m₄, R₄, P₀₃.trans P₄⟩
 | ret v => obtain ⟨u, rfl, h₄⟩ := h₄; exact ⟨ρ₄, .ret v, q, u, rfl, h₄⟩
 | err => exact h₄.elim
theorem DM {α : Type} (inj : α -> PV) (I : List α -> List α -> En -> Prop) (hs : ∀ done a l ρ, I done (a :: l) ρ -> ∃ ρ0, sR K t (inj a) ρ ρ0 /\ Wp K ρ0 b (Au (I (done ++ [a]) l) Q)) (hr : ∀ done ρ, I done [] ρ -> Q ρ .next) : ∀ (l done : List α) (ρ : En), I done l ρ -> uW K ρ t b (l.map inj) Q := by
 intro l_
 induction l_ with
 | nil =>
  rintro done ρ h
  exact s5 (hr done ρ h)
 | cons a l ih =>
  rintro done ρ h
  obtain ⟨ρ0, h1, h2⟩ := hs done a l ρ h
  exact rp h1 (h2.mono λ ρ' fl g => by
    cases fl with
    | next => exact ih _ ρ' g
    | cont => exact ih _ ρ' g
    | _ => exact g)
theorem Hu {σ α : Type} (inj : α -> PV) (E : σ -> En) (step : σ -> α -> σ) : ∀ (l : List α) (s : σ), (∀ a ∈ l, ∀ s, ∃ ρ0, sR K t (inj a) (E s) ρ0 /\ Wp K ρ0 b λ ρ' fl => ρ' = E (step s a) /\ (fl = .next \/ fl = .cont)) -> Q (E (l.foldl step s)) .next -> uW K (E s) t b (l.map inj) Q := by
 intro l_
 induction l_ with
 | nil =>
  rintro s _ h
  exact s5 h
 | cons a l ih =>
  rintro s h g
  obtain ⟨ρ0, h1, h2⟩ := h a (.head _) s
  exact rp h1 (h2.mono λ ρ' fl q_ => q_.casesOn λ e g' => by
    have := ih (step s a) (λ b hb => h b (.tail _ hb)) g
    rcases g' with rfl | rfl <;> exact e ▸ this)
theorem FR.fresh (R : FR c ρ G O m s) {a : Addr} (h : s.heap.get? a = none) : O a = none /\ c.sb.heap.get? a = none /\ a ∉ c.fr := by
 have na : a ∉ c.fr := λ q => by obtain ⟨o, ho⟩ := R.frAl q; rw [h] at ho; cases ho
 refine ⟨?_, ?_, na⟩
 ·cases e : O a with
  | none => rfl
  | some t => obtain ⟨o, ho⟩ := R.alive e; rw [h] at ho; cases ho
 ·cases e : c.sb.heap.get? a with
  | none => rfl
  | some o => have := R.kp a o na e; rw [h] at this; cases this
theorem FR.frozen (R : FR c ρ G O m s) {a : Addr} (h : G a ≠ none) : O a = none /\ a ∉ c.fr := by
 refine ⟨?_, λ q => h (R.gF a q)⟩
 cases e : O a with
 | none => rfl
 | some t => exact absurd (R.ow a t e).g h
theorem MJ (hi : o7 K.ow it = true) (hf : ∀ env x, foldedSetIterable it env x = pure x) (ht : sr it = true -> BV t) (h : xQ K ρ it xs) (g : uW K ρ t b xs Q) : Sx K ρ (.For t it b [] p) Q := λ c G O m s R E hE hX =>
 lO (oX (h c.toCf G s R.es) λ v s₁ h₁ => oX h₁ λ i s₂ x => by
  obtain ⟨G', I, own, src, tt, e, k, i, sf, h1, h2, h3⟩ := x
  subst e
  have R' := R.go k
  have P := Pz.go (c := c) (O := O) k
  exact g c G O s G' O m s₂ I own src tt R' P i (λ e => ht (h1 e)) (λ a ha => by
   rcases ha with ha | ha
   ·exact ⟨(R.fresh (h2 a ha)).1, (R.fresh (h2 a ha)).2.2⟩
   ·rcases h3 hi a ha with q | q
    ·exact R'.frozen q
    ·exact ⟨(R.fresh q).1, (R.fresh q).2.2⟩) (λ a ha => ⟨h2 a ha, (R.fresh (h2 a ha)).2.1⟩) E hE hX) (hf _)
theorem zD (hi : o7 K.ow it = true) (hf : ∀ env x, foldedSetIterable it env x = pure x) (ht : sr it = true -> BV t) (h : xQ K ρ it xs) (g : uW K ρ t b xs (tQ K r Q)) : Wp K ρ (.For t it b [] p :: r) Q := qj (MJ hi hf ht h g)
noncomputable def Nt (K : Ky) (ρ : En) (t : Expr) (b : List Stmt) (Q : En -> Fl -> Prop) : Prop := ∀ (c : Fc K) G₀ O₀ s₀ G O m s, FR c ρ G O m s -> Pz c G₀ O₀ s₀ G O s -> ∀ E, PassesOwn (Mo c.W) c.A c.env E -> uj c G₀ O₀ s₀ Q E -> codeAny (Mo c.W) c.A (.whileLoop t b [] c.env) (Ca c G₀ O₀ s₀ Q E) s
theorem CF (h : LU K ρ t false) (g : Q ρ .next) : Nt K ρ t b Q := λ c G₀ O₀ s₀ G O m s R P E hE hX =>
 wY (oX (h c G O m s R) λ x s' ⟨e, G', R', P'⟩ => by
  subst e
  exact ⟨ρ, .next, g, rfl, G', O, m, R', P.trans P'⟩)
theorem DW (h : LU K ρ t true) (g : Wp K ρ b (Au (λ ρ => Nt K ρ t b Q) Q)) : Nt K ρ t b Q := λ c G₀ O₀ s₀ G O m s R P E hE hX =>
 wY (oX (h c G O m s R) λ x s₃ ⟨e, G₃, R₃, P₃⟩ => by
  subst e
  have P₀₃ := P.trans P₃
  refine lZ hE (ay (g c G₃ O m s₃ R₃ E hE (hX.on P₀₃ λ ρ q => q)) (λ f s₄ q_ => q_.casesOn λ ρ₄ fl q h₄ => ?_) λ _ _ e => e)
  cases fl with
  | next => obtain ⟨rfl, G₄, O₄, m₄, R₄, P₄⟩ := h₄; exact q c G₀ O₀ s₀ G₄ O₄ m₄ s₄ R₄ (P₀₃.trans P₄) E hE hX
  | cont => obtain ⟨rfl, G₄, O₄, m₄, R₄, P₄⟩ := h₄; exact q c G₀ O₀ s₀ G₄ O₄ m₄ s₄ R₄ (P₀₃.trans P₄) E hE hX
  | brk => obtain ⟨rfl, G₄, O₄, m₄, R₄, P₄⟩ := h₄; exact ⟨ρ₄, .next, q, rfl, G₄, O₄, m₄, R₄, P₀₃.trans P₄⟩
  | ret v => obtain ⟨u, rfl, h₄⟩ := h₄; exact ⟨ρ₄, .ret v, q, u, rfl, h₄⟩
  | err => exact h₄.elim)
theorem Bn (h : Nt K ρ t b Q) : Sx K ρ (.While t b [] p) Q := λ c G O m s R E hE hX => wpAny_While (h c G O s G O m s R Pz.rfl E hE hX)
end
noncomputable def pj (l : List (Bs × PV)) (k : Bs) : Option PV := l.lookup k
noncomputable def oE : List (Bs × PV) -> Bs -> PV -> List (Bs × PV)
 | [], k, v => [(k, v)]
 | (a, u) :: r, k, v => if a == k then (a, v) :: r else (a, u) :: oE r k v
section
variable {K : Ky} {c : Fc K} {ρ ρ' : En} {G G' : Fz} {O O' : Addr -> Option Tg} {m m' : Str -> Option Value} {s s' : Shared} {h h' : Heap} {x y : Str} {p q ap p2 p3 : Pos} {v : PV} {u : Value} {b : Bs} {e i k d : Expr} {E : Value -> Shared -> Prop} {W : Wo} {A : Around} {env : Env} {l r : List PV} {kvs : List (Bs × PV)} {us : List (Bs × Value)} {a : Addr} {tk : Nat}
theorem FR.var (R : FR c ρ G O m s) (hx : nQ K.sc x = true) (ho : K.ow.contains x = true) (hr : ρ.get x = some v) : ∃ u, oN c m s.heap x u /\ uJ c.W O G s.heap x v u := by
 refine mL λ gk => ?_
 obtain ⟨u, a, w⟩ := R.val x _ hr hx
 refine gk ?_
 unfold oH at w
 rw [ho] at w
 exact ⟨u, a, w⟩
theorem oN.go {u : Value} (q : oN c m s.heap x u) (g : Go G s G' s') : oN c m s'.heap x u := q.imp id (by rintro ⟨hx, a, ha, ob, h1, h2⟩; exact ⟨hx, a, ha, ob, g.get h1, h2⟩)
theorem oG (va : oN c m s.heap x u) (ns : s.heap.Ns c.env.locals m) (hx : nQ K.sc x = true) {Q : Value -> Shared -> Prop} (h : Q u s) : wpAny (Mo c.W) c.A (eval (.Name x p) c.env) Q E s :=
 b8 ((va.look ns).load (c := c.toCf) h) ((pQ.mp hx).elim (λ e => c.dbg x _ e) λ e => c.dbg x _ e)
theorem FE.back (P : Pz c G O s G' O' s') {s'' : Shared} : FE c G' O' s' s'' ρ -> FE c G O s s'' ρ := (by rintro ⟨G₂, O₂, m₂, r, p⟩; exact ⟨G₂, O₂, m₂, r, P.trans p⟩)
theorem FR.putL {vs : List Value} {n : Nat} (R : FR c ρ G O m s) (hx : nQ K.sc x = true) (ho : K.ow.contains x = true) (oa : O a = some (.own x)) (va : oN c m s.heap x (.ref a)) (g : h'.get? a = some (lObj vs n)) (hs : ∀ b o, b ≠ a -> s.heap.get? b = some o -> h'.get? b = some o) (hr : nG c.W G l vs) (hc : l.length <= cap) : FE c G O s { s with heap := h' } (ρ.set x (.list l)) := by
 have k : Kx (· = a) G s G { s with heap := h' } := tS (tk := s.toks) R.sub (R.ow _ _ oa).g hs rfl
 exact ⟨G, O, m, R.mut hx ho oa va k ⟨_, g⟩ ⟨a, vs, n, rfl, oa, g, hr, by rw [hr.length]; exact hc⟩, Pz.mut (by rw [oa]; exact nofun) k⟩
theorem zO (hx : nQ K.sc x = true) (ho : K.ow.contains x = true) (hl : (ap.endLine == p.line) = true) (hr : ρ.get x = some (.list l)) (h1 : mO K ρ e v) (hc : (l ++ [v]).length <= cap) (hn : autoParam (mU e) tF) :
  Ex K ρ (.Expr (.Call (.Attribute (.Name x q) "append" ap) [e] [] p) p3) (ρ.set x (.list (l ++ [v]))) .next := λ c G O m s R E hE hX => by
 refine mL λ gk => ?_
 obtain ⟨_, va, a, us, k, rfl, oa, ha, hr', _⟩ := R.var hx ho hr
 refine gk ?_
 refine fH ?_ (by unfold interactive; rw [c.kind]; rfl) rfl
 refine wpAny_Call_append rfl (by rw [hn]; rfl) hl (by rw [hn]; rfl) (oG va R.ns hx ⟨a, us.toArray, rfl, ⟨_, k, ha, rfl, rfl, rfl⟩, ?_⟩)
 refine Gv.then (h1 c.toCf G s R.es) λ y s₂ G₂ g p₂ => ?_
 refine jM (⟨k, g.get ha⟩ : s₂.heap.PlainList a us.toArray) (λ h' q_ hs' => q_.casesOn λ k' hl' => ?_) (by
  rw [aG, hr'.length]
  exact ac (by rw [aA] at hc; exact cU hc) tE)
 exact ⟨_, .next, ⟨rfl, rfl⟩, rfl, ((R.go g).putL (vs := us ++ [y]) (n := k') hx ho oa (va.go g) (by rw [hl']; simp) hs'.extBut ((hr'.mono g.u.le).snoc p₂) hc).back (Pz.go g)⟩
theorem wP {α : Type} : ∀ {l : List (Bool × α)}, l.any (·.1) = false -> l.all (!·.1) = true
 | [], _ => rfl
 | (b, x) :: l, h => by
  rw [dG, jB] at h
  rw [cm, wP h.2, h.1]; rfl
theorem pA {at' : Str} {as : List Expr} {ks : List Keyword} {Q : Value -> Shared -> Prop} (hline : (ap.endLine == p.line) = true) (hlen : as.length + ks.length < 15)
  (hany : (backTo p (starEach as env)).any (·.1) = false) (hkw : (backToKw p (keywordEach ks env)).all (·.1.isSome) = true)
  (h : wpAny (Mo W) A (eval (.Name x q) env) (λ ov s₁ => ∀ pl, wpAny (Mo W) A (getMethod ov at' pl) (λ fx s₂ => wpAny (Mo W) A (callWith p fx.1 fx.2 (backTo p (starEach as env)) (backToKw p (keywordEach ks env))) Q E s₂) E s₁) E s) :
  wpAny (Mo W) A (eval (.Call (.Attribute (.Name x q) at' ap) as ks p) env) Q E s := by
 have hbase : attributeBase (.Name x q) at' env (eval (.Name x q) env) = eval (.Name x q) env := rfl
 rw [arm_eval_Call, hbase]
 refine aa (ay h (λ ov s₁ h₁ => aa (aI ?_)) λ _ _ e => e)
 have hform : methodCallForm (as.length + ks.length) (backTo p (starEach as env)) (backToKw p (keywordEach ks env)) = true := by
  unfold methodCallForm
  rw [wP hany, hkw, cE, cE]
  split
  ·exact decide_eq_true (aP hlen (by decide))
  ·exact decide_eq_true (aP (fQ hlen) (by decide))
 have hpos : methodCallPos true (.Name x q) env ap p = pure p := by unfold methodCallPos; simp [hline]
 unfold methodCall
 rw [hform]
 exact aa (aO (ay (h₁ _) (λ fx s₂ h₂ => aa (dq hpos h₂)) λ _ _ e => e))
theorem Bf (hx : nQ K.sc x = true) (ho : K.ow.contains x = true) (hl : (ap.endLine == p.line) = true) (hr : ρ.get x = some (.list l)) (h1 : mO K ρ e (.list r)) (hc : (l ++ r).length <= cap) (hn : autoParam (mU e) tF) :
  Ex K ρ (.Expr (.Call (.Attribute (.Name x q) "extend" ap) [e] [] p) p3) (ρ.set x (.list (l ++ r))) .next := λ c G O m s R E hE hX => by
 refine mL λ gk => ?_
 obtain ⟨_, va, a, us, k, rfl, oa, ha, hr', _⟩ := R.var hx ho hr
 refine gk ?_
 have hany : (backTo p (starEach [e] c.env)).any (·.1) = false := by rw [hn]; rfl
 refine fH (pA hl (by decide : 1 + 0 < 15) hany rfl (oG va R.ns hx λ pl => ?_)) (by unfold interactive; rw [c.kind]; rfl) rfl
 refine lH PySem.F.slot_list_extend PySem.F.type_list_extend (mP ha) ⟨_, ha, rfl⟩ (cY hany ?_)
 rw [hn]
 refine di (aW (Gv.then (h1 c.toCf G s R.es) λ y s₂ G₂ g q_ => q_.casesOn λ b ws kb e gb rb cb => bz ?_))
 subst e
 have hlen : us.length + ws.length <= cap := by rw [hr'.length, rb.length, <- aA]; exact hc
 have ha₂ := g.get ha
 have hsz : us.toArray.size + ws.toArray.size <= sizeLine := ac hlen tE
 refine call_meets PySem.F.slot_list_extend ⟨_, ha₂, rfl⟩ PySem.F.entry_list_extend (PySem.F.args_list_extend_2 _ _) (AutoSeq1.list_extend_list_list_0 a us.toArray k b ws.toArray kb (extend_door hsz) (ac (aV _ _) hsz) (by lia)) ⟨ha₂, g.u.sub _ _ gb, ⟨_, .next, ⟨rfl, rfl⟩, rfl, ((R.go g).putL (vs := us ++ ws) (n := if (us.toArray ++ ws.toArray).size == us.toArray.size then k else k + 1) hx ho oa (va.go g) ?_ (λ b o hb e => ?_) ((hr'.mono g.u.le).append rb) hc).back (Pz.go g)⟩⟩
 ·rw [bP _ ha₂ (by rw [mapSeq_app]; rfl), mapSeq_app]; simp
 ·rw [bV _ _ (Ne.symm hb)]; exact e
theorem x5 {vs : List Value} {n k : Nat} {j : Int} {t : Tok} {v : Value} {Q : Unit -> Shared -> Prop} (hj : (k : Int) = j) (ho : s.heap.get? a = some (lObj vs n)) (hn : k < vs.length) (hc : vs.length <= cap)
  (hQ : ∀ h' n', h'.get? a = some (lObj (vs.set k v) n') -> jf a s.heap h' -> Q () { s with heap := h' }) : wpAny (Mo W) A (setItem (.ref a) (.int j t) v) Q E s := by
 have hl : s.heap.IsList a vs.toArray := mP ho
 have hd : (lObj vs n).data = .seq vs.toArray n := rfl
 have hfit := fitsIndex_of (hj ▸ bC k : 0 <= j) (hj ▸ j9 (ef.mpr (aP hn hc)) (by decide))
 unfold setItem
 refine aO ?_
 refine aa (wpAny_sequenceKey hl.typeIs (by decide) ?_)
 refine aa (f8 (name := c6 "__setitem__") hl.typeIs lE
  (iH lE hl.typeIs entry_list_setitem ?_ (args_list_setitem _ _ _)))
 show wpAny _ _ (mj (.int j t) >>= _) _ _ s
 refine aa (wpAny_listSubscript_int hfit ?_)
 subst hj
 have hx' : vs.toArray[k]? = some vs.toArray[k] := fy (by simpa using hn)
 show wpAny _ _ ((seqItemAt a k >>= λ r => pure (r.map (k, ·))) >>= _) _ _ s
 refine aa (aa (wpAny_seqItemAt ho hd (ai ?_)))
 rw [hx']
 show wpAny _ _ (setSeqItemAt a k v >>= _) _ _ s
 obtain ⟨n', hd'⟩ : ∃ n', bO (·.setIfInBounds k v) (lObj vs n) = { cls := .type "list", data := .seq (vs.toArray.setIfInBounds k v) n' } := ⟨_, rfl⟩
 rw [List.setIfInBounds_toArray] at hd'
 have hfin : (s.heap.update a (bO (·.setIfInBounds k v))).get? a = some (lObj (vs.set k v) n') := by
  rw [bP _ ho (by rw [hd']; rfl), hd']
 exact aa (wpAny_setSeqItemAt ho hd (ai ⟨.none, rfl, ai (hQ _ _ hfin (df ..))⟩))
theorem A4 {x v : Value} {a : Bs} (hn : a ∉ us.map (·.1)) : stored ((a, x) :: us) b v = if a == b then (a, v) :: us else (a, x) :: stored us b v := by
 unfold stored
 rw [dG]
 by_cases q : a = b
 ·subst q
  rw [decide_eq_true (rfl : (a, x).1 = a), Bool.true_or, if_pos rfl, if_pos (beq_self_eq_true a), bE, if_pos rfl]
  refine congrArg (i5 (a, v)) ((ds λ y hy => ?_).trans (List.map_id us))
  exact if_neg λ (e : y.1 = a) => hn (e ▸ bp.mpr ⟨y, hy, rfl⟩)
 ·rw [if_neg (λ e => q (be e)), decide_eq_false q, b7]
  split
  ·rw [bE, if_neg q]
  ·rfl
theorem B3 {p : PV} {v : Value} (hp : VR W G p v) : ∀ {kvs : List (Bs × PV)} {us : List (Bs × Value)}, us.map (·.1) = kvs.map (·.1) -> nG W G (kvs.map (·.2)) (us.map (·.2)) -> (us.map (·.1)).Nodup ->
  (stored us b v).map (·.1) = (oE kvs b p).map (·.1) /\ nG W G ((oE kvs b p).map (·.2)) ((stored us b v).map (·.2)) := by
 intro kvs
 induction kvs with
 | nil =>
  intro us e h hn
  cases us with
  | nil => exact ⟨rfl, v, [], rfl, hp, rfl⟩
  | cons _ _ => cases e
 | cons d kvs ih =>
  intro us e h hn
  cases us with
  | nil => cases e
  | cons d' us =>
  obtain ⟨a, q⟩ := d
  obtain ⟨a', x⟩ := d'
  obtain ⟨e1, ek⟩ : a' = a /\ us.map (·.1) = kvs.map (·.1) := jS e
  subst e1
  obtain ⟨x', xs, ex, hq, hr⟩ := h
  obtain ⟨e1, e2⟩ : x = x' /\ us.map (·.2) = xs := jS ex
  subst e1; subst e2
  have hn : a' ∉ us.map (·.1) /\ (us.map (·.1)).Nodup := cH.mp hn
  rw [A4 hn.1, show oE ((a', q) :: kvs) b p = if a' == b then (a', p) :: kvs else (a', q) :: oE kvs b p from rfl]
  cases z : (a' == b) with
  | true => rw [if_pos rfl, if_pos rfl]; exact ⟨congrArg (i5 a') ek, v, _, rfl, hp, hr⟩
  | false =>
   have i := ih ek hr hn.2
   rw [if_neg nofun, if_neg nofun]
   exact ⟨congrArg (i5 a') i.1, x, _, rfl, hq, i.2⟩
theorem Ib {Q : Flow -> Shared -> Prop} (hsw : ∀ n env, swapsWith e (some (.Subscript (.Name x q) i p2)) n env = pure false) (hx : nQ K.sc x = true) (va : oN c m s.heap x u) (R : FR c ρ G O m s) (h1 : mO K ρ e v) {w : PV} (h2 : Ev K ρ i w)
  (hQ : ∀ y z s' G', Go G s G' s' -> VR c.W G' v y -> VW c.W G' s'.heap w z -> wpAny (Mo c.W) c.A (setItem u z y) (λ _ s' => Q .next s') No s') : wpAny (Mo c.W) c.A (exec (.Assign [.Subscript (.Name x q) i p2] e p3) c.env) Q E s := by
 rw [exec_Assign_Subscript (env := c.env) _ _ _ _ _ (hsw _ _)]
 refine aa (aI (aa (Gv.then (h1 c.toCf G s R.es) λ y s₁ G₁ g₁ p₁ => aa ?_)))
 rw [arm_assign_Subscript]
 have R₁ := R.go g₁
 refine aa (aO (oG (va.go g₁) R₁.ns hx (aa (aO (Gv.then (h2 c.toCf G₁ s₁ R₁.es) λ z s₂ G₂ g₂ p₂ => ?_)))))
 exact aa (aI (aa (aO (oX (hQ y z s₂ G₂ (g₁.trans g₂) (VR.mono g₂.u.le _ _ p₁) p₂.vw) λ _ s' h => wpAny_release (ai h)))))
theorem JL {n : Nat} (hsw : ∀ n env, swapsWith e (some (.Subscript (.Name x q) i p2)) n env = pure false) (hx : nQ K.sc x = true) (ho : K.ow.contains x = true) (hr : ρ.get x = some (.list l)) (h1 : mO K ρ e v) (h2 : Ev K ρ i (.int n)) (hc : n < l.length) :
  Ex K ρ (.Assign [.Subscript (.Name x q) i p2] e p3) (ρ.set x (.list (l.set n v))) .next := λ c G O m s R E hE hX => by
 refine mL λ gk => ?_
 obtain ⟨_, va, a, us, k, rfl, oa, ha, hr', hl⟩ := R.var hx ho hr
 refine gk ?_
 refine Ib hsw hx va R h1 h2 λ y z s' G' g p₁ p₂ => ?_
 obtain ⟨t, rfl⟩ := p₂.int
 refine x5 rfl (g.get ha) (by rw [hr'.length]; exact hc) hl λ h' k' hl' hs' => ⟨_, .next, ⟨rfl, rfl⟩, rfl, ((R.go g).putL hx ho oa (va.go g) hl' hs'.extBut ((hr'.mono g.u.le).set p₁ _) ?_).back (Pz.go g)⟩
 rw [dU, <- hr'.length]; exact hl
theorem uS (hsw : ∀ n env, swapsWith e (some (.Subscript (.Name x q) i p2)) n env = pure false) (hx : nQ K.sc x = true) (ho : K.ow.contains x = true) (hr : ρ.get x = some (.dict kvs)) (h1 : mO K ρ e v) (h2 : Ev K ρ i (.bytes b)) (hc : (oE kvs b v).length <= cap) :
  Ex K ρ (.Assign [.Subscript (.Name x q) i p2] e p3) (ρ.set x (.dict (oE kvs b v))) .next := λ c G O m s R E hE hX => by
 refine mL λ gk => ?_
 obtain ⟨_, va, a, us, rfl, oa, hd, hk, hr', hl, ne⟩ := R.var hx ho hr
 refine gk ?_
 refine Ib hsw hx va R h1 h2 λ y z s' G' g p₁ p₂ => ?_
 refine mL λ gk => ?_
 obtain ⟨t, rfl⟩ := p₂.bytes
 refine gk ?_
 have nd : (us.map (·.1)).Nodup := by obtain ⟨_, _, _, _, _, _, _, _, h⟩ := hd; exact h
 have R' := R.go g
 refine wpAny_setItem_pairs (knd := bK c.W) (k := b) (show isBytes b (.bytes b.toArray t) = true by simp [isBytes]) (hd.keep (pB g.k)) (λ h' hd' hs' => ?_) (ac hl tE)
 obtain ⟨i1, i2⟩ := B3 p₁ hk (hr'.mono g.u.le) nd
 have k : Kx (· = a) G' s' G' { s' with heap := h', toks := s'.toks + 1 } := tS R'.sub (R'.ow _ _ oa).g hs'.extBut rfl
 have hlen : (stored us b y).length <= cap := by have := congrArg gj i1; rw [am, am] at this; rw [this]; exact hc
 have al : ∃ o, h'.get? a = some o := by obtain ⟨o, _, _, ho, _⟩ := hd'; exact ⟨o, ho⟩
 exact ⟨_, .next, ⟨rfl, rfl⟩, rfl, G', O, m, R'.mut hx ho oa (va.go g) k al ⟨a, _, rfl, oa, hd', i1, i2, hlen, ne⟩, (Pz.go g).trans (Pz.mut (by rw [oa]; exact nofun) k)⟩
theorem x8 {pv : PV} (hx : nQ K.sc x = true) (hxo : K.ow.contains x = false) (hy : nQ K.sc y = true) (ho : K.ow.contains y = true) (hl : (ap.endLine == p.line) = true) (hr : ρ.get y = some (.dict kvs)) (h1 : Ev K ρ k (.bytes b)) (h2 : mO K ρ d v) (hp : (pj kvs b).getD v = pv) (hk : autoParam (mU k) tF) (hd : autoParam (mU d) tF) {p4 : Pos} :
  Ex K ρ (.Assign [.Name x p4] (.Call (.Attribute (.Name y q) "get" ap) [k, d] [] p) p3) (ρ.set x pv) .next := λ c G O m s R E hE hX => by
 subst hp
 refine mL λ gk => ?_
 obtain ⟨_, va, a, us, rfl, oa, hdo, hkeys, hr', hc, ne⟩ := R.var hy ho hr
 refine gk ?_
 have hany : (backTo p (starEach [k, d] c.env)).any (·.1) = false := by rw [hk, hd]; rfl
 refine c4 (pA hl (by decide : 2 + 0 < 15) hany rfl (oG va R.ns hy λ pl => ?_)) rfl
 refine getMethod_builtin hdo.typeIs PySem.F.plainAttrs_dict PySem.F.slot_dict_get PySem.F.type_dict_get hdo.mapOf.noDict (cY hany ?_)
 rw [hk, hd]
 refine di (aW (Gv.then (h1 c.toCf G s R.es) λ y₁ s₁ G₁ g₁ p₁ => aW (Gv.then (h2 c.toCf G₁ s₁ (R.go g₁).es) λ y₂ s₂ G₂ g₂ p₂ => bz ?_)))
 obtain ⟨t, rfl⟩ := p₁.vw.bytes
 have g := g₁.trans g₂
 have hdo₂ : s₂.heap.DictOf (bK c.W) a us := hdo.keep (pB g.k)
 have hkey : (bK c.W).is b (.bytes b.toArray t) = true := show isBytes b (.bytes b.toArray t) = true by simp [isBytes]
 refine call_meetsIn PySem.F.slot_dict_get hdo₂.typeIs PySem.F.entry_dict_get (PySem.F.args_dict_get_3 _ _ _) (meets_dict_get_default (bK c.W) a hkey ne y₂) ⟨_, hdo₂.mapOf, ?_⟩
 have hvr : VR c.W G₂ ((pj kvs b).getD v) ((valueAt us b).getD y₂) := by
  have := tw hkeys hr' b
  rw [oO]
  unfold pj
  cases hl : kvs.lookup b with
  | none => rw [hl] at this; rw [this]; exact p₂
  | some p =>
   rw [hl] at this
   obtain ⟨v, h1, h2⟩ := this
   rw [h1]
   exact h2.mono g.u.le
 have gt : Go G₂ s₂ G₂ { s₂ with toks := s₂.toks + 1 } := nZ (h' := s₂.heap) g₂.u.sub λ _ _ e => e
 have R₃ := R.go (g.trans gt)
 exact R₃.store hx (.vr hxo hvr) λ s₄ m₄ z hz k R₄ => ⟨_, .next, ⟨rfl, rfl⟩, rfl, G₂, O, m₄, R₄, (Pz.go (g.trans gt)).trans (Pz.st R₃ hz k)⟩
end
inductive Lc (K : Ky) (ρ : En) (elt : Expr) : List Comprehension -> Scope -> List PV -> Prop
 | mk {g gs sc xs ys} (hs : zQ K.sc sc) (hg : ∀ x ∈ g :: gs, wJ sc.names K.ow x) (hn : nV (Jv (g :: gs)) = true) (hi : xQ K ρ g.iter xs) (hc : Cr (K.to sc.names) elt (cut sc.names ρ) (g :: gs) xs ys) (hl : ys.length <= cap) : Lc K ρ elt (g :: gs) sc ys
section
variable {K : Ky} {c : Fc K} {ρ : En} {G : Fz} {s s' : Shared} {x : Str} {p q p1 : Pos} {elt e : Expr} {gs : List Comprehension} {sc : Scope} {ys : List PV} {W : Wo} {v : Value}
theorem uR (h : Lc K ρ elt gs sc ys) (hk : autoParam (K.hd = false) tR) : JV K ρ (.ListComp elt gs sc p) (.list ys) := λ c G s S => by
 obtain ⟨hs, hg, hn, hi, hc, hl⟩ := h
 rw [arm_eval_ListComp]
 refine ID (use := none) hk hs hg hn hi hc hl S λ C D s' G' X h' hs' => ?_
 obtain ⟨us, n, hd, hr, hcc⟩ := X.dl
 have hD := hs'.extBut _ _ (Ne.symm X.CD) hd
 exact ⟨G', D, ⟨by obtain ⟨ha, ta, rfl, ka⟩ := X.g.k; exact ⟨h', ta, rfl, λ b o e => hs'.extBut b o (by rintro rfl; rw [X.fC] at e; cases e) (ka b o e)⟩, X.g.u.le, λ b o e => hs'.extBut b o (by rintro rfl; rw [X.gC] at e; cases e) (X.g.u.sub b o e), X.g.u.old⟩, rfl, X.fD, X.gD, ⟨_, hD⟩, ⟨us, n, hD, hr, hcc⟩, X.ne⟩
theorem KK.gv (N : KK W G s (.list ys) v s') : Gv G s (zC W (.list ys)) v s' := by
 refine mL λ gk => ?_
 obtain ⟨G', a, g, rfl, n, ga, _, ⟨us, k, ha, hr, hc⟩, _⟩ := N
 refine gk ?_
 exact ⟨g.k, _, g.u.add n ha, a, us, k, rfl, Fz.add_self, hr.mono λ b o e => (if_neg (by rintro rfl; rw [ga] at e; cases e)).trans e, hc⟩
theorem Dk (h : JV K ρ e (.list ys)) : mO K ρ e (.list ys) := λ c G s S => oX (h c G s S) λ _ _ => KK.gv
theorem n8 (h : Lc K ρ elt gs sc ys) (hk : autoParam (K.hd = false) tR) : Ev K ρ (.ListComp elt gs sc p) (.list ys) := Dk (uR h hk)
theorem J9 (h : Lc K ρ elt gs sc ys) (hk : K.hd = false) : Vf K ρ x (.ListComp elt gs sc p) (.list ys) := by
 cases e : K.ow.contains x with
 | true => exact .own e (uR h hk)
 | false => exact .val e (n8 h hk)
theorem rZ (h : Lc K ρ elt gs sc ys) (hx : nQ K.sc x = true) : Ex K ρ (.Assign [.Name x p] (.ListComp elt gs sc p1) q) (ρ.set x (.list ys)) .next := λ c G O m s R E hE hX => by
 generalize hb : (c.env.blockKind == .function && c.env.kindOf x == some .local && p.line == (Expr.ListComp elt gs sc p1).pos.line && !(sc.names.any λ (n, k) => n == x && (k == .local || k == .cell))) = b
 have hb : swapsWith (.ListComp elt gs sc p1) (some (.Name x p)) q.line c.env = pure b := by rw [<- hb]; rfl
 cases b with
 | false => exact c4 (oX (C3 (J9 h c.nh) R) (by rintro u s' ⟨G', O', R', z, _, _, hv⟩; exact R'.store hx (wT.old hv) λ s'' m'' y hy k R'' => ⟨_, .next, ⟨rfl, rfl⟩, rfl, G', O', m'', R'', z.trans (Pz.st R' hy k)⟩)) hb
 | true =>
 rw [exec_Assign_Name_used _ _ _ _ hb]
 refine aa (aI (aa ?_))
 refine mL λ gk => ?_
 obtain @⟨g, gs, sc, xs, ys, hs, hg, hn, hi, hc, hl⟩ := h
 refine gk ?_
 show wpAny _ _ (do let _ <- comprehension (.ListComp elt (g :: gs) sc p1) sc c.env _ (newList []) (firstAsync (g :: gs)) (firstIter (g :: gs) c.env) (some (assign (.Name x p) c.env))) _ _ s
 refine aa (ay (ID (c := c.toCf) (use := some (assign (.Name x p) c.env)) (Q := λ _ s' => FE c G O s s' (ρ.set x (.list ys))) c.nh hs hg hn hi hc hl R.es λ C D s' G' L => ?_) (λ _ s' hq => ai (ai ⟨_, .next, ⟨rfl, rfl⟩, rfl, hq⟩)) λ _ _ e => e.elim)
 refine mL λ gk => ?_
 obtain ⟨us, n, hd, hr, hcc⟩ := L.dl
 obtain ⟨mC, hnC⟩ := L.ns
 obtain ⟨c1, c2, c3⟩ := R.fresh L.fC
 obtain ⟨d1, d2, d3⟩ := R.fresh L.fD
 obtain ⟨G₂, O₂, gA, hv, hC, hO, hO'⟩ : ∃ G₂ O₂, Go G s G₂ s' /\ wT c O G₂ s' x (.list ys) (.ref D) O₂ /\ G₂ C = none /\ O₂ C = none /\ ∀ b, b ≠ D -> O b = none -> O₂ b = none := by
  cases e : K.ow.contains x with
  | false =>
   have le : G'.le (G'.add D (lObj us n)) := λ b o e => (if_neg (by rintro rfl; rw [L.gD] at e; cases e)).trans e
   exact ⟨G'.add D (lObj us n), O, ⟨L.g.k, L.g.u.add L.fD hd⟩, .vr e ⟨D, us, n, rfl, Fz.add_self, hr.mono le, hcc⟩, (if_neg L.CD).trans L.gC, c1, λ _ _ e => e⟩
  | true =>
   refine ⟨G', λ b => if b = D then some (.own x) else O b, L.g, ⟨λ b t e => (if_neg (by rintro rfl; rw [d1] at e; cases e)).trans e, λ b t w => ?_, ?_⟩, L.gC, (if_neg L.CD).trans c1, λ b n e => (if_neg n).trans e⟩
   ·by_cases q : b = D
    ·subst q
     rw [if_pos rfl] at w
     cases w
     exact .inr ⟨⟨L.gD, d2, ⟨_, hd⟩, λ h => absurd h d3⟩, rfl⟩
    ·exact .inl ((if_neg q).symm.trans w)
   ·unfold oH
    rw [e]
    exact ⟨D, us, n, rfl, if_pos rfl, hd, hr, hcc⟩
 refine gk ?_
 have R' := R.go gA
 refine cZ (R'.store (p := .list ys) hx hv λ s'' m'' z hz k R'' => ⟨mC, hnC.at' λ o e => k.kp _ o ?_ e, λ h' hs' => ?_⟩)
 ·rintro rfl
  rcases hz with e | e
  ·rw [e, R.fo] at c1; cases c1
  ·rw [e] at c1; cases c1
 ·have kC : Kx (· = C) G₂ s'' _ { s'' with heap := h' } := tS (tk := s''.toks) R''.sub hC hs'.extBut rfl
  have P := ((Pz.go (c := c) gA).trans (Pz.st R' hz k)).kx' kC λ b e => by subst e; exact L.fC
  exact ⟨_, O₂, m'', R''.kx kC λ b e => by subst e; exact ⟨hO, c2, c3⟩, P.kp, λ b o h1 h2 e => ⟨(P.old b o h1 h2 e).1, hO' b (by rintro rfl; rw [L.fD] at e; cases e) h1⟩, P.le⟩
end
inductive Rs where
 | ok (v : PV)
 | err
structure Aw (s : Shared) (G : Fz) (l : List Env) (s' : Shared) (G' : Fz) : Prop where
 rest : tC s s'
 kp : ∀ b o, b ∉ mS l ++ tabs -> s.heap.get? b = some o -> s'.heap.get? b = some o
 sl : s.heap.UpToSlots s'.heap
 u : Up G s.heap G' s'.heap
 tab : ql G' s'.heap
inductive OX (W : Wo) (r : Rs) (s : Shared) (G : Fz) (l : List Env) (u : Value) (s' : Shared) : Prop
 | mk (pv : PV) (G' : Fz) (e : r = .ok pv) (q : Aw s G l s' G') (v : VR W G' pv u)
structure Ei (W : Wo) (k : Nat) (f : Str) (vs : List PV) (kvs : List (Str × PV)) (r : Rs) (a : Addr) : Prop where
 glo : vA W f (.ref a)
 fn : ∃ o fd, W.h₀.get? a = some o /\ o.data = .func fd
 run : ∀ (A : Around) (l : List Env) (s : Shared) (G : Fz) (us kus : List Value) (E : Value -> Shared -> Prop), Ok W.h₀ A s.heap k -> A.frames = some l -> (∀ b ∈ mS l ++ tabs, W.h₀.get? b = none /\ G b = none) -> ql G s.heap -> G.sub s.heap -> nG W G vs us -> nG W G (kvs.map (·.2)) kus ->
  (r = .err -> ∀ e s', rU G s.heap l e s'.heap -> tC s s' -> E e s') -> wpAny (Mo W) A (call (.ref a) us ((kvs.map (·.1)).zip kus)) (OX W r s G l) E s
noncomputable def tx (k : Nat) (f : Str) (vs : List PV) (kvs : List (Str × PV)) (r : Rs) : Prop := ∀ W : Wo, Hw W -> ∃ a, Ei W k f vs kvs r a
inductive AQ {K : Ky} (c : Fc K) (ρ : En) (G : Fz) (O : Addr -> Option Tg) (m : Str -> Option Value) (s : Shared) (r : Rs) (u : Value) (s' : Shared) : Prop
 | mk (pv : PV) (G' : Fz) (e : r = .ok pv) (R : FR c ρ G' O m s') (P : Pz c G O s G' O s') (v : VR c.W G' pv u)
noncomputable def EZ {K : Ky} (c : Fc K) (ρ : En) (G : Fz) (O : Addr -> Option Tg) (m : Str -> Option Value) (s : Shared) (r : Rs) (E : Value -> Shared -> Prop) : Prop := r = .err -> ∀ x G₁ s₁ s₂, FR c ρ G₁ O m s₁ -> Pz c G O s G₁ O s₁ -> rU G₁ s₁.heap c.l x s₂.heap -> tC s₁ s₂ -> E x s₂
noncomputable def qe (K : Ky) (ρ : En) (e : Expr) (r : Rs) : Prop := K.exn = true /\ ∀ (c : Fc K) G O m s, FR c ρ G O m s -> ∀ E, EZ c ρ G O m s r E -> wpAny (Mo c.W) c.A (eval e c.env) (AQ c ρ G O m s r) E s
section
variable {K : Ky} {c : Fc K} {ρ : En} {G G' : Fz} {O : Addr -> Option Tg} {m : Str -> Option Value} {s s' : Shared} {x f : Str} {p q : Pos} {v : PV} {b : Bs} {e a : Expr} {E : Value -> Shared -> Prop} {r : Rs}
theorem FR.base (R : FR c ρ G O m s) : c.W.h₀.StaysIn s.heap := R.es.base
theorem FR.ok (R : FR c ρ G O m s) (e : K.exn = true) : Ok c.W.h₀ c.A s.heap K.k := ⟨c.hd c.nh, c.dep, c.uni, R.base, c.l, (c.ex e).fr, R.frs e⟩
theorem Fc.fr_eq (e : K.exn = true) : c.fr = mS c.l ++ tabs := by
 unfold Fc.fr
 rw [e]; rfl
theorem FR.nofr (R : FR c ρ G O m s) (e : K.exn = true) : ∀ b ∈ mS c.l ++ tabs, c.W.h₀.get? b = none /\ G b = none := λ b hb => ⟨(c.ex e).hfr b hb, R.gF b (c.fr_of e hb)⟩
theorem FR.retR (R : FR c ρ G O m s) (e : K.exn = true) (q : Aw s G c.l s' G') : FR c ρ G' O m s' := by
 have kp : ∀ b o, b ∉ c.fr -> s.heap.get? b = some o -> s'.heap.get? b = some o := λ b o hb => q.kp b o (by rw [<- c.fr_eq e]; exact hb)
 have ne : ∀ b t, O b = some t -> t ≠ .frame -> b ∉ c.fr := λ b t h1 h2 h3 => by
  rw [(R.ow b t h1).fr h3, R.fo] at h1
  cases h1; exact h2 rfl
 have old : ∀ b, b ∈ c.fr -> G' b = none := λ b hb => by
  refine mL λ gk => ?_
  obtain ⟨o, ho⟩ := R.frAl hb
  refine gk ?_
  exact (q.u.old b o ho).trans (R.gF b hb)
 refine ⟨R.rest.trans q.rest, λ h => by (rw [e] at h; cases h), λ b o hb h => kp b o hb (R.kp b o hb h), R.sl.trans q.sl, R.le.trans q.u.le, λ b o h => ?_, q.u.sub, old, λ b t h => ?_, R.fo, λ _ => (R.frs e).up q.sl, λ _ => q.tab, q.sl.ns R.ns, λ y hy => ?_, λ y pv hr hy => ?_⟩
 ·by_cases hb : b ∈ c.fr
  ·rw [old b hb]
   cases z : c.Gb b with
   | none => rfl
   | some o' => have := R.le b o' z; rw [R.gF b hb] at this; cases this
  ·exact (q.u.old b o (R.kp b o hb h)).trans (R.old b o h)
 ·refine mL λ gk => ?_
  obtain ⟨g, n, ⟨o, ho⟩, f⟩ := R.ow b t h
  refine gk ?_
  refine ⟨(q.u.old b o ho).trans g, n, ?_, f⟩
  by_cases hb : b ∈ c.fr
  ·refine mL λ gk => ?_
   obtain ⟨o', es, ep, h', _⟩ := q.sl.ns R.ns
   refine gk ?_
   rw [f hb]; exact ⟨_, h'⟩
  ·exact ⟨o, kp b o hb ho⟩
 ·refine mL λ gk => ?_
  obtain ⟨a, o, h1, h2, ob, h3, h4⟩ := R.cel y hy
  refine gk ?_
  exact ⟨a, o, h1, h2, ob, kp _ _ (ne _ _ h2 nofun) h3, h4⟩
 ·refine mL λ gk => ?_
  obtain ⟨v, l, w⟩ := R.val y pv hr hy
  refine gk ?_
  exact ⟨v, l.keep R λ a h o => kp a o (ne _ _ h nofun), vP.keep (λ b h => ⟨h, λ o => kp b o (ne _ _ h nofun)⟩) q.u.le w⟩
theorem Pz.retR (e : K.exn = true) (q : Aw s G c.l s' G') : Pz c G O s G' O s' := ⟨λ b o _ hb => q.kp b o (by rw [<- c.fr_eq e]; exact hb), λ b o h _ ho => ⟨q.u.old b o ho, h⟩, q.u.le⟩
theorem JF (c : Fc K) (h : m9 K.sc x = true) : nQ K.sc x = true := by
 refine mL λ gk => ?_
 obtain ⟨k, hk⟩ := pM h
 refine gk ?_
 unfold m9 at h
 rw [hk] at h
 unfold nQ
 rw [hk]
 cases k <;> first | rfl | exact absurd hk (c.nfr x) | cases h
theorem FR.vr (R : FR c ρ G O m s) (hx : nQ K.sc x = true) (hr : ρ.get x = some v) (h1 : ∀ u, ¬ uJ c.W O G s.heap x v u) (h2 : ∀ i, v ≠ .clo i) : ∃ u, oN c m s.heap x u /\ VR c.W G v u := by
 refine mL λ gk => ?_
 obtain ⟨u, a, w⟩ := R.val x _ hr hx
 refine gk ?_
 unfold oH at w
 revert w
 cases K.ow.contains x with
 | true => exact λ w => (h1 u w).elim
 | false => exact λ w => w.elim (λ w => ⟨u, a, w⟩) (by rintro ⟨i, e, _⟩; exact (h2 i e).elim)
theorem DG {bad : Bs -> Prop} {P : Fz -> Bs -> Value -> Prop} (hx : K.exn = true) (hs : m9 K.sc f = true) (hr : ρ.get f = some v) (h1 : ∀ W O G h x u, ¬ uJ W O G h x v u) (h2 : ∀ i, v ≠ .clo i) (hv : ∀ W G u, VR W G v u -> yV W G u bad (P G)) (hk : 3 <= K.k)
  (h : Ev K ρ a (.bytes b)) (hn : mU a) (ho : ∀ W G G' u, G.le G' -> P G b u -> ∃ pv, r = .ok pv /\ VR W G' pv u) (he : bad b -> r = .err) : qe K ρ (.Call (.Name f p) [a] [] q) r := ⟨hx, λ c G O m s R E hE => by
 have hf := JF c hs
 refine mL λ gk => ?_
 obtain ⟨u, va, w⟩ := R.vr hf hr (h1 _ _ _ _ _) h2
 obtain ⟨⟨fa, fo, fd, rfl, fg, fdat⟩, call⟩ := hv _ _ _ w
 refine gk ?_
 have hl := xZ.cons h xZ.nil hn
 refine eA rfl (oG va R.ns hf (dY (o := fo) (fd := fd) (oo (qE hl) (ay (zL hl R.es) (λ us s₁ q_ => q_.casesOn λ G₁ g vs => ⟨⟨g.get (R.sub _ _ fg), fdat⟩, ?_⟩) λ _ _ e => e.elim))))
 refine mL λ gk => ?_
 obtain ⟨ub, us', rfl, q₁, rfl⟩ := vs
 obtain ⟨t, rfl⟩ := q₁.bytes
 refine gk ?_
 have R₁ := R.go g
 refine call c.A c.l s₁ b t _ E G₁ ((R₁.ok hx).mono hk) (c.ex hx).fr g.u.le R₁.sub (λ b hb => (R₁.nofr hx b (aC _ hb)).2) (λ u s₂ p k => ?_) λ hb x s₂ hra hs => hE (he hb) x G₁ s₁ s₂ R₁ (Pz.go g) hra hs
 refine mL λ gk => ?_
 obtain ⟨pv, e, hv⟩ := ho c.W G G₁ u g.u.le p
 refine gk ?_
 have g₂ := AL R₁.sub k
 exact ⟨pv, G₁, e, R₁.go g₂, Pz.go (g.trans g₂), hv⟩⟩
theorem yH.len : ∀ {bs : List Bs} {vs : List Value}, yH bs vs -> vs.length = bs.length
 | [], _, h => by cases (show _ = _ from h); rfl
 | _ :: _, _, ⟨t, vs', e, h⟩ => by subst e; exact congrArg ee h.len
theorem uB {S : Bs -> Option Int} (hx : K.exn = true) (hs : m9 K.sc f = true) (hr : ρ.get f = some (.stp S)) (h : Ev K ρ a (.bytes b)) (he : r = match S b with | some i => .ok (.int i) | none => .err) (hn : autoParam (mU a) tF) (hk : autoParam (3 <= K.k) tD) : qe K ρ (.Call (.Name f p) [a] [] q) r :=
 DG hx hs hr (λ _ _ _ _ _ _ => id) nofun (λ W G u w => w) hk h hn ((by rintro W G G' u l ⟨i, t, e1, e2⟩; exact ⟨.int i, by rw [he, e1], t, e2⟩)) λ e => by rw [he, e]
theorem GJ {F : Bs -> Option (List Bs)} (hx : K.exn = true) (hs : m9 K.sc f = true) (hr : ρ.get f = some (.par F)) (h : Ev K ρ a (.bytes b)) (he : r = match F b with | some l => .ok (.list (l.map .bytes)) | none => .err) (hn : autoParam (mU a) tF) (hk : autoParam (3 <= K.k) tD) : qe K ρ (.Call (.Name f p) [a] [] q) r :=
 DG hx hs hr (λ _ _ _ _ _ _ => id) nofun (λ W G u w => w) hk h hn ((by rintro W G G' u l ⟨bs, e1, a, vs, n, e2, g, t, cc⟩; exact ⟨.list (bs.map .bytes), by rw [he, e1], a, vs, n, e2, l _ _ g, nG.ofBs t, by rw [t.len]; exact cc⟩)) λ e => by rw [he, e]
theorem z5 (h0 : ∀ l env, swapsWith e (some (.Name x p)) l env = pure false) (hx : nQ K.sc x = true) (ho : K.ow.contains x = false) (h : qe K ρ e (.ok v)) : Ex K ρ (.Assign [.Name x p] e q) (ρ.set x v) .next := λ c G O m s R E hE hX =>
 c4 (ay (h.2 c G O m s R E nofun) ((by
  rintro u s' ⟨pv, G', e, R', P, hv⟩
  refine mL λ gk => ?_
  cases e
  refine gk ?_
  exact R'.store hx (.vr ho hv) λ s'' m'' z hz k R'' => ⟨_, .next, ⟨rfl, rfl⟩, rfl, G', O, m'', R'', P.trans (Pz.st R' hz k)⟩)) λ _ _ e => e) (h0 _ _)
theorem uj.err (hx : K.exn = true) (hX : uj c G O s (λ r f => r = ρ /\ f = .err) E) : EZ c ρ G O m s .err E := λ _ x G₁ s₁ s₂ R P hr hs => hX ρ x G₁ O m s₁ s₂ ⟨rfl, rfl⟩ hx R P (.inl hr) hs
theorem DZ (h0 : ∀ l env, swapsWith e (some (.Name x p)) l env = pure false) (h : qe K ρ e .err) : Ex K ρ (.Assign [.Name x p] e q) ρ .err := λ c G O m s R E hE hX =>
 c4 (ay (h.2 c G O m s R E (hX.err h.1)) ((by rintro u s' ⟨pv, G', e, _, _, _⟩; exact nomatch e)) λ _ _ e => e) (h0 _ _)
noncomputable def Rs.fl : Rs -> Fl
 | .ok v => .ret v
 | .err => .err
theorem J6 (h : qe K ρ e r) : Ex K ρ (.Return (some e) p) ρ r.fl := λ c G O m s R E hE hX =>
 cK (ay (h.2 c G O m s R E (by
  cases r with
  | ok v => exact nofun
  | err => exact hX.err h.1)) (λ u s' q_ => q_.casesOn λ pv G' e R' P hv => by
  subst e
  exact ⟨ρ, .ret pv, ⟨rfl, rfl⟩, u, rfl, G', R'.retOk, hv⟩) λ _ _ e => e)
end
noncomputable def LR : PV -> Bool
 | .list ps => ps.all wK
 | p => wK p
noncomputable def yQ : Rs -> Bool
 | .ok v => LR v
 | .err => true
structure MZ {K : Ky} (c : Fc K) (O : Addr -> Option Tg) (s : Shared) (b : Addr) : Prop where
 own : ∃ t, O b = some t /\ t ≠ .frame
 ob : ∃ o, s.heap.get? b = some o /\ (∀ vs n, o ≠ lObj vs n) /\ ∀ vs, o.data ≠ .fields vs
open Classical in
noncomputable def zV {K : Ky} (c : Fc K) (G : Fz) (O : Addr -> Option Tg) (s : Shared) : Fz := λ b => if MZ c O s b then s.heap.get? b else G b
open Classical in
noncomputable def sO {K : Ky} (c : Fc K) (G : Fz) (O : Addr -> Option Tg) (s : Shared) (G' : Fz) : Fz := λ b => if MZ c O s b then G b else G' b
noncomputable def sA (K : Ky) (ρ : En) (i : Nat) (p : PV) : Prop := ∀ (c : Fc K) G O m s, FR c ρ G O m s -> ∀ u, c.Cl G i u -> VR c.W (zV c G O s) p u
noncomputable def Ii {K : Ky} (c : Fc K) (ρ : En) (G : Fz) (v : PV) (u : Value) : Prop := VR c.W G v u \/ ∃ i, c.Cl G i u /\ sA K ρ i v
noncomputable def MS (K : Ky) (ρ : En) (e : Expr) (v : PV) : Prop := ∀ (c : Fc K) G O m s, FR c ρ G O m s -> wpAny (Mo c.W) c.A (eval e c.env) (Gv G s λ G' _ u => Ii c ρ G' v u) No s
inductive uQ (K : Ky) (ρ : En) : List Expr -> List PV -> Prop
 | nil : uQ K ρ [] []
 | cons {e es v vs} (hn : mU e) (h : MS K ρ e v) (t : uQ K ρ es vs) : uQ K ρ (e :: es) (v :: vs)
inductive IK (K : Ky) (ρ : En) : List Keyword -> List (Str × PV) -> Prop
 | nil : IK K ρ [] []
 | cons {k e p ks v vs} (h : mO K ρ e v) (t : IK K ρ ks vs) : IK K ρ (⟨some k, e, p⟩ :: ks) ((k, v) :: vs)
inductive I9 {K : Ky} (c : Fc K) (ρ : En) (G : Fz) : List PV -> List Value -> Prop
 | nil : I9 c ρ G [] []
 | cons {p ps u us} (h : Ii c ρ G p u) (t : I9 c ρ G ps us) : I9 c ρ G (p :: ps) (u :: us)
section
variable {K : Ky} {c : Fc K} {ρ : En} {G G' : Fz} {O : Addr -> Option Tg} {m : Str -> Option Value} {s s' : Shared} {x f : Str} {p q : Pos} {v : PV} {e : Expr} {es as : List Expr} {ks : List Keyword} {kvs : List (Str × PV)} {vs : List PV} {us kus : List Value} {E : Value -> Shared -> Prop} {r : Rs} {b a : Addr}
theorem y3 (h : MZ c O s b) : zV c G O s b = s.heap.get? b := if_pos h
theorem GH (h : ¬ MZ c O s b) : zV c G O s b = G b := if_neg h
theorem rj (sub : G.sub s.heap) : G.le (zV c G O s) := λ b o e => by
 unfold zV
 split
 ·exact sub b o e
 ·exact e
theorem Kh (sub : G.sub s.heap) : (zV c G O s).sub s.heap := λ b o e => by
 unfold zV at e
 split at e
 ·exact e
 ·exact sub b o e
theorem Mg (R : FR c ρ G O m s) (h : b ∈ c.fr) : zV c G O s b = none := by
 refine (GH λ ⟨⟨t, q, n⟩, _⟩ => ?_).trans (R.gF b h)
 rw [(R.ow b t q).fr h, R.fo] at q; cases q; exact n rfl
theorem Av (sub : G.sub s.heap) (u : Up (zV c G O s) s.heap G' s'.heap) : Up G s.heap (sO c G O s G') s'.heap := by
 refine ⟨λ b o e => ?_, λ b o e => ?_, λ b o e => ?_⟩
 ·unfold sO
  split
  ·exact e
  ·exact u.le _ _ (rj sub _ _ e)
 ·unfold sO at e
  split at e
  ·exact u.sub _ _ (u.le _ _ (rj sub _ _ e))
  ·exact u.sub _ _ e
 ·unfold sO
  split
  ·rfl
  ·rename_i h
   rw [u.old b o e, GH h]
theorem x6 {o : Obj} (u : Up (zV c G O s) s.heap G' s'.heap) (h : G' b = some o) (hn : MZ c O s b -> s.heap.get? b ≠ some o) : sO c G O s G' b = some o := by
 unfold sO
 rw [if_neg λ t => ?_]
 ·exact h
 ·refine mL λ gk => ?_
  obtain ⟨_, o', ho', _⟩ := id t
  refine gk ?_
  have := u.old b o' ho'
  rw [y3 t, h] at this
  exact hn t this.symm
theorem yx (u : Up (zV c G O s) s.heap G' s'.heap) (t : ql G' s'.heap) : ql (sO c G O s G') s'.heap := λ P hP => by
 obtain ⟨ps, h1, h2, h3⟩ := t P hP
 exact ⟨ps, h1, h2, λ pos cv e => (by obtain ⟨cd, o, vs, t, e1, e2, e3, e4⟩ := h3 pos cv e; exact ⟨cd, o, vs, t, e1, x6 u e2 (by rintro ⟨_, o', h1, _, h2⟩ e; exact h2 vs (by rw [h1] at e; cases e; exact e3)), e3, e4⟩)⟩
theorem yR {W : Wo} : ∀ {ps : List PV} {us : List Value}, ps.all wK = true -> nG W G ps us -> nG W G' ps us
 | [], _, _, h => h
 | p :: ps, _, ha, ⟨v, vs', e, h, r⟩ => let ha := bL.mp ha; ⟨v, vs', e, xq ha.1 h, yR ha.2 r⟩
theorem HO (u : Up (zV c G O s) s.heap G' s'.heap) {w : Value} (hf : LR v = true) (h : VR c.W G' v w) : VR c.W (sO c G O s G') v w := by
 cases v with
 | list ps =>
  refine mL λ gk => ?_
  obtain ⟨a, vs, n, e, g, hr, hc⟩ := h
  refine gk ?_
  exact ⟨a, vs, n, e, x6 u g (by rintro ⟨_, o', h1, h2, _⟩ e; exact h2 vs n (by rw [h1] at e; cases e; rfl)), yR hf hr, hc⟩
 | _ => exact xq (by exact hf) h
theorem Ii.mono (l : G.le G') {u : Value} (h : Ii c ρ G v u) : Ii c ρ G' v u := h.imp (VR.mono l _ _) (by rintro ⟨i, q, h⟩; exact ⟨i, c.clk _ _ _ _ l q, h⟩)
theorem I9.mono (l : G.le G') (h : I9 c ρ G vs us) : I9 c ρ G' vs us := by
 induction h with
 | nil => exact .nil
 | cons h t ih => exact .cons (h.mono l) ih
theorem I9.vrs (R : FR c ρ G O m s) (h : I9 c ρ G vs us) : nG c.W (zV c G O s) vs us := by
 induction h with
 | nil => exact rfl
 | cons h t ih => exact ⟨_, _, rfl, h.elim (VR.mono (rj R.sub) _ _) (by rintro ⟨i, q, h⟩; exact h c G O m s R _ q), ih⟩
theorem JZ (h : mO K ρ e v) : MS K ρ e v := λ c G O m s R => oX (h c.toCf G s R.es) (by rintro u s' ⟨k, G', u', p⟩; exact ⟨k, G', u', .inl p⟩)
theorem An {i : Nat} (hx : nQ K.sc x = true) (ho : K.ow.contains x = false) (hr : ρ.get x = some (.clo i)) (h : sA K ρ i v) : MS K ρ (.Name x p) v := λ c G O m s R => by
 refine mL λ gk => ?_
 obtain ⟨u, a, w⟩ := R.val x _ hr hx
 refine gk ?_
 unfold oH at w
 rw [ho] at w
 refine oG a R.ns hx (Gv.pure R.sub ?_)
 rcases w with w | ⟨j, e, w⟩
 ·exact w.elim
 ·cases e; exact .inr ⟨i, w, h⟩
theorem sQ {t : Sem Value} {r : List (Bool × Sem Value)} : backTo p ((false, t) :: r) = (false, t) :: backTo p r := rfl
theorem Fs (h : uQ K ρ es vs) {env : Env} : (backTo p (starEach es env)).any (·.1) = false := by
 induction h with
 | nil => rfl
 | cons hn h t ih => rw [hn, sQ, dG, ih]; rfl
theorem A0 (h : uQ K ρ es vs) (R : FR c ρ G O m s) : wpAny (Mo c.W) c.A (spliced (backTo p (starEach es c.env))) (GL G s λ G' _ us => I9 c ρ G' vs us) No s := by
 induction h generalizing G s with
 | nil => exact bz ⟨G, Go.rfl R.sub, .nil⟩
 | cons hn h t ih =>
  rw [hn, sQ]
  exact aW (Gv.then (h c G O m s R) λ u s₁ G₁ g₁ p₁ => oX (ih (R.go g₁)) (by rintro us s₂ ⟨G₂, g₂, p₂⟩; exact ⟨G₂, g₁.trans g₂, .cons (p₁.mono g₂.u.le) p₂⟩))
theorem L1 (h : IK K ρ ks kvs) : (backToKw p (keywordEach ks c.env)).all (·.1.isSome) = true /\ (backToKw p (keywordEach ks c.env)).filterMap (·.1) = kvs.map (·.1) /\
  ∀ {G : Fz} {s : Shared}, FR c ρ G O m s -> wpAny (Mo c.W) c.A (evalAll ((backToKw p (keywordEach ks c.env)).map (·.2))) (GL G s λ G' _ us => nG c.W G' (kvs.map (·.2)) us) No s := by
 induction h with
 | nil => exact ⟨rfl, rfl, λ R => lD ⟨_, Go.rfl R.sub, rfl⟩⟩
 | @cons k e p' ks v vs h t ih =>
  refine ⟨ih.1, congrArg (i5 k) ih.2.1, λ {G s} R => ?_⟩
  show wpAny _ _ (evalAll ((do let v <- eval e c.env; standAt p; pure v) :: (backToKw p (keywordEach ks c.env)).map (·.2))) _ _ _
  exact ll (Gv.bind (h c.toCf G s R.es) λ u s₁ G₁ g₁ p₁ => aa (aI (ai (oX (ih.2.2 (R.go g₁)) (by rintro us s₂ ⟨G₂, g₂, p₂⟩; exact ⟨G₂, g₁.trans g₂, _, _, rfl, VR.mono g₂.u.le _ _ p₁, p₂⟩)))))
theorem AI (hx : K.exn = true) (F : Ei c.W K.k f vs kvs r a) (hr : yQ r = true) (R : FR c ρ G O m s) (q1 : I9 c ρ G vs us) (q2 : nG c.W G (kvs.map (·.2)) kus) (hE : EZ c ρ G O m s r E) : wpAny (Mo c.W) c.A (call (.ref a) us ((kvs.map (·.1)).zip kus)) (AQ c ρ G O m s r) E s := by
 refine ay (F.run c.A c.l s (zV c G O s) us kus E (R.ok hx) (c.ex hx).fr (λ b hb => ⟨(c.ex hx).hfr b hb, Mg R (c.fr_of hx hb)⟩) ((R.tab hx).keep (rj R.sub) λ _ _ _ e => e) (Kh R.sub) (q1.vrs R) (q2.mono (rj R.sub)) λ he x s' hra hs => hE he x G s s' R Pz.rfl ?_ hs) (λ u s' q_ => q_.casesOn λ pv G' e q hv => ?_) λ _ _ e => e
 ·refine mL λ gk => ?_
  obtain ⟨B, G', a, a0, eq, ap, fl, up, f2⟩ := hra
  refine gk ?_
  have u : Up (zV c G O s) s.heap G' B := ⟨ap.le, ap.sub, ap.old⟩
  have w : Up G s.heap (sO c G O s G') B := Av (s' := { s with heap := B }) R.sub u
  exact ⟨B, sO c G O s G', a, a0, eq, ⟨ap.cover, w.le, w.sub, w.old, λ t => yx (s' := { s with heap := B }) u (ap.tabs (t.keep (rj R.sub) λ _ _ _ e => e))⟩, fl, up, f2⟩
 ·subst e
  have Q : Aw s G c.l s' (sO c G O s G') := ⟨q.rest, q.kp, q.sl, Av R.sub q.u, yx q.u q.tab⟩
  exact ⟨pv, _, rfl, R.retR hx Q, Pz.retR hx Q, HO q.u hr hv⟩
theorem AQ.go (g : Go G s G' s') {u : Value} {s'' : Shared} (x : AQ c ρ G' O m s' r u s'') : AQ c ρ G O m s r u s'' := (by obtain ⟨pv, G₂, e, R, P, v⟩ := x; exact ⟨pv, G₂, e, R, (Pz.go g).trans P, v⟩)
theorem EZ.go (g : Go G s G' s') (h : EZ c ρ G O m s r E) : EZ c ρ G' O m s' r E := λ e x G₁ s₁ s₂ R P => h e x G₁ s₁ s₂ R ((Pz.go g).trans P)
theorem t9 (hx : K.exn = true) (hg : om K.sc f = true) (ha : uQ K ρ as vs) (h : tx K.k f vs [] r) (hr : yQ r = true) : qe K ρ (.Call (.Name f p) as [] q) r := ⟨hx, λ c G O m s R E hE => by
 refine mL λ gk => ?_
 obtain ⟨a, F⟩ := h c.W c.hw
 obtain ⟨o, fd, ho, hd⟩ := F.fn
 refine gk ?_
 refine eA rfl (qp (c := c.toCf) hg F.glo R.base (dY (o := o) (fd := fd) (oo (Fs ha) (ay (A0 ha R) (λ us s' q_ => q_.casesOn λ G' g q => ?_) λ _ _ e => e.elim))))
 exact ⟨⟨g.get (R.base a o ho), hd⟩, ay (AI hx F hr (R.go g) q rfl (hE.go g)) (λ _ _ x => x.go g) λ _ _ e => e⟩⟩
theorem zU {kw : Keyword} (hx : K.exn = true) (hg : om K.sc f = true) (ha : uQ K ρ (e :: as) vs) (hk : IK K ρ (kw :: ks) kvs) (h : tx K.k f vs kvs r) (hr : yQ r = true) : qe K ρ (.Call (.Name f p) (e :: as) (kw :: ks) q) r := ⟨hx, λ c G O m s R E hE => by
 refine mL λ gk => ?_
 obtain ⟨a, F⟩ := h c.W c.hw
 obtain ⟨o, fd, ho, hd⟩ := F.fn
 refine gk ?_
 show wpAny _ _ (eval (.Name f p) c.env >>= λ fv => callWith q fv [] (backTo q (starEach (e :: as) c.env)) (backToKw q (keywordEach (kw :: ks) c.env))) _ _ _
 refine aa (qp (c := c.toCf) hg F.glo R.base ?_)
 refine mL λ gk => ?_
 obtain ⟨k1, k2, k3⟩ := L1 (p := q) (c := c) (O := O) (m := m) hk
 refine gk ?_
 have hargs := A0 (p := q) ha R
 have hn : mU e := by cases ha; assumption
 rw [hn, sQ] at hargs |-
 refine callWith_function_kw (o := o) (fd := fd) (evalArgs_kw k1 (ay hargs (λ us s₁ q_ => q_.casesOn λ G₁ g₁ q₁ => ay (k3 (R.go g₁)) (λ kus s₂ q_ => q_.casesOn λ G₂ g₂ q₂ => ?_) λ _ _ e => e.elim) λ _ _ e => e.elim))
 rw [k2]
 have g := g₁.trans g₂
 exact ⟨⟨g.get (R.base a o ho), hd⟩, ay (AI hx F hr (R.go g) (q₁.mono g₂.u.le) q₂ (hE.go g)) (λ _ _ x => x.go g) λ _ _ e => e⟩⟩
end
section
open Sem (wp)
structure Kp {α : Type} (t : Sem α) : Prop where
 out : ∀ (M : Model) (Γ : Ctx) (P : α -> Pos -> Shared -> Prop) (Ee : Value -> Pos -> Shared -> Prop) (p : Pos) (s : Shared), wp M Γ t P Ee p s -> ∀ a, qk s.heap a ->
  wp M Γ t (λ x p' s' => P x p' s' /\ qk s'.heap a) (λ x p' s' => Ee x p' s' /\ qk s'.heap a) p s
theorem qk.update {h : Heap} {a b : Addr} {f : Obj -> Obj} (x : qk h a) (hf : ∀ o vs, o.data = .fields vs -> ∃ vs', (f o).data = .fields vs' /\ vs'[2]? = vs[2]?) : qk (h.update b f) a := by
 refine mL λ gk => ?_
 obtain ⟨o, vs, ho, hd, h2⟩ := x
 refine gk ?_
 by_cases e : b = a
 ·subst e
  refine mL λ gk => ?_
  obtain ⟨vs', hd', h2'⟩ := hf o vs hd
  refine gk ?_
  exact ⟨_, vs', bP f ho (eE hd'), hd', h2'.trans h2⟩
 ·exact ⟨o, vs, (bV _ _ e).trans ho, hd, h2⟩
theorem qk.keeps {h h' : Heap} {a : Addr} (x : qk h a) (k : ∀ b o, h.get? b = some o -> h'.get? b = some o) : qk h' a := by
 refine mL λ gk => ?_
 obtain ⟨o, vs, ho, r⟩ := x
 refine gk ?_
 exact ⟨o, vs, k a o ho, r⟩
namespace Kp
variable {α β : Type}
theorem pure (a : α) : Kp (Pure.pure a : Sem α) := ⟨λ _ _ _ _ _ _ h _ hf => ⟨h, hf⟩⟩
theorem unsupported (w : String) : Kp (PySem.unsupported w : Sem α) := ⟨λ _ _ _ _ _ _ h _ _ => h⟩
theorem bind {m : Sem α} {f : α -> Sem β} (hm : Kp m) (hf : ∀ a, Kp (f a)) : Kp (m >>= f) := ⟨λ M Γ P Ee p s h a hfl => by
 rw [Sem.wp_bind'] at h |-
 exact Sem.wp_mono M Γ m (λ x p' s' h' => (hf x).out M Γ P Ee p' s' h'.1 a h'.2) (λ _ _ _ x => x) p s (hm.out M Γ _ Ee p s h a hfl)⟩
theorem ite {c : Prop} [Decidable c] {t u : Sem α} (ht : Kp t) (hu : Kp u) : Kp (if c then t else u) := by split <;> assumption
theorem load (a : Addr) : Kp (PySem.load a) := ⟨λ M Γ P Ee p s h b hf => by
 unfold PySem.load at h |-
 rw [Sem.wp_load] at h |-
 refine mL λ gk => ?_
 obtain ⟨o, ho, h⟩ := h
 refine gk ?_
 exact ⟨o, ho, h, hf⟩⟩
theorem update (a : Addr) (f : Obj -> Obj) (hf : ∀ o vs, o.data = .fields vs -> ∃ vs', (f o).data = .fields vs' /\ vs'[2]? = vs[2]?) : Kp (PySem.update a f) := ⟨λ M Γ P Ee p s h b hfl => by
 unfold PySem.update at h |-
 rw [Sem.wp_update] at h |-
 exact ⟨h.1, h.2, hfl.update hf⟩⟩
theorem stack : Kp PySem.stack := ⟨λ M Γ P Ee p s h b hfl => by
 unfold PySem.stack at h |-
 rw [Sem.wp_stack] at h |-
 exact ⟨h, hfl⟩⟩
theorem alloc (o : Obj) : Kp (PySem.alloc o) := ⟨λ M Γ P Ee p s h b hfl => by
 unfold PySem.alloc at h |-
 rw [Sem.wp_alloc] at h |-
 exact ⟨h, hfl.keeps λ c o e => aj _ e⟩⟩
theorem field (v : Value) (i : Nat) : Kp (PySem.field v i) := ⟨λ M Γ P Ee p s h b hfl => by
 rw [wp_field_iff] at h |-
 refine mL λ gk => ?_
 obtain ⟨a, o, vs, x, e, ho, hd, hx, h⟩ := h
 refine gk ?_
 exact ⟨a, o, vs, x, e, ho, hd, hx, h, hfl⟩⟩
theorem setField (v : Value) (i : Nat) (x : Value) (hi : i ≠ 2) : Kp (PySem.setField v i x) := ⟨λ M Γ P Ee p s h b hfl => by
 rw [wp_setField_iff] at h |-
 refine mL λ gk => ?_
 obtain ⟨a, o, vs, e, ho, hd, hlt, h⟩ := h
 refine gk ?_
 refine ⟨a, o, vs, e, ho, hd, hlt, h, hfl.update λ o vs hd => ⟨_, d0 hd _, ?_⟩⟩
 exact Array.getElem?_setIfInBounds_ne hi⟩
end Kp
theorem uH (env : Env) (outer : List Env) : Kp (behindIsImport env outer) := by
 unfold behindIsImport
 repeat' with_reducible first | assumption | exact Kp.pure _ | exact Kp.unsupported _ | exact Kp.field _ _ | exact Kp.setField _ _ _ (by decide) | exact Kp.load _ | exact Kp.stack | exact Kp.alloc _ | apply Kp.ite | apply Kp.bind | intro _ | split
theorem rH : Kp underTheClaimsCaller := by
 unfold underTheClaimsCaller
 repeat' with_reducible first | assumption | exact Kp.pure _ | exact Kp.unsupported _ | exact Kp.field _ _ | exact Kp.setField _ _ _ (by decide) | exact Kp.load _ | exact Kp.stack | exact Kp.alloc _ | apply Kp.ite | apply Kp.bind | intro _ | split
theorem AK (env : Env) (i : Bool) (l : List Env) : Kp (keptBack env i l) := by
 have := rH
 cases l <;> unfold keptBack
 all_goals repeat' with_reducible first | assumption | exact Kp.pure _ | exact Kp.unsupported _ | exact Kp.field _ _ | exact Kp.setField _ _ _ (by decide) | exact Kp.load _ | exact Kp.stack | exact Kp.alloc _ | apply Kp.ite | apply Kp.bind | intro _ | split
theorem Gi (a : Addr) (g : Obj -> Array (Option Value)) : Kp (PySem.update a λ o => { o with slots := g o }) :=
 Kp.update a _ λ o vs hd => ⟨vs, hd, rfl⟩
theorem xy : ∀ l : List Env, Kp (readyFrames l) := by
 intro l_
 induction l_ with
 | nil =>
  exact Kp.pure _
 | cons env outer ih =>
  have ih := ih
  have h1 := uH env outer
  have h2 := λ i => AK env i outer
  unfold readyFrames
  repeat' with_reducible first | assumption | exact Kp.pure _ | exact Kp.unsupported _ | exact Kp.field _ _ | exact Kp.setField _ _ _ (by decide) | exact Kp.load _ | exact Kp.stack | exact Kp.alloc _ | apply Kp.ite | apply Kp.bind | intro _ | split
  all_goals first | exact h2 _ | exact Gi _ _ | skip
theorem wZ (l : List Env) : Kp (frameObject l) := by
 cases l with
 | nil => exact Kp.pure _
 | cons env outer =>
  have := xy (env :: outer)
  unfold frameObject
  repeat' with_reducible first | assumption | exact Kp.pure _ | exact Kp.unsupported _ | exact Kp.field _ _ | exact Kp.setField _ _ _ (by decide) | exact Kp.load _ | exact Kp.stack | exact Kp.alloc _ | apply Kp.ite | apply Kp.bind | intro _ | split
theorem yX : Kp frameEnvs := by
 unfold frameEnvs
 repeat' with_reducible first | assumption | exact Kp.pure _ | exact Kp.unsupported _ | exact Kp.field _ _ | exact Kp.setField _ _ _ (by decide) | exact Kp.load _ | exact Kp.stack | exact Kp.alloc _ | apply Kp.ite | apply Kp.bind | intro _ | split
theorem B5 (env : Env) : Kp (PySem.frameOf env) := by
 have h1 := yX
 unfold PySem.frameOf
 repeat' with_reducible first | assumption | exact Kp.pure _ | exact Kp.unsupported _ | exact Kp.field _ _ | exact Kp.setField _ _ _ (by decide) | exact Kp.load _ | exact Kp.stack | exact Kp.alloc _ | apply Kp.ite | apply Kp.bind | intro _ | split
 all_goals first | exact wZ _ | skip
theorem vZ (f : Addr) (b : Bool) : Kp (entryPlaceOf f b) := by
 unfold entryPlaceOf
 repeat' with_reducible first | assumption | exact Kp.pure _ | exact Kp.unsupported _ | exact Kp.field _ _ | exact Kp.setField _ _ _ (by decide) | exact Kp.load _ | exact Kp.stack | exact Kp.alloc _ | apply Kp.ite | apply Kp.bind | intro _ | split
theorem Ak (a b c d e : Value) (pl : List Value) : Kp (iR a b c d e pl) := by
 delta iR newFields newObj newObjAsIs
 dsimp only
 repeat' with_reducible first | assumption | exact Kp.pure _ | exact Kp.unsupported _ | exact Kp.field _ _ | exact Kp.setField _ _ _ (by decide) | exact Kp.load _ | exact Kp.stack | exact Kp.alloc _ | apply Kp.ite | apply Kp.bind | intro _ | split
theorem uO (e : Value) (env : Env) : Kp (noteFrame e env) := by
 have h1 := B5 env
 have h2 := λ f b => vZ f b
 have h3 := λ a b c d e pl => Ak a b c d e pl
 unfold noteFrame
 repeat' with_reducible first | assumption | exact Kp.pure _ | exact Kp.unsupported _ | exact Kp.field _ _ | exact Kp.setField _ _ _ (by decide) | exact Kp.load _ | exact Kp.stack | exact Kp.alloc _ | apply Kp.ite | apply Kp.bind | intro _ | split
 all_goals first | exact h2 _ _ | exact h3 _ _ _ _ _ _ | skip
theorem pP (e : Value) (f : Option Addr) : Kp (setFlight e f) := by
 unfold setFlight
 repeat' with_reducible first | assumption | exact Kp.pure _ | exact Kp.unsupported _ | exact Kp.field _ _ | exact Kp.setField _ _ _ (by decide) | exact Kp.load _ | exact Kp.stack | exact Kp.alloc _ | apply Kp.ite | apply Kp.bind | intro _ | split
theorem xa (env : Env) (e : Value) : Kp (leaving env e) := by
 have h1 := uO e env
 have h2 := pP e none
 unfold leaving
 repeat' with_reducible first | assumption | exact Kp.pure _ | exact Kp.unsupported _ | exact Kp.field _ _ | exact Kp.setField _ _ _ (by decide) | exact Kp.load _ | exact Kp.stack | exact Kp.alloc _ | apply Kp.ite | apply Kp.bind | intro _ | split
theorem qH {α : Type} {M : Model} {A : Around} {t : Sem α} {Q : α -> Shared -> Prop} {E : Value -> Shared -> Prop} {s : Shared} {a : Addr} (k : Kp t) (h : wpAny M A t Q E s) (hf : qk s.heap a) :
  wpAny M A t (λ x s' => Q x s' /\ qk s'.heap a) (λ x s' => E x s' /\ qk s'.heap a) s :=
 λ Γ p hΓ => k.out M Γ _ _ p s (h Γ p hΓ) a hf
end
theorem sK {M : Model} {A : Around} {E : Value -> Shared -> Prop} {s : Shared} {base : Heap} {l : List Env} {e L : Addr} {cls a0 fl : Value} {Q : Unit -> Shared -> Prop}
  (hkb : base.StaysIn s.heap) (hen : base.get? e = none) (hl : s.heap.FunFrames base l) (ht : s.heap.TracedAtW base e cls a0 fl)
  (h : ∀ h', iG base l e cls a0 L h' -> s.heap.UpToSlots h' -> Q () { s with heap := h' }) :
  wpAny M A (setFlight (.ref e) (some L)) Q E s := by
 refine mL λ gk => ?_
 obtain ⟨oe, vs, T, oT, ts, he, hcls, hd, h1, hnT, hTe, hT, hdT, h3⟩ := ht
 refine gk ?_
 have hsz3 : 3 < ts.size := (Array.getElem?_eq_some_iff.mp h3).1
 have other : ∀ b, b ≠ T -> (s.heap.update T (gO (·.setIfInBounds 3 (rawInt L)))).get? b = s.heap.get? b :=
  λ b hb => bV _ _ (Ne.symm hb)
 have noRecord : ∀ b o, s.heap.get? b = some o -> (∀ vs, o.data ≠ .fields vs) -> b ≠ T := λ b o hb hnf q => by
  rw [q, hT] at hb; injection hb with hb; subst hb; exact hnf ts hdT
 unfold setFlight
 refine aa (fS he hd h1 ?_)
 rw [if_pos (show (eC T != cS) = true from rfl)]
 refine jj hT hdT hsz3 (h _ ⟨λ b o hbo => (other b λ q => by rw [q, hnT] at hbo; cases hbo).trans (hkb b o hbo), hen,
  hl.of_keeps λ b o hb hnf => ⟨o, (other b (noRecord b o hb hnf)).trans hb, rfl⟩, ?_⟩ λ b o hb hnf => ⟨o.slots, (other b (noRecord b o hb hnf)).trans hb⟩)
 exact ⟨oe, vs, T, _, _, (other e (Ne.symm hTe)).trans he, hcls, hd, h1, hnT, hTe, bP _ hT (eE (d0 hdT _)), d0 hdT _, by simp [hsz3]⟩
theorem xX {base h h' : Heap} {l : List Env} {e : Addr} {cls a0 : Value} (x : eX base l e cls a0 h) (k : ∀ b o, h.get? b = some o -> h'.get? b = some o) : eX base l e cls a0 h' := by
 refine mL λ gk => ?_
 obtain ⟨h1, h2, h3, oe, vs, T, oT, ts, he, hcls, hd, hv1, hnT, hTe, hT, hdT, ht3⟩ := x
 refine gk ?_
 exact ⟨λ b o e => k b o (h1 b o e), h2, h3.of_keeps λ b o hb _ => ⟨o, k b o hb, rfl⟩, oe, vs, T, oT, ts, k _ _ he, hcls, hd, hv1, hnT, hTe, k _ _ hT, hdT, ht3⟩
theorem y6 : isSubtype (.type "KeyError") (.type "BaseException") = pure true := by rw [fJ]; kernel_rfl
theorem v8 : isSubtype (.type ((Manifest.find? "KeyError").elim "type" λ y => y.metatype)) (.type "tuple") = pure false := by rw [fJ]; kernel_rfl
theorem C7 : isSubtype (.type "KeyError") (.type "KeyError") = pure true := by rw [fJ]; kernel_rfl
structure z9 (s s' : Shared) : Prop where
 up : s.heap.UpToSlots s'.heap
 rest : tC s s'
theorem z9.trans {s s' s'' : Shared} (x : z9 s s') (y : z9 s' s'') : z9 s s'' := ⟨x.up.trans y.up, x.rest.trans y.rest⟩
noncomputable abbrev JJ (B : Heap) (l : List Env) (e : Addr) (a0 : Value) (h : Heap) : Prop := eX B l e (.type "KeyError") a0 h
noncomputable abbrev Nm (B : Heap) (l : List Env) (e : Addr) (a0 : Value) (L : Addr) (h : Heap) : Prop := iG B l e (.type "KeyError") a0 L h
section
variable {M : Model} {A : Around} {E : Value -> Shared -> Prop} {s s' : Shared} {B : Heap} {l : List Env} {e L : Addr} {a0 : Value} {Q : Unit -> Shared -> Prop}
theorem Le (x : JJ B l e a0 s.heap) (f : qk s.heap e) (h : ∀ s', Nm B l e a0 L s'.heap -> z9 s s' -> qk s'.heap e -> Q () s') : wpAny M A (setFlight (.ref e) (some L)) Q E s := by
 refine mL λ gk => ?_
 obtain ⟨f1, f2, f3, f4⟩ := x
 refine gk ?_
 exact ay (qH (pP _ _) (sK (A := A) (E := λ _ _ => False) (L := L) (Q := λ _ s₂ => Nm B l e a0 L s₂.heap /\ z9 s s₂) f1 f2 f3 f4 λ h' q1 q2 => ⟨q1, q2, ⟨rfl, rfl, λ g => g⟩⟩) f) (λ _ s₂ q => h s₂ q.1.1 q.1.2 q.2) λ _ _ q => q.1.elim
theorem Ej (x : Nm B l e a0 L s.heap) (f : qk s.heap e) (h : ∀ s', JJ B l e a0 s'.heap -> z9 s s' -> qk s'.heap e -> Q () s') : wpAny M A (setFlight (.ref e) none) Q E s :=
 ay (qH (pP _ _) (wpAny_landsW (A := A) (E := λ _ _ => False) (Q := λ _ s₂ => JJ B l e a0 s₂.heap /\ z9 s s₂) x λ h' q1 q2 => ⟨q1, q2, ⟨rfl, rfl, λ g => g⟩⟩) f) (λ _ s₂ q => h s₂ q.1.1 q.1.2 q.2) λ _ _ q => q.1.elim
theorem IE (x : JJ B l e a0 s.heap) (f : qk s.heap e) (h : ∀ s', JJ B l e a0 s'.heap -> z9 s s' -> qk s'.heap e -> Q () s') : wpAny M A (setFlight (.ref e) none) Q E s :=
 ay (qH (pP _ _) (lands_againW (A := A) (E := λ _ _ => False) (Q := λ _ s₂ => JJ B l e a0 s₂.heap /\ z9 s s₂) x λ h' q1 q2 => ⟨q1, q2, ⟨rfl, rfl, λ g => g⟩⟩) f) (λ _ s₂ q => h s₂ q.1.1 q.1.2 q.2) λ _ _ q => q.1.elim
end
noncomputable def Ky.hdl (K : Ky) : Ky := { K with hd := true }
noncomputable def Fc.mark {K : Ky} (c : Fc K) (e : Addr) : Cf K.hdl := { c.toCf with A := c.A.mark (some (.ref e)), hd := nofun }
structure Hn {K : Ky} (c : Fc K) (B : Heap) (s₁ s : Shared) (e : Addr) (a0 : Value) : Prop where
 fly : JJ B c.l e a0 s.heap
 nxt : z9 s₁ s
 f2 : qk s.heap e
noncomputable def NJ {K : Ky} (c : Fc K) (B : Heap) (s₁ : Shared) (e : Addr) (a0 : Value) (E : Value -> Shared -> Prop) : Prop :=
 ∀ s₂, Nm B c.l e a0 c.env.locals s₂.heap -> z9 s₁ s₂ -> qk s₂.heap e -> E (.ref e) s₂
noncomputable def I6 (K : Ky) (ρ : En) (hs : List Stmt) (Q : En -> Fl -> Prop) : Prop := ∀ (c : Fc K) G O m s, K.exn = true -> FR c ρ G O m s -> ∀ B s₁ e a0 E, Hn c B s₁ s e a0 -> (Q ρ .err -> NJ c B s₁ e a0 E) -> wpAny (Mo c.W) (c.A.mark (some (.ref e))) (execs hs c.env) (Po c G O s Q) E s
section
variable {K : Ky} {c : Fc K} {ρ : En} {G G' : Fz} {O : Addr -> Option Tg} {m : Str -> Option Value} {s s' : Shared} {x : Bool} {p p1 p2 p3 : Pos} {v : PV} {st : Stmt} {r hs b : List Stmt} {e t : Expr} {Q Q' : En -> Fl -> Prop} {E : Value -> Shared -> Prop} {fl : Fl}
theorem Hn.go {B : Heap} {s₁ : Shared} {e : Addr} {a0 : Value} (x : Hn c B s₁ s e a0) (g : Go G s G' s') : Hn c B s₁ s' e a0 :=
 ⟨xX x.fly (pB g.k), x.nxt.trans ⟨cL (pB g.k), by obtain ⟨h, t, rfl, _⟩ := g.k; exact ⟨rfl, rfl, λ g => g⟩⟩, (by obtain ⟨o, vs, ho, r⟩ := x.f2; exact ⟨o, vs, g.get ho, r⟩)⟩
theorem FR.esH (R : FR c ρ G O m s) (e : Addr) : ES (c.mark e) ρ G s := ⟨R.es.base, R.es.sub, R.es.var⟩
theorem zN {st : Stmt} (h : ∀ (c : Fc K) G O m s, K.exn = true -> FR c ρ G O m s -> ∀ B s₁ e a0 E, Hn c B s₁ s e a0 -> (Q ρ .err -> NJ c B s₁ e a0 E) -> wpAny (Mo c.W) (c.A.mark (some (.ref e))) (exec st c.env) (Po c G O s Q) E s) : I6 K ρ [st] Q := λ c G O m s hx R B s₁ e a0 E H hE =>
 bx (ay (h c G O m s hx R B s₁ e a0 E H hE) (λ f s' q_ => q_.casesOn λ ρ' fl q h => by
  cases fl with
  | next => obtain ⟨rfl, h⟩ := h; exact bY ⟨ρ', .next, q, rfl, h⟩
  | brk => obtain ⟨rfl, h⟩ := h; exact ⟨ρ', .brk, q, rfl, h⟩
  | cont => obtain ⟨rfl, h⟩ := h; exact ⟨ρ', .cont, q, rfl, h⟩
  | ret v => obtain ⟨u, rfl, h⟩ := h; exact ⟨ρ', .ret v, q, u, rfl, h⟩
  | err => exact h.elim) λ _ _ e => e)
theorem Bq (h : Q ρ .err) : I6 K ρ [.Raise none none p] Q := zN λ c G O m s hx R B s₁ e a0 E H hE => by
 have hf := (c.ex hx).eq
 rw [arm_exec_Raise]
 refine aa (aI ?_)
 show wpAny _ _ (raiseStmt c.env none none) _ _ _
 unfold raiseStmt
 refine aa (jD ?_)
 have hh : (c.A.mark (some (.ref e))).handled = some (.ref e) := rfl
 rw [hh]
 dsimp only
 refine mL λ gk => ?_
 obtain ⟨oe, vs, T, oT, ts, he, hcls, hd, hv1, _⟩ := H.fly.2.2.2
 refine gk ?_
 refine aa (jl (aa (fS he hd hv1 ?_)))
 rw [if_neg (show ¬ ((eC T == cS) = true) from nofun)]
 refine aa ?_
 rw [hf]
 exact Le H.fly H.f2 λ s₂ q1 q2 q3 => iT (hE h s₂ q1 (H.nxt.trans q2) q3)
theorem Ek (h : Q ρ .cont) : I6 K ρ [.Continue p] Q := zN λ c G O m s hx R B s₁ e a0 E H hE => ml ⟨ρ, .cont, h, rfl, G, O, m, R, Pz.rfl⟩
theorem Ct (h : mO K.hdl ρ e v) (hq : Q ρ (.ret v)) : I6 K ρ [.Return (some e) p] Q := zN λ c G O m s hx R B s₁ ea a0 E H hE =>
 cK (Gv.then (h (c.mark ea) G s (R.esH ea)) λ u s' G' g q => ⟨ρ, .ret v, hq, u, rfl, G', (R.go g).retOk, q⟩)
theorem Dv (h : Tr K.hdl ρ t x) (h1 : x = true -> I6 K ρ b λ ρ' fl => fl ≠ .next /\ Q ρ' fl) (h2 : x = false -> I6 K ρ r Q) : I6 K ρ (.If t b [] p :: r) Q := λ c G O m s hx R B s₁ ea a0 E H hE =>
 bx (jm (ay (h (c.mark ea) G s (R.esH ea)) ((by
  rintro z s' ⟨hz, G', g⟩
  subst hz
  cases z with
  | true => exact ay (h1 rfl c G' O m s' hx (R.go g) B s₁ ea a0 E (H.go g) λ h => hE h.2) (λ f s'' q_ => q_.casesOn λ ρ' fl q h => by
    have w := h.back (Pz.go g)
    clear h
    cases fl with
    | next => exact absurd rfl q.1
    | brk => obtain ⟨rfl, w⟩ := w; exact ⟨ρ', .brk, q.2, rfl, w⟩
    | cont => obtain ⟨rfl, w⟩ := w; exact ⟨ρ', .cont, q.2, rfl, w⟩
    | ret v => obtain ⟨u, rfl, w⟩ := w; exact ⟨ρ', .ret v, q.2, u, rfl, w⟩
    | err => exact w.elim) λ _ _ e => e
  | false => exact bY (ay (h2 rfl c G' O m s' hx (R.go g) B s₁ ea a0 E (H.go g) hE) (λ _ _ h => h.back (Pz.go g)) λ _ _ e => e))) λ _ _ e => e.elim))
noncomputable def Na (K : Ky) (hs : List Stmt) (Q : En -> Fl -> Prop) (ρ : En) (fl : Fl) : Prop := match fl with
 | .err => I6 K ρ hs Q
 | fl => Q ρ fl
theorem C1 (hx : K.exn = true) (hk : om K.sc "KeyError" = true) (h : Wp K ρ b (Na K (st :: hs) Q)) : Sx K ρ (.Try b [.ExceptHandler (some (.Name "KeyError" p1)) none (st :: hs) p2] [] [] p3) Q := λ c G O m s R E hE hX => by
 have X := c.ex hx
 refine mL λ gk => ?_
 obtain ⟨outer, hl⟩ := X.top
 refine gk ?_
 have hfr : c.A.frames = some (c.env :: outer) := X.fr.trans (congrArg some hl)
 have hf := X.eq
 refine wpAny_Try_except (ay (h c G O m s R _ PassesOwn.looking ?_) (λ f s' q_ => q_.casesOn λ ρ' fl q h => by
  cases fl with
  | next => obtain ⟨rfl, h⟩ := h; exact bY ⟨ρ', .next, q, rfl, h⟩
  | brk => obtain ⟨rfl, h⟩ := h; exact ⟨ρ', .brk, q, rfl, h⟩
  | cont => obtain ⟨rfl, h⟩ := h; exact ⟨ρ', .cont, q, rfl, h⟩
  | ret v => obtain ⟨u, rfl, h⟩ := h; exact ⟨ρ', .ret v, q, u, rfl, h⟩
  | err => exact h.elim) λ _ _ e => e)
 intro ρ₁ ex G₁ O₁ m₁ s₁ s₂ q _ R₁ P₁ hr hs'
 have land : ∀ (B : Heap) (G' : Fz) (a : Addr) (a0 : Value) (s₃ : Shared), BR G₁ s₁.heap c.l G' B -> Nm B c.l a a0 c.env.locals s₃.heap -> z9 s₁ s₃ -> qk s₃.heap a ->
   wpAny (Mo c.W) c.A (setFlight (.ref a) none) (λ _ s₃ => wpAny (Mo c.W) c.A (handleBy (.ref a) c.env [.ExceptHandler (some (.Name "KeyError" p1)) none (st :: hs) p2]) (Po c G O s Q) E s₃) E s₃ := λ B G' a a0 s₃ ap hh nx f2 => by
  refine Ej hh f2 λ s₄ q1 n4 f4 => ?_
  have ret : ∀ s₅ : Shared, JJ B c.l a a0 s₅.heap -> z9 s₁ s₅ -> Aw s₁ G₁ c.l s₅ G' := λ s₅ x n => ⟨n.rest, λ b o hb e => x.1 b o (ap.cover b o (λ h => hb (aC _ h)) (λ h => hb (aq _ h)) e), n.up, ⟨ap.le, λ b o e => x.1 b o (ap.sub b o e), ap.old⟩, (ap.tabs (R₁.tab hx)).keep Fz.le.rfl λ P _ o e => x.1 P o e⟩
  have R₄ := R₁.retR hx (ret s₄ q1 (nx.trans n4))
  refine mL λ gk => ?_
  obtain ⟨ob, hob, hobc⟩ := q1.there
  refine gk ?_
  refine wpAny_handleBy_builtin (X := "KeyError") (T := "KeyError") (b := true) y6 v8 C7 (qp (c := c.mark a) hk (c.hw.glo _ _ rfl) R₄.base ⟨rfl, ⟨ob, hob, hobc⟩, ?_⟩)
  simp only [if_true]
  refine IE q1 f4 λ s₅ x1 n5 f5 => ?_
  have r₅ := ret s₅ x1 ((nx.trans n4).trans n5)
  have P₅ : Pz c G O s G' O₁ s₅ := P₁.trans (Pz.retR hx r₅)
  refine ay (q c G' O₁ m₁ s₅ hx (R₁.retR hx r₅) B s₁ a a0 _ ⟨x1, (nx.trans n4).trans n5, f5⟩ λ hq s₆ y1 n6 f6 => ?_) (λ f s₆ q => q.back P₅) λ _ _ e => e
  refine gw hf y1.2.2.2 ?_
  show wpAny (Mo c.W) c.A _ _ _ _
  refine mL λ gk => ?_
  obtain ⟨f1, f2, f3, f4⟩ := y1
  obtain ⟨oe, vs, T, oT, ts, he, hcls, hd, hv1, r⟩ := id f4
  refine gk ?_
  refine aa (fS he hd hv1 ?_)
  rw [if_neg (show ¬ ((eC T == cS) = true) from nofun)]
  rw [hf]
  refine ay (qH (pP _ _) (sK (A := c.A) (E := λ _ _ => False) (L := c.env.locals) (Q := λ _ s₇ => Nm B c.l a a0 c.env.locals s₇.heap /\ z9 s₆ s₇) f1 f2 f3 f4 λ h' q1 q2 => ⟨q1, q2, ⟨rfl, rfl, λ g => g⟩⟩) f6) (λ _ s₇ q => ?_) λ _ _ q => q.1.elim
  refine mL λ gk => ?_
  obtain ⟨⟨z1, z2⟩, z4⟩ := q
  refine gk ?_
  have n7 := n6.trans z2
  exact hX ρ₁ (.ref a) G₁ O₁ m₁ s₁ s₇ hq hx R₁ P₁ (.inr ⟨B, G', a, a0, rfl, ap, z1, n7.up, z4⟩) n7.rest
 rcases hr with ⟨B, G', a, a0, rfl, ap, hfly, hup, h2⟩ | ⟨B, G', a, a0, rfl, ap, hheld, hup, h2⟩
 ·have hfly' : eX B (c.env :: outer) a (.type "KeyError") a0 s₂.heap := hl ▸ hfly
  refine ay (qH (uO _ _) (wpAny_looks_onW (A := c.A) (E := λ _ _ => False) (Q := λ _ s₃ => iG B (c.env :: outer) a (.type "KeyError") a0 c.env.locals s₃.heap /\ z9 s₂ s₃) hfr hf hfly' λ h' q1 q2 => ⟨q1, q2, ⟨rfl, rfl, λ g => g⟩⟩) h2) (λ _ s₃ q => ?_) λ _ _ q => q.1.elim
  refine mL λ gk => ?_
  obtain ⟨⟨q1, q2⟩, q4⟩ := q
  refine gk ?_
  exact land B G' a a0 s₃ ap (hl.symm ▸ q1) (z9.trans ⟨hup, hs'⟩ q2) q4
 ·exact gw hf hheld.2.2.2 (land B G' a a0 s₂ ap hheld ⟨hup, hs'⟩ h2)
end
noncomputable def v6 (sc : Sc) (as : List (Str × PV)) : En := sc.filterMap λ p => if p.2 == .local || p.2 == .cell then some (p.1, as.lookup p.1) else none
noncomputable def zz (sc : Scope) (ow : List Str) (ps : List Str) : Bool :=
 sc.kind == .function && !sc.isCoroutine && !sc.isGenerator && sc.names.all (λ y => y.1 != "__debug__" && y.2 != .free) && nV (sc.names.map (·.1)) && nV ps &&
  ps.all (λ x => !ow.contains x && (sc.names.lookup x == some .local || sc.names.lookup x == some .cell))
structure Pb (sc : Scope) (ow : List Str) (pa : List Str) : Prop where
 kind : sc.kind = .function
 co : sc.isCoroutine = false
 gen : sc.isGenerator = false
 dbg : ∀ y ∈ sc.names, (y.1 == ("__debug__" : Str)) = false /\ y.2 ≠ .free
 ps : nV pa = true
 par : ∀ x ∈ pa, ow.contains x = false /\ (sc.names.lookup x = some .local \/ sc.names.lookup x = some .cell)
theorem Nk {sc : Scope} {ow ps : List Str} (h : zz sc ow ps = true) : Pb sc ow ps := by
 simp only [zz, av, beq_iff_eq, aN, aU, bne_iff_ne, ne_eq] at h
 obtain ⟨⟨⟨⟨⟨⟨h1, h2⟩, h3⟩, h4⟩, h5⟩, h6⟩, h7⟩ := h
 exact ⟨h1, h2, h3, λ y hy => ⟨beq_eq_false_iff_ne.mpr (h4 y hy).1, (h4 y hy).2⟩, h6, λ x hx => ⟨(h7 x hx).1, by simpa only [bq, beq_iff_eq] using (h7 x hx).2⟩⟩
set_option tactic.hygienic true in
theorem IW {sc : Sc} {as : List (Str × PV)} {x : Str} {pv : PV} (h : (v6 sc as).get x = some pv) : as.lookup x = some pv := by
 unfold v6 En.get at h
 induction sc with
 | nil => cases h
 | cons a r ih =>
  rw [List.filterMap_cons] at h
  split at h
  ·exact ih h
  ·rename_i b heq
   split at heq
   ·cases heq
    rw [au] at h
    split at h
    ·rename_i e
     rw [be e]
     exact h
    ·exact ih h
   ·cases heq
theorem si {x : Str} {r : List Str} (h : nV (x :: r) = true) : x ∉ r /\ nV r = true := by
 obtain ⟨h0, h1⟩ := bL.mp (show (!r.contains x && nV r) = true from h)
 exact ⟨λ hm => (by rw [eD.mpr hm] at h0; cases h0), h1⟩
section
variable {kindOf : Str -> Option NameKind} {x : Str} {v : Value}
theorem FD : ∀ {l : List (Str × Value)} {m : Str -> Option Value}, x ∉ l.map (·.1) -> bindL kindOf l m x = m x := by
 intro l_
 induction l_ with
 | nil =>
  rintro m _
  exact rfl
 | cons p_ r ih =>
  obtain ⟨n, u⟩ := p_
  rintro m h
  unfold bindL
  rw [ih λ q => h (.tail _ q)]
  split
  ·exact if_neg λ q : x = n => h (q ▸ .head _)
  ·rfl
theorem EA : ∀ {l : List (Str × Value)} {m : Str -> Option Value}, x ∉ l.map (·.1) -> bindC kindOf l m x = m x := by
 intro l_
 induction l_ with
 | nil =>
  rintro m _
  exact rfl
 | cons p_ r ih =>
  obtain ⟨n, u⟩ := p_
  rintro m h
  unfold bindC
  rw [ih λ q => h (.tail _ q)]
  split
  ·rfl
  ·exact if_neg λ q : x = n => h (q ▸ .head _)
theorem qx (hk : kindOf x = some .local) : ∀ {l : List (Str × Value)} {m : Str -> Option Value}, nV (l.map (·.1)) = true -> l.lookup x = some v -> bindL kindOf l m x = some v
 | (n, u) :: r, m, hn, h => by
  unfold bindL
  rw [au] at h
  split at h
  ·rename_i e
   have e := be e
   subst e
   cases h
   rw [if_pos hk, FD (si hn).1]
   exact if_pos rfl
  ·exact qx hk (si hn).2 h
theorem yh (hk : kindOf x ≠ some .local) : ∀ {l : List (Str × Value)} {m : Str -> Option Value}, nV (l.map (·.1)) = true -> l.lookup x = some v -> bindC kindOf l m x = some v
 | (n, u) :: r, m, hn, h => by
  unfold bindC
  rw [au] at h
  split at h
  ·rename_i e
   have e := be e
   subst e
   cases h
   rw [if_neg hk, EA (si hn).1]
   exact if_pos rfl
  ·exact yh hk (si hn).2 h
end
theorem sN {W : Wo} {G : Fz} {x : Str} {pv : PV} : ∀ {ps : List Str} {vs : List PV} {us : List Value}, nG W G vs us -> (ps.zip vs).lookup x = some pv -> ∃ v, (ps.zip us).lookup x = some v /\ VR W G pv v
 | [], vs, us, _, h => by cases h
 | p :: ps, [], us, _, h => by cases h
 | p :: ps, q :: vs, us, ⟨v, us', e, hv, hr⟩, h => by
  subst e
  rw [jQ, au] at h |-
  split at h
  ·cases h; exact ⟨v, rfl, hv⟩
  ·exact sN hr h
theorem pY {x : Str} : ∀ (names : List (Str × NameKind)) (n : Nat) (acc : List (Str × Addr)), names.lookup x = some .cell \/ (acc.lookup x).isSome = true -> ((cellsFrom n names acc).lookup x).isSome = true := by
 intro l_
 induction l_ with
 | nil =>
  rintro n acc h
  exact h.elim (λ h => nomatch h) id
 | cons p_ r ih =>
  obtain ⟨y, k⟩ := p_
  rintro n acc h
  unfold cellsFrom
  rw [au] at h
  split
  ·refine ih _ _ ?_
   rw [au]
   cases e : (x == y) with
   | true => exact .inr rfl
   | false => rw [e] at h; exact h
  ·rename_i hk
   refine ih _ _ (h.imp (λ h => ?_) id)
   split at h
   ·cases h; exact absurd rfl hk
   ·exact h
structure yy (K : Ky) (f : Str) : Prop where
 sc : K.sc = (nE f).scope.names
 good : zz (nE f).scope K.ow (nE f).params = true
 hd : K.hd = false
 tb : ∀ P, K.tb = some P -> yT.lookup f = some P
 cl : ∀ env W G G' i v, G.le G' -> K.cl env W G i v -> K.cl env W G' i v
structure w2 (K : Ky) (W : Wo) (f : Str) (fd : FuncData) (a : Addr) (A : Around) (l0 : List Env) (s : Shared) (G : Fz) : Prop where
 hw : Hw W
 D : uL W f a fd
 B : yy K f
 hd : A.handled = none
 dep : A.depth + (K.k + 1) <= 900
 uni : A.units + 8 * (K.k + 1) <= 9000
 base : W.h₀.StaysIn s.heap
 sub : G.sub s.heap
 ex : K.exn = true -> A.frames = some l0 /\ HH s.heap l0 /\ (∀ b ∈ mS l0 ++ tabs, W.h₀.get? b = none /\ G b = none) /\ ql G s.heap
theorem qh (h : Heap) : h.get? h.objs.size = none := dM (aQ _)
section
variable {K : Ky} {W : Wo} {f : Str} {fd : FuncData} {a : Addr} {A : Around} {l0 : List Env} {s s₁ : Shared} {G : Fz} {vs : List PV} {us : List Value}
noncomputable def w2.fc (C : w2 K W f fd a A l0 s G) : Fc K where
 W := W
 env := callEnvC fd s.heap.objs.size a
 A := A.deeper (callEnvC fd s.heap.objs.size a)
 hw := C.hw
 kind := (congrArg Scope.kind C.D.scope).trans (Nk C.B.good).kind
 hgl := C.D.gl
 hbi := C.D.bi
 hd := λ _ => C.hd
 dep := by
  have := C.dep
  rw [<- cP, bv] at this
  exact this
 uni := by
  refine ac ?_ C.uni
  show A.units + 3 + 8 * K.k <= _
  rw [hJ, cP, ce 3]
  exact a6 (a6 (by decide) _) _
 dbg := λ x k hx => ((Nk C.B.good).dbg (x, k) (m7 (C.B.sc ▸ hx))).1
 glk := λ x hx => by
  show fd.scope.names.lookup x = _
  rw [C.D.scope, <- C.B.sc]; exact hx
 cls := λ x hx => by
  have hx : K.sc.lookup x = some .cell := hx.resolve_right λ e => ((Nk C.B.good).dbg (x, .free) (m7 (C.B.sc ▸ e))).2 rfl
  have e : fd.scope.names.lookup x = some .cell := by rw [C.D.scope, <- C.B.sc]; exact hx
  exact ⟨fz.mp (pY _ _ [] (.inl e)), .inl e⟩
 nh := C.B.hd
 Gb := G
 sb := s
 l := callEnvC fd s.heap.objs.size a :: l0
 clk := λ G G' i v => C.B.cl _ W G G' i v
 knd := λ x k hx => by
  show fd.scope.names.lookup x = _
  rw [C.D.scope, <- C.B.sc]; exact hx
 nfr := λ x e => ((Nk C.B.good).dbg (x, .free) (m7 (C.B.sc ▸ e))).2 rfl
 base := C.base
 mkf := λ P e => C.D.mkf P (C.B.tb P e)
 ex := λ e => by
  obtain ⟨h1, h2, h3, h4⟩ := C.ex e
  refine ⟨f7 h1, ⟨l0, rfl⟩, rfl, λ b hb => ?_, λ b hb => ?_, λ h => ?_⟩
  ·rcases ag.mp (show b ∈ s.heap.objs.size :: mS l0 from hb) with rfl | hb
   ·exact .inl rfl
   ·exact .inr (zJ h2 hb)
  ·rcases ag.mp (show b ∈ s.heap.objs.size :: (mS l0 ++ tabs) from hb) with rfl | hb
   ·cases e : W.h₀.get? s.heap.objs.size with
    | none => rfl
    | some o => have := C.base _ _ e; rw [qh] at this; cases this
   ·exact (h3 b hb).1
  ·obtain ⟨ps, h, _⟩ := h4 _ h
   have h : s.heap.get? s.heap.objs.size = _ := h
   rw [qh] at h; cases h
end
open Classical in
noncomputable def wF (L : Addr) (cs : List (Str × Addr)) : Addr -> Option Tg := λ b => if b = L then some .frame else if h : ∃ x, cs.lookup x = some b then some (.cell h.choose) else none
theorem Bd {L : Addr} {cs : List (Str × Addr)} {x : Str} {a : Addr} (h : cs.lookup x = some a) (ap : cs.Pairwise λ x y => x.2 ≠ y.2) (hL : L < a) : wF L cs a = some (.cell x) := by
 have e : ∃ x, cs.lookup x = some a := ⟨x, h⟩
 unfold wF
 rw [if_neg (Ne.symm (aE hL)), dif_pos e, name_of_addr ap (mem_of_lookup e.choose_spec) (mem_of_lookup h)]
theorem Ah {L : Addr} {cs : List (Str × Addr)} {b : Addr} {t : Tg} (h : wF L cs b = some t) : b = L \/ ∃ x, cs.lookup x = some b := by
 unfold wF at h
 split at h
 ·rename_i e; exact .inl e
 ·split at h
  ·rename_i e; exact .inr e
  ·cases h
section
variable {K : Ky} {W : Wo} {f : Str} {fd : FuncData} {a : Addr} {A : Around} {l0 : List Env} {s s₁ : Shared} {G : Fz} {vs : List PV} {us : List Value}
theorem w2.start (C : w2 K W f fd a A l0 s G) (hv : nG W G vs us) (hl : us.length = (nE f).params.length)
  (x : InCallC s (callEnvC fd s.heap.objs.size a).locals (bindL (callEnvC fd s.heap.objs.size a).kindOf ((nE f).params.zip us) λ _ => none) (callEnvC fd s.heap.objs.size a).cells (bindC (callEnvC fd s.heap.objs.size a).kindOf ((nE f).params.zip us) λ _ => none) s₁) :
  ∃ O m, FR C.fc (v6 K.sc ((nE f).params.zip vs)) G O m s₁ := by
 have S := Nk C.B.good
 refine mL λ gk => ?_
 obtain ⟨⟨⟨h', tk, rfl⟩, hns, hkeep, _⟩, hcell, hap, habove⟩ := x
 refine gk ?_
 have kd : ∀ {y k}, K.sc.lookup y = some k -> (callEnvC fd s.heap.objs.size a).kindOf y = some k := λ {y k} e => C.fc.knd y k e
 have hz : nV (((nE f).params.zip us).map (·.1)) = true := by
  rw [List.map_fst_zip (aT hl.symm)]; exact S.ps
 have cl : ∀ {y}, K.sc.lookup y = some .cell -> ∃ ca, (callEnvC fd s.heap.objs.size a).cells.lookup y = some ca /\ s.heap.objs.size < ca := λ {y} hy => by
  have e : fd.scope.names.lookup y = some .cell := kd hy
  obtain ⟨ca, hca⟩ := fz.mp (pY fd.scope.names (s.heap.objs.size + 1) [] (.inl e))
  exact ⟨ca, hca, habove y ca (mem_of_lookup hca)⟩
 have fr : ∀ b ∈ C.fc.fr, b = s.heap.objs.size \/ (∃ o, s.heap.get? b = some o) /\ G b = none := λ b hb => by
  refine mL λ gk => ?_
  obtain ⟨e, hb⟩ := C.fc.exn hb
  obtain ⟨_, h2, h3, h4⟩ := C.ex e
  refine gk ?_
  have g : b ∈ mS l0 ++ tabs -> (∃ o, s.heap.get? b = some o) /\ G b = none := λ hb => ⟨(aX.mp hb).elim (zJ h2) λ hb => (by obtain ⟨_, h, _⟩ := h4 b hb; exact ⟨_, h⟩), (h3 b hb).2⟩
  rcases hb with hb | hb
  ·rcases ag.mp (show b ∈ s.heap.objs.size :: mS l0 from hb) with rfl | hb
   ·exact .inl rfl
   ·exact .inr (g (aC _ hb))
  ·exact .inr (g (aq _ hb))
 have new : ∀ {b : Addr}, s.heap.objs.size <= b -> s.heap.get? b = none /\ G b = none := λ h => ⟨dM h, m4 C.sub (dM h)⟩
 refine ⟨wF s.heap.objs.size (callEnvC fd s.heap.objs.size a).cells, _, ⟨rfl, rfl, λ g => g⟩, λ _ => rfl, λ b o _ e => hkeep b o e, cL hkeep, Fz.le.rfl, λ _ _ _ => rfl, λ b o e => hkeep b o (C.sub b o e), λ b hb => ?_, λ b t h => ?_, if_pos rfl, λ e => ?_, λ e => (C.ex e).2.2.2.keep Fz.le.rfl λ P _ => hkeep P, hns, λ y hy => ?_, λ y pv hr hy => ?_⟩
 ·rcases fr b hb with rfl | h
  ·exact (new (aQ _)).2
  ·exact h.2
 ·have hb : s.heap.objs.size <= b /\ ∃ o, h'.get? b = some o := by
   rcases Ah h with rfl | ⟨y, hm⟩
   ·obtain ⟨o, _, _, h, _⟩ := hns; exact ⟨aQ _, o, h⟩
   ·obtain ⟨o, h, _⟩ := hcell y b hm
    exact ⟨a5 (habove y b (mem_of_lookup hm)), o, h⟩
  exact ⟨(new hb.1).2, (new hb.1).1, hb.2, λ q => (fr b q).resolve_right λ ⟨⟨o, h⟩, _⟩ => by rw [(new hb.1).1] at h; cases h⟩
 ·intro env he
  rcases ag.mp he with rfl | he
  ·obtain ⟨o, es, ep, ho, hd, _⟩ := hns
   exact ⟨by rw [show (callEnvC fd s.heap.objs.size a).scope.kind = .function from C.fc.kind]; exact nofun, s.heap.objs.size, o, rfl, ho, λ vs q => by rw [hd] at q; cases q⟩
  ·exact ((C.ex e).2.1.up (cL hkeep)) env he
 ·obtain ⟨ca, hca, hlt⟩ := cl hy
  exact ⟨ca, _, hca, Bd hca hap hlt, hcell y ca hca⟩
 ·obtain ⟨v, hlv, hvr⟩ := sN hv (IW hr)
  have hyp : y ∈ (nE f).params := (eM (mem_of_lookup hlv)).1
  refine ⟨v, ?_, ?_⟩
  ·rcases pQ.mp hy with hy | hy
   ·exact .inl ⟨hy, qx (kd hy) hz hlv⟩
   ·obtain ⟨ca, hca, hlt⟩ := cl hy
    have hc := hcell y ca hca
    rw [yh (λ e => by rw [kd hy] at e; cases e) hz hlv] at hc
    exact .inr ⟨hy, ca, hca, hc⟩
  ·unfold oH
   rw [(S.par y hyp).1]
   exact .inl hvr
end
noncomputable def Bl (r : Rs) (_ : En) : Fl -> Prop
 | .ret v => r = .ok v
 | .next => r = .ok .none
 | .err => r = .err
 | _ => False
section
variable {K : Ky} {c : Fc K} {W : Wo} {f : Str} {fd : FuncData} {a : Addr} {A : Around} {l0 : List Env} {s s₁ s₂ : Shared} {G G₁ : Fz} {vs ws : List PV} {us us' : List Value} {ρ : En} {O : Addr -> Option Tg} {m : Str -> Option Value} {e : Value} {E : Value -> Shared -> Prop} {r : Rs} {k k' : Nat} {kvs : List (Str × PV)}
theorem IF {Q : Unit -> Shared -> Prop} (hx : K.exn = true) (hl : c.l = c.env :: l0) (R : FR c ρ G₁ O m s₁) (hr : rU G₁ s₁.heap c.l e s₂.heap \/ NK G₁ s₁.heap c.l c.env.locals e s₂.heap) (hs : tC s₁ s₂)
  (hQ : ∀ s', rU c.Gb c.sb.heap l0 e s'.heap -> tC c.sb s' -> Q () s') : wpAny (Mo c.W) c.A (leaving c.env e) Q E s₂ := by
 have X := c.ex hx
 have hfm := X.eq
 have hfr : c.A.frames = some (c.env :: l0) := by rw [X.fr, hl]
 have base : ∀ {B : Heap} {G' : Fz}, BR G₁ s₁.heap c.l G' B -> BR c.Gb c.sb.heap l0 G' B := λ {B G'} ap => by
  refine ⟨λ b o hn ht hb => ?_, R.le.trans ap.le, ap.sub, λ b o hb => ?_, λ _ => ap.tabs (R.tab hx)⟩
  ·have hn' : b ∉ mS c.l := λ h => by
    rw [hl] at h
    obtain ⟨env, he, hf⟩ := dw.mp h
    rcases ag.mp he with rfl | he
    ·rw [hfm] at hf; cases hf
     rw [(R.ow _ _ R.fo).new] at hb; cases hb
    ·exact hn (dw.mpr ⟨env, he, hf⟩)
   exact ap.cover b o hn' ht (R.kp b o (by rw [c.fr_eq hx]; exact λ h => (aX.mp h).elim hn' ht) hb)
  ·rw [<- R.old b o hb]
   by_cases h : b ∈ c.fr
   ·obtain ⟨o', ho⟩ := R.frAl h; exact ap.old b o' ho
   ·exact ap.old b o (R.kp b o h hb)
 rcases hr with ⟨B, G', ea, a0, rfl, ap, hfly, hup, f2⟩ | ⟨B, G', ea, a0, rfl, ap, hh, hup, f2⟩
 ·have hfly' : eX B (c.env :: l0) ea (.type "KeyError") a0 s₂.heap := hl ▸ hfly
  refine ay (qH (xa _ _) (wpAny_leaves_onW (A := c.A) (E := λ _ _ => False) (Q := λ _ s₃ => JJ B l0 ea a0 s₃.heap /\ z9 s₂ s₃) hfr hfm hfly' λ h' q1 q2 => ⟨q1, q2, ⟨rfl, rfl, λ g => g⟩⟩) f2) (λ _ s₃ q => ?_) λ _ _ q => q.1.elim
  exact hQ s₃ ⟨B, G', ea, a0, rfl, base ap, q.1.1, (R.sl.trans hup).trans q.1.2.up, q.2⟩ (R.rest.trans (hs.trans q.1.2.rest))
 ·unfold leaving
  refine aa (gw hfm hh.2.2.2 (Ej hh f2 λ s₃ q1 n q3 => ?_))
  obtain ⟨k1, k2, k3, k4⟩ := q1
  have k5 : s₃.heap.FunFrames B (c.env :: l0) := hl ▸ k3
  exact hQ s₃ ⟨B, G', ea, a0, rfl, base ap, ⟨k1, k2, k5.2.2, k4⟩, (R.sl.trans hup).trans n.up, q3⟩ (R.rest.trans (hs.trans n.rest))
theorem A3 (C : w2 K W f fd a A l0 s G) (hl : us.length = (nE f).params.length) (hv : nG W G vs us) {pos : List Value} {kw : List (Str × Value)} (hb : ph W f fd pos kw us) (h : Wp K (v6 K.sc ((nE f).params.zip vs)) (nE f).body (Bl r))
  (hE : r = .err -> K.exn = true -> ∀ e s', rU G s.heap l0 e s'.heap -> tC s s' -> E e s') : wpAny (Mo W) A (call (.ref a) pos kw) (λ u s' => ∃ pv G', r = .ok pv /\ IT C.fc s' G' /\ VR W G' pv u) E s := by
 have S := Nk C.B.good
 obtain ⟨o, ho, hd⟩ := C.D.obj
 have room : A.depth < recursionLimit := ar (ac (aV _ _) C.dep) (by decide)
 refine fG (gJ room (C.base _ _ ho) hd (by rw [C.D.scope]; exact S.co) (by rw [C.D.scope]; exact S.gen) C.D.body (C.D.code.keeps C.base) (ay (hb _ _ C.base) (λ b s' q => ?_) λ _ _ e => e.elim))
 obtain ⟨rfl, rfl⟩ := q
 rw [C.D.clos]
 refine wpAny_newFunctionEnv_cells C.fc.kind (λ x hx => ?_) λ env he s₁ hin => ?_
 ·have := (S.par x.1 (eM (show (x.1, x.2) ∈ (nE f).params.zip us from hx)).1).2
  rw [C.D.scope]
  exact this.imp id λ h => ⟨h, pY _ _ [] (.inl h)⟩
 ·subst he
  obtain ⟨O, m, R⟩ := C.start hv hl hin
  refine ⟨(C.hw.lim.keeps C.base).keeps hin.toInCall.keep, j0 (ay (h C.fc G O m s₁ R _ PassesOwn.leaving λ ρ e G₁ O₁ m₁ s₂ s₃ q hx R₁ _ hra hrs => IF hx rfl R₁ hra hrs λ s₄ x y => hE q hx e s₄ x y) (λ f s₂ q_ => q_.casesOn λ ρ fl q h => ?_) λ _ _ e => e)⟩
  cases fl with
  | ret v => obtain ⟨u, rfl, G', hq, hvr⟩ := h; exact ⟨v, G', q, hq, hvr⟩
  | next => obtain ⟨rfl, G', O', m', R', _⟩ := h; exact ⟨.none, G', q, R'.retOk, rfl⟩
  | err => exact h.elim
  | brk => exact q.elim
  | cont => exact q.elim
theorem tx.mono (h : tx k f vs kvs r) (hk : k <= k') : tx k' f vs kvs r := λ W hw => (by obtain ⟨a, F⟩ := h W hw; exact ⟨a, F.glo, F.fn, λ A l s G us kus E ok => F.run A l s G us kus E (ok.mono hk)⟩)
theorem M2 {v : PV} (B : yy K f) (hf : f ∈ qg) (hx : K.exn = false) (hl : vs.length = (nE f).params.length) (h : Wp K (v6 K.sc ((nE f).params.zip vs)) (nE f).body (Bl (.ok v))) : Di (K.k + 1) f vs v := λ W hw => by
 obtain ⟨a, fd, D, hb⟩ := hw.defs f hf
 obtain ⟨o, ho, hd⟩ := D.obj
 refine ⟨a, D.glo, ⟨o, fd, ho, hd⟩, λ A s G us h1 h2 h3 h4 sub hv => ?_⟩
 have hul : us.length = (nE f).params.length := hv.length.trans hl
 have C : w2 K W f fd a A [] s G := ⟨hw, D, B, h1, h2, h3, h4, sub, λ e => by rw [hx] at e; cases e⟩
 refine ay (A3 C hul hv (hb us hul) h (E := λ _ _ => False) λ e => nomatch e) (λ u s' ⟨pv, G', e, q, hvr⟩ => ?_) λ _ _ e => e
 cases e
 have hg : s'.gens = s.gens := q.gens hx
 have ho : s'.os = s.os := q.rest.os
 have hdr : s'.drawn = s.drawn := q.rest.drawn
 refine ⟨⟨s'.heap, s'.toks, ?_, λ b o e => q.kp b o (λ h => by obtain ⟨e, _⟩ := C.fc.exn h; rw [hx] at e; cases e) e⟩, G', ⟨q.le, q.sub, q.old⟩, hvr⟩
 obtain ⟨h', g', d', t', os'⟩ := s'
 cases hg; cases ho; cases hdr
 rfl
theorem uq (B : yy K f) (hx : K.exn = true) (hw : Hw W) (D : uL W f a fd) (hl : ws.length = (nE f).params.length) (h : Wp K (v6 K.sc ((nE f).params.zip ws)) (nE f).body (Bl r))
  (hb : ∀ G us kus, nG W G vs us -> nG W G (kvs.map (·.2)) kus -> ∃ us', nG W G ws us' /\ ph W f fd us ((kvs.map (·.1)).zip kus) us') : Ei W (K.k + 1) f vs kvs r a := by
 obtain ⟨o, ho, hd⟩ := D.obj
 refine ⟨D.glo, ⟨o, fd, ho, hd⟩, λ A l s G us kus E ok hfr hn ht sub hv hkv hE => ?_⟩
 obtain ⟨us', hv', hb'⟩ := hb G us kus hv hkv
 have frs : HH s.heap l := by obtain ⟨l', e, h⟩ := ok.frs; rw [hfr] at e; cases e; exact h
 have C : w2 K W f fd a A l s G := ⟨hw, D, B, ok.hd, ok.depth, ok.units, ok.base, sub, λ _ => ⟨hfr, frs, hn, ht⟩⟩
 refine ay (A3 C (hv'.length.trans hl) hv' hb' h λ e _ => hE e) (λ u s' ⟨pv, G', e, q, hvr⟩ => ⟨pv, G', e, ⟨q.rest, λ b o hb e => q.kp b o (λ h => ?_) e, q.sl, ⟨q.le, q.sub, q.old⟩, q.tab hx⟩, hvr⟩) λ _ _ e => e
 rw [C.fc.fr_eq hx] at h
 rcases ag.mp (show b ∈ s.heap.objs.size :: (mS l ++ tabs) from h) with rfl | h
 ·have e : s.heap.get? s.heap.objs.size = some o := e
  rw [qh] at e; cases e
 ·exact hb h
theorem JD (B : yy K f) (hf : f ∈ qg) (hx : K.exn = true) (hl : vs.length = (nE f).params.length) (h : Wp K (v6 K.sc ((nE f).params.zip vs)) (nE f).body (Bl r)) : tx (K.k + 1) f vs [] r := λ W hw => by
 obtain ⟨a, fd, D, hb⟩ := hw.defs f hf
 exact ⟨a, uq B hx hw D hl h λ G us kus hv hk => ⟨us, hv, by cases (show _ = _ from hk); exact hb us (hv.length.trans hl)⟩⟩
end
theorem yD {pos pos' : Pos} {c cv : Value} (h : codeAmong pos' [rawInt pos.line, rawInt pos.col, c] = some cv) : cv = c /\ pos'.line = pos.line := by
 simp only [codeAmong, rawInt] at h
 split at h
 ·rename_i hc
  cases h
  exact ⟨rfl, (Int.ofNat.inj (be (bL.mp hc).1)).symm⟩
 ·cases h
theorem Dc {pos : Pos} {a b : Int} {t u : Tok} {x cv : Value} {r r' : List Value} {P : Prop} (h : codeAmong pos (.int a t :: .int b u :: x :: r') = some cv) (g : codeAmong pos r' = some cv -> codeAmong pos r = some cv \/ P) : codeAmong pos (.int a t :: .int b u :: x :: r) = some cv \/ P := by
 simp only [codeAmong] at h |-
 split at h
 ·rename_i hc
  rw [if_pos hc]
  exact .inl h
 ·rename_i hc
  rw [if_neg hc]
  exact g h
theorem CG {pos pos' : Pos} {c cv : Value} (l : List Value) : TriplesOk l -> codeAmong pos' (l ++ [rawInt pos.line, rawInt pos.col, c]) = some cv -> codeAmong pos' l = some cv \/ (cv = c /\ pos'.line = pos.line) := by
 suffices ∀ n, ∀ l : List Value, l.length <= n -> TriplesOk l -> codeAmong pos' (l ++ [rawInt pos.line, rawInt pos.col, c]) = some cv -> codeAmong pos' l = some cv \/ (cv = c /\ pos'.line = pos.line) from this _ l (aQ _)
 intro n
 induction n with
 | zero =>
  intro l hl ht h
  rw [ik (me.mp hl)] at h
  exact .inr (yD h)
 | succ n ih =>
  intro l hl ht h
  rcases l with _ | ⟨v, _ | ⟨w, _ | ⟨x, r⟩⟩⟩
  ·exact .inr (yD h)
  ·cases v <;> exact False.elim ht
  ·cases v <;> first | exact False.elim ht | (cases w <;> exact False.elim ht)
  ·cases v <;> first | exact False.elim ht | skip
   cases w <;> first | exact False.elim ht | skip
   exact Dc h (ih r (ac (aV _ 2) (js hl)) ht)
inductive Jg {K : Ky} (c : Fc K) (ρ : En) (G : Fz) (O : Addr -> Option Tg) (m : Str -> Option Value) (s : Shared) (T : FuncData -> Prop) (v : Value) (s' : Shared) : Prop
 | mk (G' : Fz) (q : Addr) (o : Obj) (fd : FuncData) (e : v = .ref q) (R : FR c ρ G' O m s') (P : Pz c G O s G' O s') (g : G' q = some o) (cls : o.cls = .type "function") (d : o.data = .func fd) (code : ux G' fd.code fd.qualname) (t : T fd)
noncomputable def Gc (Form : Wo -> List (Str × Addr) -> Nat -> FuncData -> Prop) (cs : List (Str × Addr)) (W : Wo) (G : Fz) (i : Nat) (v : Value) : Prop := ∃ q o fd, v = .ref q /\ G q = some o /\ o.cls = .type "function" /\ o.data = .func fd /\ ux G fd.code fd.qualname /\ Form W cs i fd
theorem ux.mono {G G' : Fz} (l : G.le G') {v : Value} {q : Str} : ux G v q -> ux G' v q := (by rintro ⟨c, o, vs, t, e1, e2, e3⟩; exact ⟨c, o, vs, t, e1, l _ _ e2, e3⟩)
theorem Gc.mono {Form : Wo -> List (Str × Addr) -> Nat -> FuncData -> Prop} {cs : List (Str × Addr)} {W : Wo} {G G' : Fz} {i : Nat} {v : Value} (l : G.le G') : Gc Form cs W G i v -> Gc Form cs W G' i v := (by rintro ⟨q, o, fd, e, g, h1, h2, h3, h4⟩; exact ⟨q, o, fd, e, l _ _ g, h1, h2, h3.mono l, h4⟩)
section
variable {K : Ky} {c : Fc K} {ρ : En} {G G' : Fz} {O : Addr -> Option Tg} {m : Str -> Option Value} {s s' : Shared} {x : Str} {P q c' : Addr} {o oc : Obj} {fd : FuncData} {h' : Heap} {tk : Nat} {T : FuncData -> Prop} {E : Value -> Shared -> Prop} {ps : Array Value} {pos : Pos} {A : Around}
theorem A1 (R : FR c ρ G O m s) (k : ∀ b o, s.heap.get? b = some o -> h'.get? b = some o) (sz : s.heap.objs.size <= h'.objs.size) (cls : o.cls = .type "function") (d : o.data = .func fd) (fr : o.isFreed = false) (hc : ux G fd.code fd.qualname) (t : T fd) : Jg c ρ G O m s T (.ref h'.objs.size) { s with heap := h'.push o, toks := tk } := by
 have k2 : ∀ b o', s.heap.get? b = some o' -> (h'.push o).get? b = some o' := λ b o' e => aj _ (k b o' e)
 have u := zH R.sub (pn _ _ sz) (aJ h' fr) λ b o e => k2 b o (R.sub b o e)
 have g : Go G s (G.add h'.objs.size o) { s with heap := h'.push o, toks := tk } := ⟨⟨_, _, rfl, k2⟩, u.le, u.sub, u.old⟩
 exact ⟨_, _, o, fd, rfl, R.go g, Pz.go g, Fz.add_self, cls, d, hc.mono u.le, t⟩
theorem AB (hx : K.exn = true) (hP : P ∈ tabs) (R : FR c ρ G O m s) (hps : s.heap.get? P = some (tabObj ps)) (k : gr P s.heap h') (h1 : s.heap.objs.size <= c') (h2 : c' < h'.objs.size) (rec : h'.CodeRec (.ref c') fd.qualname) (hP' : h'.get? P = some (tabObj (ps ++ #[rawInt pos.line, rawInt pos.col, .ref c'])))
  (hq : fd.qualname = pO P pos) (hcd : fd.code = .ref c') (cls : o.cls = .type "function") (d : o.data = .func fd) (fr : o.isFreed = false) (t : T fd) : Jg c ρ G O m s T (.ref h'.objs.size) { s with heap := h'.push o, toks := tk } := by
 refine mL λ gk => ?_
 obtain ⟨_, oc, vs, tq, e1, e2, e3, e4⟩ := rec
 cases e1
 refine gk ?_
 have hPf : P ∈ c.fr := c.fr_of hx (aq _ hP)
 have nP : ∀ {b o}, G b = some o -> b ≠ P := λ {b o} e q => by rw [q, R.gF _ hPf] at e; cases e
 have k2 : ∀ b o', b ≠ P -> s.heap.get? b = some o' -> (h'.push o).get? b = some o' := λ b o' hb e => aj _ (k b o' hb e)
 have nq : s.heap.get? h'.objs.size = none := pn _ _ (ac h1 (a5 h2))
 have nc : s.heap.get? c' = none := pn _ _ h1
 have hcq : c' ≠ h'.objs.size := aE h2
 have ec : (h'.push o).get? c' = some oc := aj _ e2
 have u1 : Up G s.heap (G.add c' oc) (h'.push o) := zH R.sub nc ec λ b o e => k2 b o (nP e) (R.sub b o e)
 have u : Up G s.heap ((G.add c' oc).add h'.objs.size o) (h'.push o) := by
  have gq : (G.add c' oc) h'.objs.size = none := (if_neg (Ne.symm hcq)).trans (m4 R.sub nq)
  refine ⟨u1.le.trans λ b ob h => ?_, λ b ob h => ?_, λ b ob h => ?_⟩
  ·show (if b = h'.objs.size then some o else (G.add c' oc) b) = some ob
   split
   ·rename_i q; subst q; rw [gq] at h; cases h
   ·exact h
  ·replace h : (if b = h'.objs.size then some o else (G.add c' oc) b) = some ob := h
   split at h
   ·rename_i q; subst q; cases h; exact aJ h' fr
   ·exact u1.sub b ob h
  ·exact (if_neg (by rintro rfl; rw [nq] at h; cases h)).trans (u1.old b ob h)
 have gc : ((G.add c' oc).add h'.objs.size o) c' = some oc := (if_neg hcq).trans Fz.add_self
 have cg : ux ((G.add c' oc).add h'.objs.size o) (.ref c') fd.qualname := ⟨c', oc, vs, tq, rfl, gc, e3, e4⟩
 have Q : Aw s G c.l { s with heap := h'.push o, toks := tk } ((G.add c' oc).add h'.objs.size o) := by
  refine ⟨⟨rfl, rfl, λ g => g⟩, λ b o' hb e => k2 b o' (λ q => hb (q ▸ aq _ hP)) e, λ b o' e hd => ⟨o'.slots, k2 b o' (λ q => ?_) e⟩, u, λ Q hQ => ?_⟩
  ·subst q; rw [hps] at e; cases e; exact hd _ rfl
  ·refine mL λ gk => ?_
   obtain ⟨qs, g1, g2, g3⟩ := R.tab hx Q hQ
   refine gk ?_
   by_cases q : Q = P
   ·subst q
    rw [hps] at g1; cases g1
    refine ⟨_, aj _ hP', ?_, λ p cv e => ?_⟩
    ·rw [jC]
     exact TriplesOk_snoc _ _ _ _ g2
    ·rw [jC] at e
     rcases CG _ g2 e with e | ⟨rfl, el⟩
     ·exact (g3 p cv e).mono u.le
     ·have : pO Q p = fd.qualname := by
       rw [hq]; unfold pO; rw [el]
      rw [this]; exact cg
   ·exact ⟨qs, k2 _ _ q g1, g2, λ p cv e => (g3 p cv e).mono u.le⟩
 exact ⟨_, _, o, fd, rfl, R.retR hx Q, Pz.retR hx Q, Fz.add_self, cls, d, by rw [hcd]; exact cg, t⟩
theorem Gf (hx : K.exn = true) (hP : K.tb = some P) (R : FR c ρ G O m s) : P ∈ tabs /\ c.env.globals = mainGlobals /\ ∃ mg cd ps, s.heap.Ns mainGlobals mg /\ c.env.code = .ref cd /\ CodeHd s.heap cd P /\ s.heap.get? P = some (tabObj ps) /\ TriplesOk ps.toList /\ s.heap.BuiltinsAt mg P /\ mainGlobals ≠ P /\ ∀ pos cv, codeAmong pos ps.toList = some cv -> ux G cv (pO P pos) := by
 have M := c.mkf P hP
 refine mL λ gk => ?_
 obtain ⟨mg, hg, bm, o, b1, b2, b3, b4, b5, b6⟩ := M.g
 obtain ⟨cd, hcode, hcd⟩ := M.code
 obtain ⟨ps, g1, g2, g3⟩ := R.tab hx P M.tab
 refine gk ?_
 refine ⟨M.tab, c.hgl.trans M.gl, mg, cd, ps, hg.keeps R.base, hcode, hcd.keeps R.base, g1, g2, ⟨bm, o, b1, b2, b3, b4, R.base _ _ b5, b6⟩, λ e => ?_, g3⟩
 refine mL λ gk => ?_
 obtain ⟨o, es, ep, ho, _⟩ := hg
 refine gk ?_
 rw [e, (c.ex hx).hfr P (aq _ M.tab)] at ho; cases ho
theorem MV {a : Arguments} {b : List Stmt} {sc : Scope} {clos : List (Str × Addr)} {qual : Str} (hx : K.exn = true) (hP : K.tb = some P) (R : FR c ρ G O m s) (hcl : closureFor sc c.env = pure clos) (hq : qual = pO P pos) :
  wpAny (Mo c.W) A (makeFunction x qual a (.stmts b) sc c.env [] [] [] pos pos.line) (Jg c ρ G O m s λ fd => ∃ doc pm cv ctv, fd = fnX x qual a b sc clos .none .none doc pm none cv ctv) E s := by
 refine mL λ gk => ?_
 obtain ⟨ht, hg, mg, cd, ps, h1, h2, h3, h4, h5, h6, h7, h8⟩ := Gf hx hP R
 refine gk ?_
 cases hf : codeAmong pos ps.toList with
 | some cv => exact makeFunction_hit hcl hg h1 h2 h3 h4 h5 hf h6 λ ctv doc h' tk k sz => A1 R k sz rfl rfl rfl (hq ▸ h8 pos cv hf) ⟨_, _, _, _, rfl⟩
 | none => exact makeFunction_K hcl hg h1 h2 h3 h4 h5 hf h7 h6 λ c' ctv doc h' tk k s1 s2 rc hP' => AB hx ht R h4 k s1 s2 rc hP' hq rfl rfl rfl rfl ⟨_, _, _, _, rfl⟩
theorem HV {Form : Wo -> List (Str × Addr) -> Nat -> FuncData -> Prop} {a : Arguments} {b : List Stmt} {sc : Scope} {i : Nat} (hx : K.exn = true) (hP : K.tb = some P) (hc : K.cl = Gc Form) (hl : nQ K.sc x = true) (ho : K.ow.contains x = false) (hn : rN pos.line = x) (hd0 : a.defaults = []) (hk0 : a.kw_defaults = []) (ha : ∀ env, annTrees a none env = [])
  (hF : ∀ c : Fc K, ∃ clos, closureFor sc c.env = pure clos /\ ∀ qual doc pm cv ctv, Form c.W c.env.cells i (fnX x qual a b sc clos .none .none doc pm none cv ctv)) : Ex K ρ (.FunctionDef x a b [] none [] sc none x pos) (ρ.set x (.clo i)) .next := λ c G O m s R E hE hX => by
 refine mL λ gk => ?_
 obtain ⟨clos, hcl, hf⟩ := hF c
 refine gk ?_
 have hqn : qualnameIn c.env x x = c.env.qual ++ x := by
  unfold qualnameIn
  rcases pQ.mp hl with h | h <;> rw [c.knd _ _ h] <;> rfl
 have hq : c.env.qual ++ x = pO P pos := by rw [<- (c.mkf P hP).qual pos, hn]
 refine nestDef_K hd0 hk0 (ha _) ?_
 rw [hqn]
 refine ay (MV hx hP R hcl hq) (λ v s' q_ => q_.casesOn λ G' q o fd e R' Pz' g cls d code t => ?_) λ _ _ e => e
 refine mL λ gk => ?_
 obtain ⟨doc, pm, cv, ctv, rfl⟩ := t
 refine gk ?_
 subst e
 have hv : oH c O G' s'.heap x (.clo i) (.ref q) := by
  unfold oH
  rw [ho]
  refine .inr ⟨i, rfl, ?_⟩
  show K.cl _ _ _ _ _
  rw [hc]
  exact ⟨q, o, _, rfl, g, cls, d, code, hf _ _ _ _ _⟩
 exact R'.store hl (wT.old hv) λ s'' m'' z hz k R'' => ⟨_, .next, ⟨rfl, rfl⟩, rfl, G', O, m'', R'', Pz'.trans (Pz.st R' hz k)⟩
end
section
variable {W : Wo} {G : Fz} {A : Around} {s : Shared}
theorem sM {l : List Env} {env : Env} {a : Addr} (h : env ∈ l) (hf : env.frame = some a) : a ∈ mS l := dw.mpr ⟨env, h, hf⟩
theorem EG {env : Env} {l : List Env} {L e : Addr} {h : Heap} {Q : Unit -> Shared -> Prop} {E : Value -> Shared -> Prop} (hfr : A.frames = some (env :: l)) (hf : env.frame = some L) (hk : env.scope.kind ≠ .module) (frs : HH h l) (hL : h.get? L = none) (hLs : ∃ o, s.heap.get? L = some o /\ ∀ vs, o.data ≠ .fields vs) (keeps : ∀ b o, h.get? b = some o -> s.heap.get? b = some o) (hen : h.get? e = none)
  (sub : G.sub h) (gn : ∀ b ∈ mS l, G b = none) (he : ∃ ob t, s.heap.get? e = some ob /\ ob.cls = .type "KeyError" /\ ob.data = .fields #[t, .none, .none, .none, .bool false, .none]) (hQ : ∀ h', rU G h l (.ref e) h' -> Q () { s with heap := h' }) : wpAny (Mo W) A (leaving env (.ref e)) Q E s := by
 refine mL λ gk => ?_
 obtain ⟨ob, t, hob, hcls, hdat⟩ := he
 have nB : ∀ b, h.get? b = none -> (hideAll h (mS l)).get? b = none := λ b hb => by
  cases q : (hideAll h (mS l)).get? b with
  | none => rfl
  | some o => have := ln _ q; rw [hb] at this; cases this
 have stB : (hideAll h (mS l)).StaysIn s.heap := λ b o q => keeps b o (ln _ q)
 obtain ⟨oL, hoL, hdL⟩ := hLs
 refine gk ?_
 have ff : s.heap.FunFrames (hideAll h (mS l)) (env :: l) := by
  refine ⟨hk, ⟨L, oL, hf, nB L hL, hoL, hdL⟩, ?_⟩
  have key : ∀ (l' : List Env), (∀ x ∈ l', x ∈ l) -> s.heap.FunFrames (hideAll s.heap (mS l)) l' -> s.heap.FunFrames (hideAll h (mS l)) l' := by
   intro l'
   induction l' with
   | nil => intro _ _; trivial
   | cons x xs ih =>
    intro hin hh
    refine mL λ gk => ?_
    obtain ⟨q1, ⟨L', o', q2, q3, q4, q5⟩, q6⟩ := hh
    refine gk ?_
    exact ⟨q1, ⟨L', o', q2, jZ _ (sM (hin x (.head _)) q2), q4, q5⟩, ih (λ y hy => hin y (.tail _ hy)) q6⟩
  exact key l (λ _ h => h) ((frs.up (cL keeps)).fun (mS l) λ e he a ha => sM he ha)
 refine ay (qH (xa _ _) (wpAny_leaving_firstW (E := λ _ _ => False) (a0 := t) (Q := λ _ s₃ => ∃ h', s₃ = { s with heap := h' } /\ Heap.LeftW (hideAll h (mS l)) (env :: l) e ob.cls t s.heap h') hfr ff hf hob stB (nB e hen) hdat rfl rfl λ h' q => ⟨h', rfl, q⟩) ⟨ob, _, hob, hdat, rfl⟩) (λ _ s₃ q => ?_) λ _ _ q => q.1.elim
 refine mL λ gk => ?_
 obtain ⟨⟨h', rfl, k1, k2, k3, k4⟩, k5⟩ := q
 refine gk ?_
 rw [hcls] at k3
 refine hQ h' ⟨hideAll h (mS l), G, e, t, rfl, ⟨λ b o hn _ hb => fU _ hb hn, Fz.le.rfl, λ b o q => fU _ (sub b o q) λ hb => by (rw [gn b hb] at q; cases q), λ _ _ _ => rfl, λ ht => ht.keep Fz.le.rfl λ P hP o ho => fU _ ho λ hb => ?_⟩, ⟨k1, nB e hen, k2.2.2, k3⟩, (cL keeps).trans k4, k5⟩
 refine mL λ gk => ?_
 obtain ⟨env', he, hf'⟩ := dw.mp hb
 obtain ⟨_, L', o', e1, e2, e3⟩ := frs env' he
 rw [hf'] at e1; cases e1
 obtain ⟨ps, g1, _⟩ := ht P hP
 refine gk ?_
 rw [g1] at e2; cases e2
 exact e3 _ rfl
structure ML (fd : FuncData) (cell : Addr) (d : Str) (mul : Option Int) : Prop where
 body : match mul with
  | none => ∃ p1 p2 p3 p4, fd.body = .stmts [.Return (some (.Subscript (.Name d p1) (.Name "name" p2) p3)) p4]
  | some m => ∃ p1 p2 p3 ck p4 p5 p6, fd.body = .stmts [.Return (some (.BinOp (.Subscript (.Name d p1) (.Name "name" p2) p3) .Mult (.Constant (.int m) ck p4) p5)) p6]
 clos : fd.closure = [(d, cell)]
 kind : fd.scope.kind = .function
 co : fd.scope.isCoroutine = false
 gen : fd.scope.isGenerator = false
 names : fd.scope.names = [(("name" : Str), .local), (d, .free)]
 bind : ∀ u : Value, bindArgs fd ⟨[u], []⟩ = pure [(("name" : Str), u)]
theorem G0 {env : Env} {cell da : Addr} {d : Str} {us : List (Bs × Value)} {b : Bs} {t : Tok} {p1 p2 p3 : Pos} {m : Str -> Option Value} {Q E : Value -> Shared -> Prop} (hk : env.scope.kind = .function) (hn : env.scope.names = [(("name" : Str), .local), (d, .free)]) (hc : env.cells = [(d, cell)]) (hdn : (d == ("name" : Str)) = false) (hdd : (d == ("__debug__" : Str)) = false) (hdc : (d == ("__classdict__" : Str)) = false)
  (hns : s.heap.Ns env.locals m) (mn : m "name" = some (.bytes b.toArray t)) (hcell : s.heap.IsCell cell (some (.ref da))) (hd : s.heap.DictOf (bK W) da us) (hds : (da == sysModules) = false) (hh : A.handled = none)
  (hQ : ∀ v, us.lookup b = some v -> Q v { s with toks := s.toks + 1 }) (hE : us.lookup b = none -> ∀ h' e, Heap.NewExc s.heap h' e "KeyError" -> E (.ref e) { s with heap := h', toks := s.toks + 1 }) :
  wpAny (Mo W) A (eval (.Subscript (.Name d p1) (.Name "name" p2) p3) env) Q E s := by
 have kd : env.kindOf d = some .free := by
  show env.scope.names.lookup d = _
  rw [hn, au, hdn, au, beq_self_eq_true]
 have kn : env.kindOf "name" = some .local := by
  show env.scope.names.lookup ("name" : Str) = _
  rw [hn, au, beq_self_eq_true]
 refine wpAny_Subscript_Name lF.lookup (b8 (kU hk kd (by rw [hc, au, beq_self_eq_true]) hcell ?_ hdc) hdd)
 refine b8 (ba hk kn hns mn ⟨hd.typeIs, ?_⟩) (by decide)
 have hkey : (bK W).is b (.bytes b.toArray t) = true := show isBytes b (.bytes b.toArray t) = true by simp [isBytes]
 cases hl : us.lookup b with
 | some v => exact lN (knd := bK W) (k := b) hkey hd.mapOf (by rw [oO]; exact hl) (hQ v hl)
 | none => exact wpAny_getItem_missing_of (knd := bK W) (k := b) hkey hds hh hd.mapOf (by rw [oO]; exact hl) λ h' e hx => hE hl h' e hx
noncomputable def Iy (P : Bs -> Value -> Prop) (b : Bs) (v : Value) : Option Int -> Prop
 | none => P b v
 | some m => m.natAbs < 2 ^ 64 /\ ∃ i t, v = .int i t /\ ∀ u, P b (.int (i * m) u)
theorem Iy.imp {P P' : Bs -> Value -> Prop} {b : Bs} {v : Value} (h : ∀ v, P b v -> P' b v) : ∀ {m : Option Int}, Iy P b v m -> Iy P' b v m
 | none, x => h _ x
 | some _, ⟨a, i, t, e, w⟩ => ⟨a, i, t, e, λ u => h _ (w u)⟩
theorem GC {fd : FuncData} {cell da f : Addr} {of : Obj} {d : Str} {mul : Option Int} {us : List (Bs × Value)} {b : Bs} {t : Tok} {l : List Env} {Q E : Value -> Shared -> Prop} (KF : ML fd cell d mul) (hdn : (d == ("name" : Str)) = false) (hdd : (d == ("__debug__" : Str)) = false) (hdc : (d == ("__classdict__" : Str)) = false) (hlim : W.h₀.NoLimit) (ok : Ok W.h₀ A s.heap 2) (hl : A.frames = some l) (hof : s.heap.get? f = some of) (hdat : of.data = .func fd) (hcd : s.heap.CodeRec fd.code fd.qualname)
  (hcell : s.heap.IsCell cell (some (.ref da))) (hd : s.heap.DictOf (bK W) da us) (hds : (da == sysModules) = false) (sub : G.sub s.heap) (gn : ∀ b ∈ mS l, G b = none)
  (hQ : ∀ v, us.lookup b = some v -> Iy (λ _ v => ∀ s', Keeps s s' -> Q v s') b v mul)
  (hE : us.lookup b = none -> ∀ e s', rU G s.heap l e s'.heap -> tC s s' -> E e s') : wpAny (Mo W) A (call (.ref f) [.bytes b.toArray t]) Q E s := by
 have hnm := KF.names
 have body : ∃ bd, fd.body = .stmts bd := by
  have := KF.body
  cases mul with
  | none => obtain ⟨_, _, _, _, h⟩ := this; exact ⟨_, h⟩
  | some m => obtain ⟨_, _, _, _, _, _, _, h⟩ := this; exact ⟨_, h⟩
 refine mL λ gk => ?_
 obtain ⟨bd, hbody⟩ := body
 refine gk ?_
 refine fG (gJ ok.room hof hdat KF.co KF.gen hbody hcd ?_)
 rw [KF.bind]
 refine ai (dR (λ x hx => by
  rw [hnm] at hx
  rcases ag.mp hx with rfl | hx
  ·exact nofun
  ·cases ae.mp hx; exact nofun) (λ x hx => ?_) (λ h' hns hsb => ?_) KF.kind)
 ·refine mL λ gk => ?_
  cases ae.mp hx
  refine gk ?_
  rw [hnm, au, beq_self_eq_true]
 have k1 : ∀ b o, s.heap.get? b = some o -> h'.get? b = some o := λ b o e => hsb.extBut b o (aE (aR e)) (aj _ e)
 refine ⟨hlim.keeps λ b o e => k1 b o (ok.base b o e), j0 ?_⟩
 generalize henv : newEnv fd.scope s.heap.objs.size fd.globals fd.closure (fd.qualname ++ ".<locals>.") (some f) fd.code none fd.builtins = env
 have hloc : env.locals = s.heap.objs.size := by subst henv; rfl
 have hframe : env.frame = some env.locals := by subst henv; rfl
 have hkind : env.scope.kind = .function := by subst henv; exact KF.kind
 have hsn : env.scope.names = [(("name" : Str), .local), (d, .free)] := by subst henv; exact KF.names
 have hsc : env.cells = [(d, cell)] := by subst henv; exact KF.clos
 have hns' : h'.Ns env.locals (λ y => ([(("name" : Str), c5 b.toArray t)] : List (Str × Value)).reverse.lookup y) := by rw [hloc]; exact hns
 refine mL λ gk => ?_
 obtain ⟨fl0, hfl0, hfrs⟩ := ok.frs
 rw [hl] at hfl0
 cases hfl0
 obtain ⟨oD, esD, epD, hoD, hDr⟩ := id hd
 obtain ⟨oC, hoC, hCr⟩ := id hcell
 obtain ⟨oL, esL, epL, hoL, hdL, _⟩ := id hns'
 refine gk ?_
 have get : ∀ {p1 p2 p3 : Pos} {Q' : Value -> Shared -> Prop} {tk : Nat}, (∀ v, us.lookup b = some v -> Q' v { s with heap := h', toks := tk + 1 }) -> wpAny (Mo W) (A.deeper env) (eval (.Subscript (.Name d p1) (.Name "name" p2) p3) env) Q' (λ e s' => wpAny (Mo W) (A.deeper env) (leaving env e) (λ _ s'' => E e s'') (λ e' s'' => E e' s'') s') { s with heap := h', toks := tk } := λ {p1 p2 p3 Q' tk} hq => by
  refine G0 (s := { s with heap := h', toks := tk }) hkind hsn hsc hdn hdd hdc hns' (show _ = some (c5 b.toArray t) from rfl) ⟨oC, k1 _ _ hoC, hCr⟩ ⟨oD, esD, epD, k1 _ _ hoD, hDr⟩ hds ok.hd hq λ hn h₂ e hx => ?_
  have k2 : ∀ b o, s.heap.get? b = some o -> h₂.get? b = some o := λ b o e => hx.keeps b o (k1 b o e)
  refine EG (h := s.heap) (f7 hl) hframe (by rw [hkind]; decide) hfrs (by rw [hloc]; exact qh _) ⟨oL, hx.keeps _ _ hoL, λ vs q => by rw [hdL] at q; cases q⟩ k2 ?_ sub gn hx.there λ h₃ hr => hE hn _ _ hr ⟨rfl, rfl, λ g => g⟩
  cases q : s.heap.get? e with
  | none => rfl
  | some o => have := k1 _ _ q; rw [hx.new] at this; cases this
 have hb := KF.body
 cases mul with
 | none =>
  refine mL λ gk => ?_
  obtain ⟨p1, p2, p3, p4, hb⟩ := hb
  rw [hbody] at hb
  cases hb
  refine gk ?_
  exact bx (cK (get λ v hv => hQ v hv _ ⟨h', _, rfl, k1⟩))
 | some m =>
  refine mL λ gk => ?_
  obtain ⟨p1, p2, p3, ck, p4, p5, p6, hb⟩ := hb
  rw [hbody] at hb
  cases hb
  refine gk ?_
  refine bx (cK (wpAny_BinOp (get λ v hv => ?_)))
  refine mL λ gk => ?_
  obtain ⟨hm, i, ti, rfl, hq⟩ := hQ v hv
  refine gk ?_
  refine wpAny_Constant_int ?_
  have v1 : ∀ h j tj, VW W (λ _ => none) h (.int j) (.int j tj) := λ h j tj => .inl ⟨tj, rfl⟩
  refine ay (CN (a := i) (b := m) (.inr hm) W (A.deeper env) (λ _ => none) _ _ _ (λ _ _ e => by cases e) (v1 _ i ti) (v1 _ m _)) (λ u s₂ q => ?_) λ _ _ e => e.elim
  refine mL λ gk => ?_
  obtain ⟨k₂, G₂, _, u', rfl⟩ := q
  obtain ⟨h2, tk2, rfl, kk2⟩ := k₂
  refine gk ?_
  exact hq u' _ ⟨h2, tk2, rfl, λ b o e => kk2 b o (k1 b o e)⟩
end
noncomputable def v9 : Nat -> Str
 | 0 => "folk"
 | 1 => "turned"
 | _ => "times"
noncomputable def KQ : Nat -> Option Int
 | 3 => some 1000
 | _ => none
noncomputable def D5 (_ : Wo) (cs : List (Str × Addr)) (i : Nat) (fd : FuncData) : Prop := ∃ cell, ML fd cell (v9 i) (KQ i) /\ cs.lookup (v9 i) = some cell
section
variable {K : Ky} {c : Fc K} {ρ : En} {G : Fz} {O : Addr -> Option Tg} {m : Str -> Option Value} {s : Shared} {i : Nat} {l : List (Bs × PV)} {W : Wo}
theorem EV : ∀ i, (v9 i == ("name" : Str)) = false /\ (v9 i == ("__debug__" : Str)) = false /\ (v9 i == ("__classdict__" : Str)) = false
 | 0 => ⟨by decide, by decide, by decide⟩
 | 1 => ⟨by decide, by decide, by decide⟩
 | _ + 2 => (⟨by decide, by decide, by decide⟩ : (("times" : Str) == ("name" : Str)) = false /\ (("times" : Str) == ("__debug__" : Str)) = false /\ (("times" : Str) == ("__classdict__" : Str)) = false)
theorem ym {bad : Bs -> Prop} {P : Fz -> Bs -> Value -> Prop} (hc : K.cl = Gc D5) (hs : K.sc.lookup (v9 i) = some .cell) (ho : K.ow.contains (v9 i) = true) (hr : ρ.get (v9 i) = some (.dict l)) (h1 : ∀ W G b p v, l.lookup b = some p -> VR W G p v -> Iy (P G) b v (KQ i)) (h2 : ∀ b, l.lookup b = none -> bad b)
  (R : FR c ρ G O m s) {u : Value} (hu : c.Cl G i u) : yV c.W (zV c G O s) u bad (P (zV c G O s)) := by
 have hu : K.cl c.env.cells c.W G i u := hu
 rw [hc] at hu
 refine mL λ gk => ?_
 obtain ⟨f, of, fd, rfl, gf, hcf, hdf, ⟨cd, oc, vs, t, e1, e2, e3, e4⟩, cell, KF, hcell⟩ := hu
 obtain ⟨_, va, da, us, rfl, oa, hdo, hk, hrv, _, ne⟩ := R.var (pQ.mpr (.inr hs)) ho hr
 obtain ⟨cell', o', h3, h4, h5⟩ := R.cel _ hs
 rw [hcell] at h3; cases h3
 have hcv : s.heap.IsCell cell (some (.ref da)) := by
  rcases va with ⟨e, _⟩ | ⟨_, a, ha, hv⟩
  ·rw [hs] at e; cases e
  ·rw [hcell] at ha; cases ha; exact hv
 have tc : MZ c O s cell := ⟨⟨_, h4, nofun⟩, by
  obtain ⟨o, ho, hd⟩ := hcv
  exact ⟨o, ho, λ vs n q => (by rw [q] at hd; cases hd), λ vs q => (by rw [q] at hd; cases hd)⟩⟩
 have td : MZ c O s da := ⟨⟨_, oa, nofun⟩, by
  obtain ⟨o, es, ep, ho, _, hd, _⟩ := hdo
  exact ⟨o, ho, λ vs n q => (by rw [q] at hd; cases hd), λ vs q => (by rw [q] at hd; cases hd)⟩⟩
 obtain ⟨dn, dd, dc⟩ := EV i
 refine gk ?_
 refine ⟨⟨f, of, fd, rfl, rj R.sub _ _ gf, hdf⟩, λ A lf s₁ b tb Q E G₁ ok hlf le sub gn hQ hE => ?_⟩
 have get : ∀ {b o}, zV c G O s b = some o -> s₁.heap.get? b = some o := λ e => sub _ _ (le _ _ e)
 have look := λ b => tw hk hrv b
 refine GC KF dn dd dc c.hw.lim (ok.mono (by decide)) hlf (get (rj R.sub _ _ gf)) hdf ⟨cd, oc, vs, t, e1, get (rj R.sub _ _ e2), e3, e4⟩ (by
  refine mL λ gk => ?_
  obtain ⟨o, ho, r⟩ := hcv
  refine gk ?_
  exact ⟨o, get (by rw [y3 tc]; exact ho), r⟩) (us := us) (by
  refine mL λ gk => ?_
  obtain ⟨o, es, ep, ho, r⟩ := hdo
  refine gk ?_
  exact ⟨o, es, ep, get (by rw [y3 td]; exact ho), r⟩) ne sub gn (λ v hv => ?_) λ hn => hE (h2 b ?_)
 ·have := look b
  cases hl : l.lookup b with
  | none => rw [hl] at this; rw [this] at hv; cases hv
  | some p =>
   rw [hl] at this
   refine mL λ gk => ?_
   obtain ⟨v', q1, q2⟩ := this
   refine gk ?_
   rw [hv] at q1; cases q1
   have := h1 c.W (zV c G O s) b p v hl (VR.mono (rj R.sub) _ _ q2)
   exact this.imp λ v h s' k => hQ v s' h k
 ·have := look b
  cases hl : l.lookup b with
  | none => rfl
  | some p =>
   rw [hl] at this
   refine mL λ gk => ?_
   obtain ⟨v', q1, _⟩ := this
   refine gk ?_
   rw [hn] at q1; cases q1
theorem GO : ∀ {bs : List Bs} {vs : List Value}, nG W G (bs.map .bytes) vs -> yH bs vs
 | [], _, h => h
 | b :: bs, _, ⟨v, vs', e, ⟨t, h⟩, r⟩ => ⟨t, vs', by rw [e, h], GO r⟩
theorem Gn {F : Bs -> Option (List Bs)} (hc : K.cl = Gc D5) (hs : K.sc.lookup (v9 i) = some .cell) (ho : K.ow.contains (v9 i) = true) (hm : KQ i = none) (hr : ρ.get (v9 i) = some (.dict l)) (h1 : ∀ b p, l.lookup b = some p -> ∃ bs : List Bs, p = .list (bs.map .bytes) /\ F b = some bs) (h2 : ∀ b, l.lookup b = none -> F b = none) : sA K ρ i (.par F) := λ c G O m s R u hu =>
 ym (P := λ G b u => ∃ bs, F b = some bs /\ O8 G bs u) hc hs ho hr (λ W G b p v hl hv => by
  rw [hm]
  refine mL λ gk => ?_
  obtain ⟨bs, rfl, hF⟩ := h1 b p hl
  obtain ⟨a, vs, n, e, g, r, cc⟩ := hv
  refine gk ?_
  have t := GO r
  exact ⟨bs, hF, a, vs, n, e, g, t, by rw [<- t.len]; exact cc⟩) h2 R hu
theorem HA {F : Bs -> Option Int} {k : Int} (hc : K.cl = Gc D5) (hs : K.sc.lookup (v9 i) = some .cell) (ho : K.ow.contains (v9 i) = true) (hm : KQ i = none /\ k = 1 \/ KQ i = some k /\ k.natAbs < 2 ^ 64) (hr : ρ.get (v9 i) = some (.dict l)) (h1 : ∀ b p, l.lookup b = some p -> ∃ j : Int, p = .int j /\ F b = some (j * k)) (h2 : ∀ b, l.lookup b = none -> F b = none) : sA K ρ i (.stp F) := λ c G O m s R u hu =>
 ym (P := λ G b u => ∃ j t, F b = some j /\ u = .int j t) hc hs ho hr (λ W G b p v hl hv => by
  refine mL λ gk => ?_
  obtain ⟨j, rfl, hF⟩ := h1 b p hl
  obtain ⟨t, hv⟩ := hv
  refine gk ?_
  rcases hm with ⟨e, rfl⟩ | ⟨e, hk⟩ <;> rw [e]
  ·rw [Int.mul_one] at hF
   exact ⟨j, t, hF, hv⟩
  ·exact ⟨hk, j, t, hv, λ u => ⟨_, u, hF, rfl⟩⟩) h2 R hu
end
theorem w0 : entryFor table "_heapq.heapify.sift" = some Builtin.«_heapq.heapify.sift» := eQ (by kernel_rfl)
theorem pp : plainId "_heapq.heapify.sift" = true := by decide +kernel
theorem uE {vs : List Value} {n : Nat} (f : Array Value -> Array Value) : ∃ n', bO f (lObj vs n) = { cls := .type "list", data := .seq (f vs.toArray) n' } := ⟨_, rfl⟩
section
variable {W : Wo} {G : Fz} {A : Around} {s : Shared}
theorem LO {a b : It} {va vb : Value} {Q : Value -> Shared -> Prop} {E : Value -> Shared -> Prop} (hu : A.units + 16 < cLine) (sub : G.sub s.heap) (ha : VR W G (rn a) va) (hb : VR W G (rn b) vb) (hQ : Q (.bool (pF a b)) s) :
  wpAny (Mo W) A (richCompare .Lt va vb) Q E s := by
 refine mL λ gk => ?_
 obtain ⟨x, xs, nx, rfl, gx, ⟨v1, r1, rfl, ⟨t1, rfl⟩, v2, r2, rfl, ⟨t2, rfl⟩, hr⟩, _⟩ := ha
 obtain ⟨y, ys, ny, rfl, gy, ⟨v3, r3, rfl, ⟨t3, rfl⟩, v4, r4, rfl, ⟨t4, rfl⟩, hr'⟩, _⟩ := hb
 cases (show _ = _ from hr)
 cases (show _ = _ from hr')
 refine gk ?_
 have hx := sub _ _ gx
 have hy := sub _ _ gy
 exact jX (op := .Lt) ⟨_, hx, rfl⟩ ⟨_, hy, rfl⟩ F.slot_tuple_lt F.entry_tuple_lt (F.args_tuple_lt_2 _ _) (yz x y _ _ _ _ _ _ _ _ nx ny)
   ⟨hx, hy, show jH _ ≠ jn /\ _ from ⟨nofun, hQ⟩⟩ (by omega)
structure HL (W : Wo) (G : Fz) (h : Heap) (L : Addr) (ts : List It) : Prop where
 obj : ∃ vs n, h.get? L = some (lObj vs n) /\ nG W G (ts.map rn) vs
 own : G L = none
theorem sd {ts : List It} {vs : List Value} (hv : nG W G (ts.map rn) vs) {i : Nat} (hi : i < ts.length) : ∃ v, vs.toArray[i]? = some v /\ VR W G (rn (tA ts i)) v := by
 refine mL λ gk => ?_
 obtain ⟨v, h1, h2⟩ := hv.get (i := i) (p := rn (tA ts i)) (by rw [cj, CT hi]; rfl)
 refine gk ?_
 exact ⟨v, by simpa using h1, h2⟩
theorem wX {L : Addr} {ts : List It} {vs : List Value} {n : Nat} {i j : Nat} {vi vj : Value} (ho : s.heap.get? L = some (lObj vs n)) (hown : G L = none) (hv : nG W G (ts.map rn) vs) (hvi : VR W G (rn (tA ts i)) vi) (hvj : VR W G (rn (tA ts j)) vj) :
  KB [L] s { s with heap := s.heap.update L (bO λ xs => (xs.setIfInBounds i vj).setIfInBounds j vi) } /\ HL W G (s.heap.update L (bO λ xs => (xs.setIfInBounds i vj).setIfInBounds j vi)) L (rC ts i j) := by
 refine ⟨⟨_, s.toks, rfl, λ b o hb e => ?_⟩, ⟨(vs.set i vj).set j vi, ?_⟩, hown⟩
 ·rw [bV _ _ (λ q : L = b => hb (by rw [q]; exact .head _))]; exact e
 ·refine mL λ gk => ?_
  obtain ⟨n', hn'⟩ := uE (vs := vs) (n := n) λ xs => (xs.setIfInBounds i vj).setIfInBounds j vi
  refine gk ?_
  refine ⟨n', ?_, ?_⟩
  ·rw [bP _ ho (by rw [hn']; rfl), hn']
   simp
  ·have e : (rC ts i j).map rn = ((ts.map rn).set i (rn (tA ts j))).set j (rn (tA ts i)) := by
    unfold rC; rw [gX, gX]
   rw [e]
   exact (hv.set hvj i).set hvi j
noncomputable def KV (L : Addr) (down : Bool) (pos : Nat) (res : Value) : Code := .builtin "_heapq.heapify.sift" ⟨[.ref L, .bool false, .bool down, rawInt pos, rawInt (0 : Nat), res, rawInt (-1)], []⟩
theorem O7 (hu : A.units + 32 < cLine) : A.units + 1 + 16 < cLine := ar (a6 (by decide : 1 + 16 <= 32) A.units) hu
theorem CL {pos n : Nat} (h : pos < n / 2) : 2 * pos + 1 < n := aP (de (2 * pos + 1)) (ac (cW 2 h) (Nat.mul_div_le n 2))
theorem O2 (pos : Nat) : (2 * pos + 1 - 1) / 2 = pos := Nat.mul_div_cancel_left pos (by decide)
theorem Pa (pos : Nat) : (2 * pos + 1 + 1 - 1) / 2 = pos := (Nat.mul_add_div (by decide) pos 1).trans rfl
theorem BY {i pos : Nat} (h1 : 0 < i) (h2 : (i - 1) / 2 = pos) : i = 2 * pos + 1 \/ i = 2 * pos + 1 + 1 := by
 obtain ⟨k, rfl⟩ := eK (cO h1)
 have h2 : k / 2 = pos := h2
 subst h2
 have := iy k 2
 rcases iL k with e | e <;> rw [e] at this
 ·exact .inl (congrArg (· + 1) this.symm)
 ·exact .inr (congrArg (· + 1) this.symm)
theorem Ga {n pos ch m : Nat} (hm : n - pos = m) (h : 0 < ch /\ ch < n /\ (ch - 1) / 2 = pos) : n - ch < m := by
 have := h.2.2 ▸ pe h.1
 exact hm ▸ Nat.sub_lt_sub_left (aH this h.2.1) this
theorem Jm {n pos : Nat} (h : ¬ pos < n / 2) : n <= 2 * pos + 1 := ac (aT (iy n 2).symm) (bG (cW 2 (bJ h)) (br (fY n (by decide))))
theorem DB (hu : A.units + 32 < cLine) {L : Addr} {res : Value} {R : Result -> Shared -> Prop} : ∀ (pos : Nat) (s : Shared) (ts : List It), HL W G s.heap L ts -> LI ts pos -> pos < ts.length -> G.sub s.heap -> ts.length <= cap ->
  (∀ (s' : Shared) ts', KB [L] s s' -> HL W G s'.heap L ts' -> tX ts' -> ts'.Perm ts -> R (.ok (.ret res)) s') ->
  codeAny (Mo W) A (KV L false pos res) R s := by
 intro pos
 induction pos using iv with
 | ind pos ih =>
  intro s ts hl hU hp sub hc hR
  refine mL λ gk => ?_
  obtain ⟨⟨vs, n, ho, hv⟩, hown⟩ := hl
  refine gk ?_
  have hlen : vs.length = ts.length := by rw [hv.length, am]
  refine dJ w0 ?_
  rw [dI pp _]
  show wpAny _ A.in1 ((seqItems? (.ref L) >>= _) >>= _) _ _ s
  refine aa (aa (cJ ho rfl (ai ?_)))
  show wpAny _ A.in1 (if pos > 0 then _ else _) _ _ s
  by_cases h0 : pos > 0
  ·rw [if_pos h0]
   refine mL λ gk => ?_
   obtain ⟨x, hx, hvx⟩ := sd hv hp
   obtain ⟨y, hy, hvy⟩ := sd hv (i := (pos - 1) / 2) (aH (pe h0) hp)
   refine gk ?_
   refine aa ?_
   show wpAny _ A.in1 (match vs.toArray[pos]? with | some v => pure v | none => _) _ _ s
   rw [hx]
   refine ai (aa ?_)
   show wpAny _ A.in1 (match vs.toArray[(pos - 1) / 2]? with | some v => pure v | none => _) _ _ s
   rw [hy]
   refine ai (aa ?_)
   show wpAny _ A.in1 (holding [x, y] (richCompare .Lt x y >>= λ r => truthOfDropped r) >>= _) _ _ s
   refine aa (aO (aa (LO (O7 hu) sub hvx hvy ?_)))
   show wpAny _ A.in1 (pure (pF (tA ts pos) (tA ts ((pos - 1) / 2)))) _ _ s
   refine ai ?_
   show wpAny _ A.in1 ((seqItems? (.ref L) >>= _) >>= _) _ _ s
   refine aa (aa (cJ ho rfl (ai ?_)))
   show wpAny _ A.in1 (if (vs.toArray.size != vs.toArray.size) = true then _ else _) _ _ s
   rw [if_neg (by simp)]
   refine ai ?_
   cases hlt : pF (tA ts pos) (tA ts ((pos - 1) / 2)) with
   | true =>
    simp only [if_true]
    refine aa ?_
    show wpAny _ A.in1 ((seqItems? (.ref L) >>= _) >>= _) _ _ s
    refine aa (aa (cJ ho rfl (ai (aa ?_))))
    show wpAny _ A.in1 (match vs.toArray[(pos - 1) / 2]? with | some v => pure v | none => _) _ _ s
    rw [hy]
    refine ai (aa ?_)
    show wpAny _ A.in1 (match vs.toArray[pos]? with | some v => pure v | none => _) _ _ s
    rw [hx]
    refine ai ?_
    show wpAny _ A.in1 (updateSeq L λ xs => (xs.setIfInBounds ((pos - 1) / 2) x).setIfInBounds pos y) _ _ s
    have hz : vs.toArray.size <= sizeLine := by rw [aG, hlen]; exact ac hc tE
    refine fb ho rfl ?_ hz (by simp only [fB]; omega)
    refine mL λ gk => ?_
    obtain ⟨kb, hl'⟩ := wX (i := (pos - 1) / 2) (j := pos) (s := s) ho hown hv hvy hvx
    refine gk ?_
    have nn : ∀ b ∈ [L], G b = none := λ b hb => by simp only [ag, a9, or_false] at hb; rw [hb]; exact hown
    have sub' : G.sub (s.heap.update L (bO λ xs => (xs.setIfInBounds ((pos - 1) / 2) x).setIfInBounds pos y)) := λ b o e => kb.get (λ h => by rw [nn b h] at e; cases e) (sub b o e)
    refine ai ⟨eT pp _, ?_⟩
    refine ih ((pos - 1) / 2) (pe h0) _ (rC ts ((pos - 1) / 2) pos) hl' (hU.step h0 hp hlt) (by rw [o0]; exact aH (pe h0) hp) sub' (by rw [o0]; exact hc) λ s' ts' kb' h1 h2 h3 => ?_
    exact hR s' ts' (kb.trans kb' λ b o h h' _ => h' h) h1 h2 (h3.trans (xt (aH (pe h0) hp) hp))
   | false =>
    simp only [bB, if_false]
    rw [if_pos (by decide)]
    exact ai (hR s ts KB.rfl ⟨⟨vs, n, ho, hv⟩, hown⟩ (hU.done (.inr hlt)) (.refl _))
  ·rw [if_neg h0]
   rw [if_pos (by decide)]
   refine ai ?_
   exact hR s ts KB.rfl ⟨⟨vs, n, ho, hv⟩, hown⟩ (hU.done (.inl (Nat.eq_zero_of_not_pos h0))) (.refl _)
theorem FZ (hu : A.units + 32 < cLine) {L : Addr} {res : Value} {R : Result -> Shared -> Prop} : ∀ (m pos : Nat) (s : Shared) (ts : List It), ts.length - pos = m -> HL W G s.heap L ts -> M5 ts pos -> pos < ts.length -> G.sub s.heap -> ts.length <= cap ->
  (∀ (s' : Shared) ts', KB [L] s s' -> HL W G s'.heap L ts' -> tX ts' -> ts'.Perm ts -> R (.ok (.ret res)) s') ->
  codeAny (Mo W) A (KV L true pos res) R s := by
 intro m
 induction m using iv with
 | ind m ih =>
  intro pos s ts hm hl hD hp sub hc hR
  refine mL λ gk => ?_
  obtain ⟨⟨vs, n, ho, hv⟩, hown⟩ := id hl
  refine gk ?_
  have hlen : vs.length = ts.length := by rw [hv.length, am]
  have hz : vs.toArray.size <= sizeLine := by rw [aG, hlen]; exact ac hc tE
  have nn : ∀ b ∈ [L], G b = none := λ b hb => by simp only [ag, a9, or_false] at hb; rw [hb]; exact hown
  refine dJ w0 ?_
  rw [dI pp _]
  show wpAny _ A.in1 ((seqItems? (.ref L) >>= _) >>= _) _ _ s
  refine aa (aa (cJ ho rfl (ai ?_)))
  show wpAny _ A.in1 (if pos < vs.toArray.size / 2 then _ else _) _ _ s
  rw [aG, hlen]
  by_cases hlf : pos < ts.length / 2
  ·rw [if_pos hlf]
   have go : ∀ (ch : Nat), (0 < ch /\ ch < ts.length /\ (ch - 1) / 2 = pos) -> (∀ i, 0 < i -> i < ts.length -> (i - 1) / 2 = pos -> pF (tA ts i) (tA ts ch) = false) -> ∀ (x y : Value), vs.toArray[ch]? = some x -> vs.toArray[pos]? = some y -> VR W G (rn (tA ts ch)) x -> VR W G (rn (tA ts pos)) y ->
     wpAny (Mo W) A.in1 (updateSeq L λ xs => (xs.setIfInBounds ch y).setIfInBounds pos x) (λ _ s' => wpAny (Mo W) A.in1 (pure (mG (KV L true ch res)) : Sem Fin) (λ fin s' => match fin with | .done f => R (.ok f) s' | .again c' => c'.quiet = true /\ codeAny (Mo W) A c' R s') (λ e s' => R (.error e) s') s') (λ e s' => R (.error e) s') s := by
    intro ch hch hmin x y hx hy hvx hvy
    refine fb ho rfl ?_ hz (by simp only [fB]; omega)
    refine mL λ gk => ?_
    obtain ⟨kb, hl'⟩ := wX (i := ch) (j := pos) (s := s) ho hown hv hvx hvy
    refine gk ?_
    have sub' : G.sub (s.heap.update L (bO λ xs => (xs.setIfInBounds ch y).setIfInBounds pos x)) := λ b o e => kb.get (λ h => by rw [nn b h] at e; cases e) (sub b o e)
    refine ai ⟨eT pp _, ?_⟩
    refine ih (ts.length - ch) (Ga hm hch) ch _ (rC ts ch pos) (by rw [o0]) hl' (hD.step hch hmin) (by rw [o0]; exact hch.2.1) sub' (by rw [o0]; exact hc) λ s' ts' kb' h1 h2 h3 => ?_
    exact hR s' ts' (kb.trans kb' λ b o h h' _ => h' h) h1 h2 (h3.trans (xt hch.2.1 hp))
   refine mL λ gk => ?_
   obtain ⟨y, hy, hvy⟩ := sd hv hp
   obtain ⟨xl, hxl, hvl⟩ := sd hv (i := 2 * pos + 1) (CL hlf)
   refine gk ?_
   simp only [dp]
   have self : ∀ x : It, pF x x = false := λ x => by
    cases q : pF x x with
    | false => rfl
    | true => have := o6 q; rw [q] at this; exact this
   by_cases hr : 2 * pos + 1 + 1 < ts.length
   ·rw [if_pos hr]
    refine mL λ gk => ?_
    obtain ⟨xr, hxr, hvr⟩ := sd hv hr
    refine gk ?_
    refine aa ?_
    show wpAny _ A.in1 (match vs.toArray[2 * pos + 1]? with | some v => pure v | none => _) _ _ s
    rw [hxl]
    refine ai (aa ?_)
    show wpAny _ A.in1 (match vs.toArray[2 * pos + 1 + 1]? with | some v => pure v | none => _) _ _ s
    rw [hxr]
    refine ai ?_
    simp only [bB, if_false]
    refine aa ?_
    show wpAny _ A.in1 (holding [xl, xr] (richCompare .Lt xl xr >>= λ r => truthOfDropped r) >>= _) _ _ s
    refine aa (aO (aa (LO (O7 hu) sub hvl hvr ?_)))
    show wpAny _ A.in1 (pure (pF (tA ts (2 * pos + 1)) (tA ts (2 * pos + 1 + 1)))) _ _ s
    refine ai ?_
    show wpAny _ A.in1 ((seqItems? (.ref L) >>= _) >>= _) _ _ s
    refine aa (aa (cJ ho rfl (ai ?_)))
    show wpAny _ A.in1 (if (vs.toArray.size != ts.length) = true then _ else _) _ _ s
    rw [if_neg (by simp [hlen])]
    refine ai ?_
    cases hlt : pF (tA ts (2 * pos + 1)) (tA ts (2 * pos + 1 + 1)) with
    | true =>
     simp only [gK, bB, if_false]
     refine aa ?_
     show wpAny _ A.in1 ((seqItems? (.ref L) >>= _) >>= _) _ _ s
     refine aa (aa (cJ ho rfl (ai (aa ?_))))
     show wpAny _ A.in1 (match vs.toArray[2 * pos + 1]? with | some v => pure v | none => _) _ _ s
     rw [hxl]
     refine ai (aa ?_)
     show wpAny _ A.in1 (match vs.toArray[pos]? with | some v => pure v | none => _) _ _ s
     rw [hy]
     refine ai ?_
     exact go (2 * pos + 1) ⟨b9 _, CL hlf, O2 pos⟩ (λ i h1 h2 h3 => by
           rcases BY h1 h3 with rfl | rfl
           ·exact self _
           ·exact o6 hlt) xl y hxl hy hvl hvy
    | false =>
     simp only [Bool.not_false, if_true]
     refine aa ?_
     show wpAny _ A.in1 ((seqItems? (.ref L) >>= _) >>= _) _ _ s
     refine aa (aa (cJ ho rfl (ai (aa ?_))))
     show wpAny _ A.in1 (match vs.toArray[2 * pos + 1 + 1]? with | some v => pure v | none => _) _ _ s
     rw [hxr]
     refine ai (aa ?_)
     show wpAny _ A.in1 (match vs.toArray[pos]? with | some v => pure v | none => _) _ _ s
     rw [hy]
     refine ai ?_
     exact go (2 * pos + 1 + 1) ⟨b9 _, hr, Pa pos⟩ (λ i h1 h2 h3 => by
           rcases BY h1 h3 with rfl | rfl
           ·exact hlt
           ·exact self _) xr y hxr hy hvr hvy
   ·rw [if_neg hr]
    refine aa ?_
    show wpAny _ A.in1 ((seqItems? (.ref L) >>= _) >>= _) _ _ s
    refine aa (aa (cJ ho rfl (ai (aa ?_))))
    show wpAny _ A.in1 (match vs.toArray[2 * pos + 1]? with | some v => pure v | none => _) _ _ s
    rw [hxl]
    refine ai (aa ?_)
    show wpAny _ A.in1 (match vs.toArray[pos]? with | some v => pure v | none => _) _ _ s
    rw [hy]
    refine ai ?_
    exact go (2 * pos + 1) ⟨b9 _, CL hlf, O2 pos⟩ (λ i h1 h2 h3 => by
          rcases BY h1 h3 with rfl | rfl
          ·exact self _
          ·exact absurd h2 hr) xl y hxl hy hvl hvy
  ·rw [if_neg hlf]
   refine ai ⟨eT pp _, ?_⟩
   exact DB hu pos s ts hl (hD.leaf (Jm hlf)) hp sub hc hR
end
theorem CH : entryFor table "_heapq.heappush" = some Builtin.«_heapq.heappush» := eQ (by kernel_rfl)
theorem C5 : plainId "_heapq.heappush" = true := by decide +kernel
theorem FU : builtinKind "_heapq.heappush" = none := by decide +kernel
theorem FV (a b : Value) : argsOk "_heapq.heappush" ⟨[a, b], []⟩ := by unfold argsOk; kernel_rfl
theorem FS : entryFor table "_heapq.heappop" = some Builtin.«_heapq.heappop» := eQ (by kernel_rfl)
theorem FG : plainId "_heapq.heappop" = true := by decide +kernel
theorem GN : builtinKind "_heapq.heappop" = none := by decide +kernel
theorem G6 (a : Value) : argsOk "_heapq.heappop" ⟨[a], []⟩ := by unfold argsOk; kernel_rfl
theorem yU : isSubtype (.type "list") (.type "list") = pure true := by rw [fJ]; kernel_rfl
section
variable {W : Wo} {G : Fz} {A : Around} {s : Shared}
theorem HL.sub {L : Addr} {ts ts' : List It} {s' : Shared} (hl : HL W G s.heap L ts) (kb : KB [L] s s') (sub : G.sub s.heap) : G.sub s'.heap :=
 λ b o e => kb.get (λ h => by simp only [ag, a9, or_false] at h; rw [h, hl.own] at e; cases e) (sub b o e)
theorem BT {L : Addr} {ts : List It} {x : It} {vx : Value} {Q : Value -> Shared -> Prop} {E : Value -> Shared -> Prop} (hu : A.units + 40 < cLine) (hl : HL W G s.heap L ts) (hh : tX ts) (sub : G.sub s.heap) (hx : VR W G (rn x) vx) (hc : ts.length < cap)
  (hQ : ∀ (s' : Shared) ts', KB [L] s s' -> HL W G s'.heap L ts' -> tX ts' -> ts'.Perm (x :: ts) -> Q .none s') : wpAny (Mo W) A (call (.builtin "_heapq.heappush") [.ref L, vx]) Q E s := by
 refine mL λ gk => ?_
 obtain ⟨⟨vs, n, ho, hv⟩, hown⟩ := id hl
 refine gk ?_
 have hlen : vs.length = ts.length := by rw [hv.length, am]
 refine lq FU C5 CH (FV _ _) ?_
 show wpAny _ A.in1 ((_ >>= _) >>= _) _ _ s
 refine aa (aa (m := noKeywords _ _) (ai (aa (m := PySem.checkCount _ _ _ _) (ai ?_))))
 show wpAny _ A.in1 ((isInstance (.ref L) (.type "list") >>= _) >>= _) _ _ s
 refine aa (aa (eP (T := "list") (b := true) ⟨_, ho, rfl⟩ yU ?_))
 refine ai (ai ?_)
 show wpAny _ A.in1 (updateSeq L (·.push vx) >>= _) _ _ s
 have hz : vs.toArray.size <= sizeLine := by rw [aG, hlen]; exact ac (a5 hc) tE
 refine aa (fb ho rfl ?_ hz (by rw [kH]; omega))
 refine mL λ gk => ?_
 obtain ⟨n', hn'⟩ := uE (vs := vs) (n := n) λ xs => xs.push vx
 refine gk ?_
 have ho' : (s.heap.update L (bO λ xs => xs.push vx)).get? L = some (lObj (vs ++ [vx]) n') := by
  rw [bP _ ho (by rw [hn']; rfl), hn']; simp
 have kb : KB [L] s { s with heap := s.heap.update L (bO λ xs => xs.push vx) } := ⟨_, s.toks, rfl, λ b o hb e => by
  rw [bV _ _ (λ q : L = b => hb (by rw [q]; exact .head _))]; exact e⟩
 have hv' : nG W G ((ts ++ [x]).map rn) (vs ++ [vx]) := by
  rw [bw]; exact hv.snoc hx
 have hl' : HL W G (s.heap.update L (bO λ xs => xs.push vx)) L (ts ++ [x]) := ⟨⟨vs ++ [vx], n', ho', hv'⟩, hown⟩
 show wpAny _ A.in1 ((seqItems? (.ref L) >>= _) >>= _) _ _ _
 refine aa (aa (cJ ho' rfl (ai ?_)))
 show wpAny _ A.in1 (pure (mG (KV L false ((vs ++ [vx]).toArray.size - 1) .none))) _ _ _
 have e : (vs ++ [vx]).toArray.size - 1 = ts.length := by simp [hlen]
 rw [e]
 refine ai ⟨eT pp _, ?_⟩
 refine DB (by omega) ts.length _ (ts ++ [x]) hl' (hh.push x) (by simp) (hl.sub (ts' := ts) kb sub) (by simp; lia) λ s' ts' kb' h1 h2 h3 => ?_
 exact hQ s' ts' (kb.trans kb' λ b o h h' _ => h' h) h1 h2 (h3.trans (jt.trans (.refl _)))
theorem Cj {L : Addr} {ts : List It} {Q : Value -> Shared -> Prop} {E : Value -> Shared -> Prop} (hu : A.units + 40 < cLine) (hl : HL W G s.heap L ts) (hh : tX ts) (sub : G.sub s.heap) (hc : ts.length <= cap) (hne : 0 < ts.length)
  (hQ : ∀ (s' : Shared) ts' v, KB [L] s s' -> HL W G s'.heap L ts' -> tX ts' -> (tA ts 0 :: ts').Perm ts -> VR W G (rn (tA ts 0)) v -> Q v s') : wpAny (Mo W) A (call (.builtin "_heapq.heappop") [.ref L]) Q E s := by
 refine mL λ gk => ?_
 obtain ⟨⟨vs, n, ho, hv⟩, hown⟩ := id hl
 refine gk ?_
 have hlen : vs.length = ts.length := by rw [hv.length, am]
 refine lq GN FG FS (G6 _) ?_
 show wpAny _ A.in1 ((_ >>= _) >>= _) _ _ s
 refine aa (aa (m := oneArg _ _) (ai ?_))
 show wpAny _ A.in1 ((isInstance (.ref L) (.type "list") >>= _) >>= _) _ _ s
 refine aa (aa (eP (T := "list") (b := true) ⟨_, ho, rfl⟩ yU ?_))
 refine ai (ai ?_)
 show wpAny _ A.in1 ((seqItems? (.ref L) >>= _) >>= _) _ _ _
 refine aa (aa (cJ ho rfl (ai ?_)))
 obtain ⟨vlast, hvl, hvr⟩ := sd hv (i := ts.length - 1) (by omega)
 have hback : vs.toArray.back? = some vlast := by
  rw [Array.back?_eq_getElem?, aG, hlen]; exact hvl
 rw [hback]
 have hz : vs.toArray.size <= sizeLine := by rw [aG, hlen]; exact ac hc tE
 show wpAny _ A.in1 (updateSeq L (·.pop) >>= _) _ _ s
 refine aa (fb ho rfl ?_ hz (by rw [Array.size_pop]; omega))
 obtain ⟨n', hn'⟩ := uE (vs := vs) (n := n) λ xs => xs.pop
 have ho' : (s.heap.update L (bO λ xs => xs.pop)).get? L = some (lObj vs.dropLast n') := by
  rw [bP _ ho (by rw [hn']; rfl), hn']; simp
 have kb : KB [L] s { s with heap := s.heap.update L (bO λ xs => xs.pop) } := ⟨_, s.toks, rfl, λ b o hb e => by
  rw [bV _ _ (λ q : L = b => hb (by rw [q]; exact .head _))]; exact e⟩
 have hperm : (tA ts 0 :: (ts.drop 1)).Perm ts := by
  cases ts with
  | nil => simp at hne
  | cons a r => exact .refl _
 by_cases h1 : ts.length = 1
 ·have e1 : (vs.toArray.size == 1) = true := by simp [hlen, h1]
  rw [e1]
  rw [if_pos rfl]
  have hdl : vs.dropLast = [] := by
   have : vs.dropLast.length = 0 := by rw [gi, hlen, h1]
   exact d4.mp this
  have htl : ts.drop 1 = [] := by
   have : (ts.drop 1).length = 0 := by rw [fM, h1]
   exact d4.mp this
  rw [h1] at hvr
  refine ai (hQ _ [] vlast kb ⟨⟨[], n', by rw [<- hdl]; exact ho', rfl⟩, hown⟩ (λ i _ h => by simp at h) (by rw [<- htl]; exact hperm) hvr)
 ·have e1 : (vs.toArray.size == 1) = false := by simp [hlen, h1]
  rw [e1]
  rw [if_neg e9]
  refine mL λ gk => ?_
  obtain ⟨v0, hv0, hvr0⟩ := sd hv hne
  refine gk ?_
  refine aa ?_
  show wpAny _ A.in1 (match vs.toArray[0]? with | some v => pure v | none => _) _ _ _
  rw [hv0]
  refine ai ?_
  show wpAny _ A.in1 (updateSeq L (·.setIfInBounds 0 vlast) >>= _) _ _ _
  have hz' : vs.dropLast.toArray.size <= sizeLine := by simp only [aG, gi] at hz |-; omega
  refine aa (fb ho' rfl ?_ hz' (by rw [fB]; lia))
  obtain ⟨n2, hn2⟩ := uE (vs := vs.dropLast) (n := n') λ xs => xs.setIfInBounds 0 vlast
  have ho2 : ((s.heap.update L (bO λ xs => xs.pop)).update L (bO λ xs => xs.setIfInBounds 0 vlast)).get? L = some (lObj (vs.dropLast.set 0 vlast) n2) := by
   rw [bP _ ho' (by rw [hn2]; rfl), hn2]; simp
  have kb2 : KB [L] s { s with heap := (s.heap.update L (bO λ xs => xs.pop)).update L (bO λ xs => xs.setIfInBounds 0 vlast) } := ⟨_, s.toks, rfl, λ b o hb e => by
   rw [bV _ _ (λ q : L = b => hb (by rw [q]; exact .head _)), bV _ _ (λ q : L = b => hb (by rw [q]; exact .head _))]; exact e⟩
  have hv2 : nG W G ((ts.dropLast.set 0 (tA ts (ts.length - 1))).map rn) (vs.dropLast.set 0 vlast) := by
   rw [gX]
   refine nG.set ?_ hvr 0
   rw [jw, jw, hlen, lx]
   exact hv.take _
  have hl2 : HL W G ((s.heap.update L (bO λ xs => xs.pop)).update L (bO λ xs => xs.setIfInBounds 0 vlast)) L (ts.dropLast.set 0 (tA ts (ts.length - 1))) := ⟨⟨_, n2, ho2, hv2⟩, hown⟩
  have hlen2 : (ts.dropLast.set 0 (tA ts (ts.length - 1))).length = ts.length - 1 := by simp
  refine ai ⟨eT pp _, ?_⟩
  refine FZ (by lia) _ 0 _ _ rfl hl2 (hh.pop _) (by rw [hlen2]; lia) (hl.sub (ts' := ts) kb2 sub) (by rw [hlen2]; lia) λ s' ts' kb' q1 q2 q3 => ?_
  refine hQ s' ts' v0 (kb2.trans kb' λ b o h h' _ => h' h) q1 q2 ?_ hvr0
  have hp2 : (tA ts 0 :: ts.dropLast.set 0 (tA ts (ts.length - 1))).Perm ts := by
   cases ts with
   | nil => simp at hne
   | cons a r =>
    cases r with
    | nil => simp at h1
    | cons b r =>
     have e : (a :: b :: r).dropLast = a :: (b :: r).dropLast := rfl
     rw [e, List.set_cons_zero]
     have hlast : tA (a :: b :: r) ((a :: b :: r).length - 1) = (b :: r).getLast (by simp) := by
      unfold tA
      rw [List.getLast_eq_getElem]
      simp [ao]
     rw [hlast]
     show (a :: ((b :: r).getLast _ :: (b :: r).dropLast)).Perm _
     refine mw.cons a ?_
     have hd := List.dropLast_concat_getLast (l := b :: r) (by simp)
     calc ((b :: r).getLast _ :: (b :: r).dropLast).Perm ((b :: r).dropLast ++ [(b :: r).getLast (by simp)]) := jt (l₁ := [(b :: r).getLast (by simp)])
      _ = b :: r := hd
  exact (q3.cons _).trans hp2
end
theorem x4 : entryFor table "proto.unchain" = some Builtin.«proto.unchain» := eQ (by kernel_rfl)
noncomputable def vh (A : Around) (h : Heap) : Prop := A.handled = none \/ ∃ e, A.handled = some (.ref e) /\ qk h e
theorem vh.keeps {A : Around} {h h' : Heap} (x : vh A h) (k : ∀ b o, h.get? b = some o -> h'.get? b = some o) : vh A h' := by
 rcases x with x | ⟨e, x, f⟩
 ·exact .inl x
 ·exact .inr ⟨e, x, qk.keeps f k⟩
section
variable {W : Wo} {A : Around} {s : Shared}
theorem z0 {α : Type} {x : Addr} {o : Obj} {vs : Array Value} {Q : α -> Shared -> Prop} {E : Value -> Shared -> Prop} (hd : vh A s.heap) (ho : s.heap.get? x = some o) (hf : o.data = .fields vs) (hsz : 2 < vs.size) (hn : ∀ e, A.handled = some (.ref e) -> e ≠ x)
  (hE : ∀ h', h'.get? x ≠ none -> (∀ o', h'.get? x = some o' -> o'.cls = o.cls) -> gr x s.heap h' -> E (.ref x) { s with heap := h' }) : wpAny (Mo W) A (raiseNew (.ref x) : Sem α) Q E s := by
 unfold raiseNew
 refine aa (jD ?_)
 rcases hd with hd | ⟨e, hd, oe, ws, hoe, hwe, h2⟩
 ·rw [hd]
  exact aa (ai (iT (hE s.heap (by rw [ho]; simp) (λ o' e => by rw [ho] at e; cases e; rfl) λ b o _ e => e)))
 ·rw [hd]
  have hne := hn e hd
  have hb : (eC e != eC x) = true := by simp [hne]
  dsimp only
  rw [if_pos hb]
  refine aa (aO (jk (dJ x4 ?_)))
  show wpAny _ _ (field (.ref e) 2 >>= _) _ _ s
  refine aa (fS hoe hwe h2 ?_)
  show wpAny _ _ (ret .none) _ _ s
  refine ai (aa ?_)
  show wpAny _ A (setField (.ref x) 2 (.ref e)) _ _ s
  refine jj ho hf hsz ?_
  refine iT (hE _ ?_ (λ o' e' => ?_) λ b o'' hb e => by rw [bV _ _ (Ne.symm hb)]; exact e)
  ·rw [bP _ ho (eE (d0 hf _))]; simp
  ·rw [bP _ ho (eE (d0 hf _))] at e'
   cases e'
   exact Obj.cls_mapFields ..
theorem K5 {it t : Addr} {i : Nat} {items : Array Value} {Q : Option Value -> Shared -> Prop} {E : Value -> Shared -> Prop} (hd : vh A s.heap)
  (hit : s.heap.IsTupleIter it t i) (ht : s.heap.IsTuple t items) (hx : items[i]? = none) (hnit : ∀ e, A.handled = some (.ref e) -> e ≠ it)
  (hQ : ∀ h', gr it s.heap h' -> Q none { s with heap := h' }) : wpAny (Mo W) A (pyNext (.ref it)) Q E s := by
 refine mL λ gk => ?_
 obtain ⟨o, ho, hc, hdat⟩ := id hit
 obtain ⟨ol, hol, _, nl, hdl⟩ := ht
 refine gk ?_
 unfold pyNext
 refine aa (jE (f8 (name := c6 "__next__") hit.typeIs F.slot_tuple_iterator_next
  (iH F.slot_tuple_iterator_next hit.typeIs F.entry_tuple_iterator_next ?_ (F.args_tuple_iterator_next_1 _))))
 show wpAny _ _ (field (.ref it) 0 >>= _) _ _ s
 refine aa (fS ho hdat (x := .ref t) rfl ?_)
 show wpAny _ _ (if (eC t == cS) = true then _ else _) _ _ s
 rw [if_neg (show ¬ ((eC t == cS) = true) from e9)]
 show wpAny _ _ (field (.ref it) 1 >>= _) _ _ s
 refine aa (fS ho hdat (x := .int i 0) rfl ?_)
 show wpAny _ _ (seqItems? (.ref t) >>= _) _ _ s
 refine aa (cJ hol hdl ?_)
 simp only [dp, hx]
 refine aa (jl (aa (jj ho hdat (by simp) ?_)))
 show wpAny _ _ (newExc (.type "StopIteration") [] >>= _) _ _ _
 refine aa ?_
 simp only [newExc, newTuple]
 refine aa (cq ?_ (by size_fits))
 refine aa (m := firstArgMember _ _) (dq (a := cS) (by first | rfl | (simp only [firstArgMember]; rfl)) ?_)
 refine cq ?_ (by size_fits)
 have hd' : vh A.in1 s.heap := hd
 have hext : gr it s.heap ((s.heap.update it (gO (·.setIfInBounds 0 cS))).push { cls := .type "tuple", data := .seq #[] }) := ((df ..).extBut.push _)
 refine z0 (A := A.in1) (o := { cls := .type "StopIteration", dict := none, data := .fields (#[.ref (s.heap.update it (gO (·.setIfInBounds 0 cS))).objs.size, .none, .none, .none, .bool false, .none] ++ ownMembersOf (.type "StopIteration") []) }) ?_ (aJ _ rfl) rfl (by rw [jU]; exact Nat.lt_add_right _ (show 2 < 6 by decide)) (λ e he => ?_) λ h' h1 h2 h3 => ?_
 ·rcases hd' with hd' | ⟨e, he, f⟩
  ·exact .inl hd'
  ·obtain ⟨oe, ws, hoe, r⟩ := f
   exact .inr ⟨e, he, oe, ws, aj _ (hext e oe (hnit e he) hoe), r⟩
 ·rcases hd' with hd' | ⟨e', he', oe, ws, hoe, r⟩
  ·rw [hd'] at he; cases he
  ·rw [he'] at he; cases he
   exact aE (aR (hext e oe (hnit e he') hoe))
 ·cases hg : h'.get? ((s.heap.update it (gO (·.setIfInBounds 0 cS))).push { cls := .type "tuple", data := .seq #[] }).objs.size with
  | none => exact absurd hg h1
  | some o' =>
   refine aa (eP (T := "StopIteration") (b := true) ⟨o', hg, h2 o' hg⟩ mq ?_)
   refine ai (hQ _ λ b ob hb e => ?_)
   exact h3 b ob (aE (aR (hext b ob hb e))) (aj _ (hext b ob hb e))
end
section
variable {W : Wo} {G : Fz} {A : Around} {s : Shared}
theorem vE {f : Addr} {ps : List Str} {names : List (Str × NameKind)} {body : List Stmt} {fd : FuncData} (F : sC W f ps names false body fd) (hnc : names.all (λ y => y.2 != .cell) = true) (hps : ps.all (λ x => names.lookup x == some .local) = true) (hroom : A.depth < recursionLimit) (hst : W.h₀.StaysIn s.heap) (hlim : W.h₀.NoLimit)
  {us : List Value} (hlen : us.length = ps.length) {Q : Value -> Shared -> Prop} {E : Value -> Shared -> Prop}
  (h : ∀ env : Env, env = callEnvC fd s.heap.objs.size f -> env.scope.kind = .function -> env.scope.names = names -> env.globals = W.gl -> env.builtins = W.bi -> env.locals = s.heap.objs.size -> ∀ (h₁ : Heap) (tk : Nat), h₁.Ns s.heap.objs.size (λ x => bindL env.kindOf (ps.zip us) (λ _ => none) x) -> (∀ b o, s.heap.get? b = some o -> h₁.get? b = some o) ->
   wpAny (Mo W) (A.deeper env) (execs body env) (λ fl s' => Q (match fl with | .ret v => v | _ => .none) s') (λ e s' => wpAny (Mo W) (A.deeper env) (leaving env e) (λ _ s'' => E e s'') (λ e' s'' => E e' s'') s') { s with heap := h₁, toks := tk }) :
  wpAny (Mo W) A (call (.ref f) us []) Q E s := by
 refine mL λ gk => ?_
 obtain ⟨o, ho, hc, hd⟩ := F.there
 refine gk ?_
 refine fG (codeAny_call_cells hroom (hst _ _ ho) hd (hlim.keeps hst) (F.code.keeps hst) F.body (F.bind us hlen) F.clos (λ x hx => ?_) (λ s₁ hin => ?_) F.co F.gen F.kind)
 ·left
  have hxp : x.1 ∈ ps := (eM (show (x.1, x.2) ∈ ps.zip us from hx)).1
  have := aU.mp hps x.1 hxp
  rw [F.names]; simpa using this
 ·refine mL λ gk => ?_
  obtain ⟨⟨hsame, hns, hkeep, _⟩, _, _, _⟩ := hin
  obtain ⟨h', tk, rfl⟩ := hsame
  refine gk ?_
  exact h _ rfl F.kind F.names F.gl F.bi rfl h' tk hns hkeep
theorem wI {t : Addr} {items : Array Value} {targets : List (Bool × (Value -> Sem Unit))} {Q : Unit -> Shared -> Prop} {E : Value -> Shared -> Prop} (hd : vh A s.heap) (ht : s.heap.IsTuple t items)
  (hn : targets.length = items.size) (hstar : targets.findIdx? (·.1) = none)
  (h : ∀ h', (∀ b o, s.heap.get? b = some o -> h'.get? b = some o) -> wpAny (Mo W) A (assignInOrder (targets.map (·.2)) items.toList) Q E { s with heap := h' }) :
  wpAny (Mo W) A (unpack (.ref t) targets) Q E s := by
 unfold unpack
 rw [hn, hstar]
 refine aa (aO ?_)
 have hlt : t ≠ s.heap.objs.size := by obtain ⟨o, ho, _⟩ := ht; exact aE (aR ho)
 show wpAny _ _ (unpackItems (.ref t) items.size none) _ _ _
 unfold unpackItems
 refine aa ?_
 unfold notIterableAtAll
 refine aa (fe ht.typeIs F.slot_tuple_iter.lookup ?_)
 refine ai ?_
 simp only [bB, if_false]
 refine aa (aO (lk ht ?_))
 refine aa (aO (wpAny_draw_tuple hlt items.size 0 _ _ ⟨_, aJ _ rfl, rfl, rfl⟩ (ht.push _) (by lia) λ h₁ hit₁ hs₁ => ?_))
 have hall : List.take items.size (List.drop 0 items.toList) = items.toList := by
  rw [k9]; exact jc (by simp)
 rw [hall]
 rw [if_neg (by simp)]
 have ht₁ : h₁.IsTuple t items := (ht.push _).extBut hs₁.extBut hlt
 have k₁ : ∀ b o, s.heap.get? b = some o -> h₁.get? b = some o := λ b o e => hs₁.extBut b o (aE (aR e)) (aj _ e)
 refine aa (aO (K5 (hd.keeps k₁) hit₁ ht₁ (by simp) (λ e he => ?_) λ h₂ he₂ => ?_))
 ·rcases hd with hd | ⟨e', hd, oe, ws, hoe, _⟩
  ·rw [hd] at he; cases he
  ·rw [hd] at he; cases he
   exact aE (aR hoe)
 ·simp only [Option.isSome_none, bB, if_false]
  exact ai (h h₂ λ b o e => he₂ b o (aE (aR e)) (k₁ b o e))
theorem A5 {env : Env} {x y z : Str} {px py pz pt pos : Pos} {k : Nat} {t : Addr} {va vb : Value} {n : Nat} {m : Str -> Option Value} {Q : Flow -> Shared -> Prop} {E : Value -> Shared -> Prop} (hd : vh A s.heap) (hk : env.scope.kind = .function) (hx : env.kindOf x = some .local) (hy : env.kindOf y = some .local) (hz : env.kindOf z = some .local)
  (hzd : (z == ("__debug__" : Str)) = false) (hns : s.heap.Ns env.locals m) (hm : m z = some (.ref t)) (ht : s.heap.get? t = some (tB [va, vb] n)) (htl : t ≠ env.locals)
  (hQ : ∀ h' tk, h'.Ns env.locals (λ u => if u = y then some vb else if u = x then some va else m u) -> (∀ b o, b ≠ env.locals -> s.heap.get? b = some o -> h'.get? b = some o) -> Q .next { s with heap := h', toks := tk }) :
  wpAny (Mo W) A (exec (.Assign [.Tuple [.Name x px, .Name y py] k pt] (.Name z pz) pos) env) Q E s := by
 rw [i3]
 refine aa (aI (aa (dq (show swapsWithSole _ _ _ _ = pure false from rfl) ?_)))
 simp only [bB, if_false]
 refine aa (b8 (ba hk hz hns hm ?_) hzd)
 refine aa (dq (show swappedStores _ _ _ = pure none from rfl) ?_)
 unfold assignStores
 show wpAny _ _ (assign (.Tuple [.Name x px, .Name y py] k pt) env (.ref t) >>= λ _ => pure kD) _ _ _
 rw [gg]
 refine aa (aa (aI (wI hd (oF ht) rfl rfl λ h₁ k₁ => ?_)))
 show wpAny _ _ (assignInOrder [assign (.Name x px) env, assign (.Name y py) env] [va, vb]) _ _ _
 refine dg (cZ (cM hx (hns.keeps k₁) (λ h₂ hn₂ hs₂ => ?_) (by rw [hk]; rfl)))
 refine dg (cZ (cM hy hn₂ (λ h₃ hn₃ hs₃ => ?_) (by rw [hk]; rfl)))
 refine fV (ai (hQ h₃ _ hn₃ λ b o hb e => ?_))
 exact hs₃.extBut b o hb (hs₂.extBut b o hb (k₁ b o e))
end
theorem xP.keep {W : Wo} {G G' : Fz} {h h' : Heap} {l : List It} {v : Value} {L : Addr} (w : xP W G h l v L) (k : ∀ o, h.get? L = some o -> h'.get? L = some o) (le : G.le G') : xP W G' h' l v L := (by obtain ⟨x, dx, ox, od, ts, vs, n, e, gx, dx', gd, inst, g, r, p⟩ := w; exact ⟨x, dx, ox, od, ts, vs, n, e, le _ _ gx, dx', le _ _ gd, inst, k _ g, r.mono le, p⟩)
theorem IJ : typeLookup (.type "object") "pq" = pure none := by rw [fj, dO]; kernel_rfl
theorem J8 : typeLookup (.type "object") "add" = pure none := by rw [fj, dO]; kernel_rfl
theorem JE : typeLookup (.type "object") "get" = pure none := by rw [fj, dO]; kernel_rfl
theorem GG : typeLookup (.type "object") "iter" = pure none := by rw [fj, dO]; kernel_rfl
section
variable {W : Wo} {N : Addr} {mN : Str -> Option Value} {fi fa fg ft : Addr} {G : Fz} {A : Around} {s : Shared}
theorem zu (K : LB W N mN fi fa fg ft) {l : List It} {v : Value} {L : Addr} (hst : W.h₀.StaysIn s.heap) (sub : G.sub s.heap) (w : xP W G s.heap l v L) {expr : Bool} {Q : Value -> Shared -> Prop} {E : Value -> Shared -> Prop}
  (hQ : Q (.ref L) { s with toks := s.toks + 1 }) : wpAny (Mo W) A (getAttr v "pq" expr) Q E s := by
 refine mL λ gk => ?_
 obtain ⟨x, dx, ox, od, ts, vs, n, rfl, g1, g2, g3, inst, _⟩ := w
 obtain ⟨hh, g, d, t, os⟩ := s
 have X := K.cls.keeps hst
 obtain ⟨nm, q, bs, sn, sb, col, dd, k0, k1, k2, k3, k5, hC⟩ := X.obj
 refine gk ?_
 exact load_attrFk hC X.ns K.noGa K.noPq IJ (inst hh (sub _ _ g1) (sub _ _ g3)) (by simp) rfl hQ
theorem vN (K : LB W N mN fi fa fg ft) {l : List It} {v : Value} {L : Addr} (hst : W.h₀.StaysIn s.heap) (sub : G.sub s.heap) (w : xP W G s.heap l v L) {name : Str} {f : Addr} {of : Obj} (hf : mN name = some (.ref f)) (hfo : W.h₀.get? f = some of) (hfc : of.cls = .type "function")
  (hn : name ≠ "pq") (hB : typeLookup (.type "object") name = pure none) {pl : Sem Bool} {Q : Value × List Value -> Shared -> Prop} {E : Value -> Shared -> Prop} (hQ : Q (.ref f, [v]) s) : wpAny (Mo W) A (getMethod v name pl) Q E s := by
 refine mL λ gk => ?_
 obtain ⟨x, dx, ox, od, ts, vs, n, rfl, g1, g2, g3, inst, _⟩ := w
 obtain ⟨hh, g, d, t, os⟩ := s
 have X := K.cls.keeps hst
 obtain ⟨nm, q, bs, sn, sb, col, dd, k0, k1, k2, k3, k5, hC⟩ := X.obj
 refine gk ?_
 exact method_ofFk hC X.ns K.noGa K.noGh hf (hst _ _ hfo) hfc hB (inst hh (sub _ _ g1) (sub _ _ g3)) (by simp [hn]) hQ
theorem MU (K : LB W N mN fi fa fg ft) {fd : FuncData} {p : Nat -> Pos} (F : sC W fa ["self", "item"] xc false (DI p) fd)
  (gp : vA W "heappush" (.builtin "_heapq.heappush")) (hroom : A.depth < recursionLimit) (hu : A.units + 60 < cLine) (hd : vh A s.heap) (hst : W.h₀.StaysIn s.heap) (hlim : W.h₀.NoLimit) (sub : G.sub s.heap) {l : List It} {v vt : Value} {L : Addr} {i : Int} {b : Bs} (w : xP W G s.heap l v L) (hL : G L = none)
  (ht : VR W G (.tuple [.int i, .bytes b]) vt) (hlen : l.length < 4000) {Q : Value -> Shared -> Prop} {E : Value -> Shared -> Prop}
  (hQ : ∀ (s' : Shared) G', KB [L] s s' -> Up G s.heap G' s'.heap -> xP W G' s'.heap (pD (-i, b) l) v L -> Q .none s') : wpAny (Mo W) A (call (.ref fa) [v, vt]) Q E s := by
 refine mL λ gk => ?_
 obtain ⟨t, xs, nt, rfl, gt, ⟨v1, r1, rfl, ⟨t1, rfl⟩, v2, r2, rfl, ⟨t2, rfl⟩, hnil⟩, _⟩ := ht
 cases (show _ = _ from hnil)
 refine gk ?_
 have hto := sub _ _ gt
 refine vE F (by decide) (by decide) hroom hst hlim (us := [v, .ref t]) rfl λ env he hk hnames hgl hbi hloc h₁ tk hns k₁ => ?_
 have kind : ∀ x, env.kindOf x = xc.lookup x := λ x => by show env.scope.names.lookup x = _; rw [hnames]
 have kself : env.kindOf "self" = some .local := by rw [kind]; decide
 have kitem : env.kindOf "item" = some .local := by rw [kind]; decide
 have kdt : env.kindOf "dt" = some .local := by rw [kind]; decide
 have kcmt : env.kindOf "cmt" = some .local := by rw [kind]; decide
 have khp : env.kindOf "heappush" = some .globalImplicit := by rw [kind]; decide
 have mself : bindL env.kindOf ((["self", "item"] : List Str).zip [v, .ref t]) (λ _ => none) "self" = some v := qx kself (by decide : nV (["self", "item"] : List Str) = true) rfl
 have mitem : bindL env.kindOf ((["self", "item"] : List Str).zip [v, .ref t]) (λ _ => none) "item" = some (.ref t) := qx kitem (by decide : nV (["self", "item"] : List Str) = true) rfl
 have ltL : ∀ b o, s.heap.get? b = some o -> b ≠ env.locals := λ b o e => by rw [hloc]; exact aE (aR e)
 rw [<- hloc] at hns
 refine bx (A5 (A := A.deeper env) (hd.keeps k₁) hk kdt kcmt kitem (by decide) hns mitem (k₁ _ _ hto) (ltL _ _ hto) λ h₂ tk₂ hns₂ k₂ => ?_)
 have k₁₂ : ∀ b o, s.heap.get? b = some o -> h₂.get? b = some o := λ b o e => k₂ b o (ltL b o e) (k₁ b o e)
 have hst₂ : W.h₀.StaysIn h₂ := λ b o e => k₁₂ b o (hst b o e)
 have sub₂ : G.sub h₂ := λ b o e => k₁₂ b o (sub b o e)
 have W₂ : xP W G h₂ l v L := w.keep (λ o => k₁₂ L o) Fz.le.rfl
 refine bx (fH ?_ (by unfold interactive; rw [hk]; rfl) rfl)
 refine eA rfl (eZ hk khp (gp env hgl hbi _ _ _ _ hst₂ ?_) (by decide))
 refine cY rfl (di (aW ?_))
 have mself₂ : (λ u => if u = ("cmt" : Str) then some (c5 b.toArray t2) else if u = ("dt" : Str) then some (eU i t1) else bindL env.kindOf ((["self", "item"] : List Str).zip [v, .ref t]) (λ _ => none) u) "self" = some v := by
  show (if ("self" : Str) = "cmt" then _ else if ("self" : Str) = "dt" then _ else _) = _
  rw [if_neg (by decide), if_neg (by decide)]; exact mself
 refine jx (b8 (ba hk kself hns₂ mself₂ ?_) (by decide))
 refine zu K hst₂ sub₂ W₂ ?_
 refine aW ?_
 rw [fK]
 refine aa (aI (aa ?_))
 refine aW ?_
 rw [lQ]
 have mdt₂ : (λ u => if u = ("cmt" : Str) then some (c5 b.toArray t2) else if u = ("dt" : Str) then some (eU i t1) else bindL env.kindOf ((["self", "item"] : List Str).zip [v, .ref t]) (λ _ => none) u) "dt" = some (.int i t1) := by
  show (if ("dt" : Str) = "cmt" then _ else if ("dt" : Str) = "dt" then _ else _) = _
  rw [if_neg (by decide), if_pos rfl]
 have mcm₂ : (λ u => if u = ("cmt" : Str) then some (c5 b.toArray t2) else if u = ("dt" : Str) then some (eU i t1) else bindL env.kindOf ((["self", "item"] : List Str).zip [v, .ref t]) (λ _ => none) u) "cmt" = some (.bytes b.toArray t2) := by
  show (if ("cmt" : Str) = "cmt" then _ else _) = _
  rw [if_pos rfl]
 refine aa (b8 (ba hk kdt hns₂ mdt₂ (aa (aI (aO ?_)))) (by decide))
 refine PySem.P.neg_int ?_
 refine aW (b8 (ba hk kcmt hns₂ mcm₂ (bz ?_)) (by decide))
 have hx : nG W G [PV.int (-i), PV.bytes b] [eU (-i) (tk₂ + 1), c5 b.toArray t2] := ⟨_, _, rfl, ⟨_, rfl⟩, _, _, rfl, ⟨_, rfl⟩, rfl⟩
 refine ay (q0 (W := W) (G := G) (A := A.deeper env) sub₂ hx (by simp [cap])) (λ vt s₃ q => ?_) λ _ _ e => e.elim
 obtain ⟨k₃, G₃, u₃, hvt⟩ := q
 refine bz ?_
 obtain ⟨x, dx, ox, od, ts, vs, n, e1, g1, g2, g3, inst, hLo, hvs, hh, hp, hs⟩ := W₂
 have hL₃ : G₃ L = none := (u₃.old L _ hLo).trans hL
 have hl₃ : HL W G₃ s₃.heap L ts := ⟨⟨vs, n, p0 k₃ hLo, hvs.mono u₃.le⟩, hL₃⟩
 have htl : ts.length = l.length := hp.length_eq
 refine BT (A := A.deeper env) (by show A.units + 3 + 40 < cLine; lia) hl₃ hh u₃.sub (x := (-i, b)) hvt (by rw [htl]; unfold cap; lia) λ s₄ ts' kb₄ hl₄ hh₄ hp₄ => bY ?_
 have hall : ∀ b o, b ∉ [L] -> s.heap.get? b = some o -> s₄.heap.get? b = some o := λ b o hb e => kb₄.get hb (p0 k₃ (k₁₂ b o e))
 have kbs : KB [L] s s₄ := by
  obtain ⟨h3, tk3, e3, _⟩ := k₃
  obtain ⟨h4, tk4, e4, _⟩ := id kb₄
  subst e3
  subst e4
  exact ⟨h4, tk4, rfl, hall⟩
 refine mL λ gk => ?_
 obtain ⟨⟨vs', n', ho', hv'⟩, _⟩ := hl₄
 refine gk ?_
 have sub₄ : G₃.sub s₄.heap := λ b o e => kb₄.get (λ h => by simp only [ag, a9, or_false] at h; rw [h, hL₃] at e; cases e) (u₃.sub b o e)
 refine hQ s₄ G₃ kbs ⟨u₃.le, sub₄, λ a o e => u₃.old a o (k₁₂ a o e)⟩ ⟨x, dx, ox, od, ts', vs', n', e1, u₃.le _ _ g1, g2, u₃.le _ _ g3, inst, ho', hv', hh₄, ?_, tf _ hs⟩
 exact hp₄.trans ((hp.cons _).trans (pu _ _).symm)
end
section
variable {W : Wo} {N : Addr} {mN : Str -> Option Value} {fi fa fg ft : Addr} {G : Fz} {A : Around} {s : Shared}
theorem By {env : Env} {x y : Str} {px py p1 p2 : Pos} {i : Int} {t1 t2 : Tok} {b : Bs} {m : Str -> Option Value} {Q : Value -> Shared -> Prop} {E : Value -> Shared -> Prop} (hk : env.scope.kind = .function) (hx : env.kindOf x = some .local) (hy : env.kindOf y = some .local) (dx : (x == ("__debug__" : Str)) = false) (dy : (y == ("__debug__" : Str)) = false)
  (hns : s.heap.Ns env.locals m) (mx : m x = some (.int i t1)) (my : m y = some (.bytes b.toArray t2)) (sub : G.sub s.heap) (hQ : ∀ v s', Gv G s (zC W (.tuple [.int (-i), .bytes b])) v s' -> Q v s') :
  wpAny (Mo W) A (eval (.Tuple [.UnaryOp .USub (.Name x px) p1, .Name y py] 0 p2) env) Q E s := by
 rw [fK]
 refine aa (aI (aa ?_))
 refine aW ?_
 rw [lQ]
 refine aa (b8 (ba hk hx hns mx (aa (aI (aO ?_)))) dx)
 refine PySem.P.neg_int ?_
 refine aW (b8 (ba hk hy hns my (bz ?_)) dy)
 have hv : nG W G [PV.int (-i), PV.bytes b] [eU (-i) s.toks, c5 b.toArray t2] := ⟨_, _, rfl, ⟨_, rfl⟩, _, _, rfl, ⟨_, rfl⟩, rfl⟩
 refine ay (q0 (W := W) (G := G) (A := A) (s := { s with toks := s.toks + 1 }) sub hv (by simp [cap])) (λ vt s₃ q => hQ vt s₃ ((by obtain ⟨k, G', u, p⟩ := q; exact ⟨rf (rE _) k, G', u, p⟩))) λ _ _ e => e.elim
theorem ME (K : LB W N mN fi fa fg ft) {fd : FuncData} {p : Nat -> Pos} (F : sC W fg ["self"] xF false (Dm p) fd)
  (gp : vA W "heappop" (.builtin "_heapq.heappop")) (hroom : A.depth < recursionLimit) (hu : A.units + 60 < cLine) (hd : vh A s.heap) (hst : W.h₀.StaysIn s.heap) (hlim : W.h₀.NoLimit) (sub : G.sub s.heap) {l : List It} {v : Value} {L : Addr} {i : Int} {b : Bs} (w : xP W G s.heap ((i, b) :: l) v L) (hL : G L = none)
  (hlen : l.length < 4000) {Q : Value -> Shared -> Prop} {E : Value -> Shared -> Prop}
  (hQ : ∀ (s' : Shared) G' r, KB [L] s s' -> Up G s.heap G' s'.heap -> xP W G' s'.heap l v L -> VR W G' (.tuple [.int (-i), .bytes b]) r -> Q r s') : wpAny (Mo W) A (call (.ref fg) [v]) Q E s := by
 refine vE F (by decide) (by decide) hroom hst hlim (us := [v]) rfl λ env he hk hnames hgl hbi hloc h₁ tk hns k₁ => ?_
 have kind : ∀ x, env.kindOf x = xF.lookup x := λ x => by show env.scope.names.lookup x = _; rw [hnames]
 have kself : env.kindOf "self" = some .local := by rw [kind]; decide
 have kitem : env.kindOf "item" = some .local := by rw [kind]; decide
 have kdt : env.kindOf "pr" = some .local := by rw [kind]; decide
 have kcmt : env.kindOf "cmt" = some .local := by rw [kind]; decide
 have khp : env.kindOf "heappop" = some .globalImplicit := by rw [kind]; decide
 have mself : bindL env.kindOf ((["self"] : List Str).zip [v]) (λ _ => none) "self" = some v := qx kself (by decide : nV (["self"] : List Str) = true) rfl
 have ltL : ∀ b o, s.heap.get? b = some o -> b ≠ env.locals := λ b o e => by rw [hloc]; exact aE (aR e)
 rw [<- hloc] at hns
 have hst₁ : W.h₀.StaysIn h₁ := λ b o e => k₁ b o (hst b o e)
 have sub₁ : G.sub h₁ := λ b o e => k₁ b o (sub b o e)
 have W₁ : xP W G h₁ ((i, b) :: l) v L := w.keep (λ o => k₁ L o) Fz.le.rfl
 refine bx (c4 ?_ rfl)
 refine eA rfl (eZ hk khp (gp env hgl hbi _ _ _ _ hst₁ ?_) (by decide))
 refine cY rfl (di (aW ?_))
 refine jx (b8 (ba hk kself hns mself ?_) (by decide))
 refine zu K hst₁ sub₁ W₁ ?_
 refine bz ?_
 obtain ⟨x, dx, ox, od, ts, vs, n, e1, g1, g2, g3, inst, hLo, hvs, hh, hp, hs⟩ := W₁
 have htl : ts.length = l.length + 1 := by rw [hp.length_eq]; rfl
 have hmin : tA ts 0 = (i, b) := H0 hh hp hs
 refine Cj (A := A.deeper env) (s := { s with heap := h₁, toks := tk + 1 }) (W := W) (G := G) (by show A.units + 3 + 40 < cLine; lia) ⟨⟨vs, n, hLo, hvs⟩, hL⟩ hh sub₁ (by rw [htl]; unfold cap; omega) (by omega) λ s₂ ts' vt kb₂ hl₂ hh₂ hp₂ hvt => ?_
 rw [hmin] at hvt hp₂
 have nL : L ≠ env.locals := by
  refine mL λ gk => ?_
  obtain ⟨x', dx', ox', od', ts', vs', n', e1', _, _, _, _, hLo', _⟩ := w
  refine gk ?_
  exact ltL L _ hLo'
 have sub₂ : G.sub s₂.heap := λ b o e => kb₂.get (λ h => by simp only [ag, a9, or_false] at h; rw [h, hL] at e; cases e) (sub₁ b o e)
 have hns₂ : s₂.heap.Ns env.locals (λ x => bindL env.kindOf ((["self"] : List Str).zip [v]) (λ _ => none) x) := hns.at' λ o e => kb₂.get (by simp [Ne.symm nL]) e
 have k₂ : ∀ b o, b ∉ [L] -> s.heap.get? b = some o -> s₂.heap.get? b = some o := λ b o hb e => kb₂.get hb (k₁ b o e)
 refine cM kitem hns₂ (λ h₃ hns₃ hs₃ => ?_) (by rw [hk]; rfl)
 have k₃ : ∀ b o, b ∉ [L] -> s.heap.get? b = some o -> h₃.get? b = some o := λ b o hb e => hs₃.extBut b o (ltL b o e) (k₂ b o hb e)
 refine mL λ gk => ?_
 obtain ⟨t, xs, nt, rfl, gt, ⟨v1, r1, rfl, ⟨t1, rfl⟩, v2, r2, rfl, ⟨t2, rfl⟩, hnil⟩, hcap⟩ := hvt
 cases (show _ = _ from hnil)
 refine gk ?_
 have gLoc : G env.locals = none := by rw [hloc]; exact m4 sub (qh _)
 have sub₃ : G.sub h₃ := λ b o e => hs₃.extBut b o (by rintro rfl; rw [gLoc] at e; cases e) (sub₂ b o e)
 have ht₃ : h₃.get? t = some (tB [.int i t1, .bytes b.toArray t2] nt) := sub₃ _ _ gt
 have htL : t ≠ env.locals := by rintro rfl; rw [gLoc] at gt; cases gt
 have mitem : (λ u => if u = ("item" : Str) then some (eC t) else bindL env.kindOf ((["self"] : List Str).zip [v]) (λ _ => none) u) "item" = some (.ref t) := by
  show (if ("item" : Str) = "item" then _ else _) = _
  rw [if_pos rfl]
 refine bx (jm (wpAny_isTrue_value (b8 (ba hk kitem hns₃ mitem ?_) (by decide))))
 refine truthy_tuple (items := #[.int i t1, .bytes b.toArray t2]) ⟨_, ht₃, rfl, nt, rfl⟩ (by simp) ?_
 rw [if_pos (show (!(#[eU i t1, c5 b.toArray t2] : Array Value).isEmpty) = true from rfl)]
 have hd₃ : vh (A.deeper env) h₃ := by
  rcases hd with hd | ⟨e, hd, f⟩
  ·exact .inl hd
  ·refine .inr ⟨e, hd, ?_⟩
   obtain ⟨oe, ws, hoe, r1, r2⟩ := f
   refine ⟨oe, ws, k₃ e oe (λ h => ?_) hoe, r1, r2⟩
   simp only [ag, a9, or_false] at h
   subst h
   obtain ⟨x', dx', ox', od', ts'', vs', n', e1', _, _, _, _, hLo', _⟩ := w
   rw [hLo'] at hoe; cases hoe; cases r1
 refine bx (A5 (A := A.deeper env) hd₃ hk kdt kcmt kitem (by decide) hns₃ mitem ht₃ htL λ h₄ tk₄ hns₄ k₄ => ?_)
 have k₄' : ∀ b o, b ∉ [L] -> s.heap.get? b = some o -> h₄.get? b = some o := λ b o hb e => k₄ b o (ltL b o e) (k₃ b o hb e)
 have sub₄ : G.sub h₄ := λ b o e => k₄ b o (by rintro rfl; rw [gLoc] at e; cases e) (sub₃ b o e)
 refine bx (cK (By (G := G) (W := W) hk kdt kcmt (by decide) (by decide) hns₄ (i := i) (t1 := t1) (b := b) (t2 := t2) ?_ ?_ sub₄ λ vr s₅ q => ?_))
 ·show (if ("pr" : Str) = "cmt" then _ else if ("pr" : Str) = "pr" then _ else _) = _
  rw [if_neg (by decide), if_pos rfl]
 ·show (if ("cmt" : Str) = "cmt" then _ else _) = _
  rw [if_pos rfl]
 ·refine mL λ gk => ?_
  obtain ⟨k₅, G₅, u₅, hvr⟩ := q
  obtain ⟨⟨vs', n', ho', hv'⟩, _⟩ := hl₂
  refine gk ?_
  have hLo₄ : h₄.get? L = some (lObj vs' n') := k₄ L _ nL (hs₃.extBut L _ nL ho')
  have hall : ∀ b o, b ∉ [L] -> s.heap.get? b = some o -> s₅.heap.get? b = some o := λ b o hb e => p0 k₅ (k₄' b o hb e)
  have kbs : KB [L] s s₅ := by
   obtain ⟨h5, tk5, e5, _⟩ := id k₅
   obtain ⟨h2, tk2, e2', _⟩ := id kb₂
   subst e2'
   subst e5
   exact ⟨h5, tk5, rfl, hall⟩
  refine hQ s₅ G₅ vr kbs ⟨u₅.le, u₅.sub, λ a o e => ?_⟩ ⟨x, dx, ox, od, ts', vs', n', e1, u₅.le _ _ g1, g2, u₅.le _ _ g3, inst, p0 k₅ hLo₄, hv'.mono u₅.le, hh₂, ?_, ?_⟩ hvr
  ·by_cases ha : a ∈ [L]
   ·simp only [ag, a9, or_false] at ha
    subst ha
    exact u₅.old a _ hLo₄
   ·exact u₅.old a o (k₄' a o ha e)
  ·have := hp₂.trans hp
   exact (kZ _).mp this
  ·unfold pw at hs |-
   exact (bg.mp hs).2
end
section
variable {W : Wo} {N : Addr} {mN : Str -> Option Value} {fi fa fg ft : Addr} {G : Fz} {A : Around} {s : Shared}
theorem MP (K : LB W N mN fi fa fg ft) {fd : FuncData} {p1 p2 p3 p4 : Pos} (F : sC W fi ["self"] vH false (Ax p1 p2 p3 p4) fd)
  (hroom : A.depth + 1 < recursionLimit) (hst : W.h₀.StaysIn s.heap) (hlim : W.h₀.NoLimit) (sub : G.sub s.heap) {Q : Value -> Shared -> Prop} {E : Value -> Shared -> Prop}
  (hQ : ∀ (s' : Shared) G' v L, Keeps s s' -> Up G s.heap G' s'.heap -> s.heap.get? L = none -> G' L = none -> xP W G' s'.heap [] v L -> Q v s') : wpAny (Mo W) A (call (.ref W.C) []) Q E s := by
 refine mL λ gk => ?_
 obtain ⟨hh, g, d, t, os⟩ := s
 have X := K.cls.keeps hst
 obtain ⟨nm, q, bs, sn, sb, col, dd, k0, k1, k2, k3, k5, hC⟩ := X.obj
 obtain ⟨oi, hoi, hci, hdi⟩ := F.there
 refine gk ?_
 refine wpAny_call_obj_initFk PySem.F.objNew hC X.ns K.init (hst _ _ hoi) hci λ h' x dx Mk => ?_
 have hst' : W.h₀.StaysIn h' := λ b o e => Mk.keeps b o (hst b o e)
 refine vE (A := A.under (.builtin "type.__call__" ⟨[.ref W.C], []⟩)) (s := ⟨h', g, d, t, os⟩) F (by decide) (by decide) hroom hst' hlim (us := [.ref x]) rfl λ env he hk hnames hgl hbi hloc h₁ tk hns k₁ => ?_
 have kind : ∀ x, env.kindOf x = vH.lookup x := λ x => by show env.scope.names.lookup x = _; rw [hnames]
 have kself : env.kindOf "self" = some .local := by rw [kind]; decide
 have mself : bindL env.kindOf ((["self"] : List Str).zip [.ref x]) (λ _ => none) "self" = some (.ref x) := qx kself (by decide : nV (["self"] : List Str) = true) rfl
 rw [<- hloc] at hns
 refine bx (plainObj_wpAny_Assign_Attribute ?_ rfl)
 rw [jF]
 refine aa (aI (aa (bz ?_)))
 have sub₁ : G.sub h₁ := λ b o e => k₁ b o (Mk.keeps b o (sub b o e))
 refine cq ?_ (by size_fits)
 have kL : ∀ b o, h₁.get? b = some o -> (h₁.push (lObj [] 0)).get? b = some o := λ b o e => aj _ e
 refine b8 (ba hk kself (hns.push _) mself ?_) (by decide)
 have kall : ∀ b o, hh.get? b = some o -> (h₁.push (lObj [] 0)).get? b = some o := λ b o e => kL b o (k₁ b o (Mk.keeps b o e))
 refine mL λ gk => ?_
 obtain ⟨nm2, q2, bs2, sn2, sb2, col2, dd2, k02, k12, k22, k32, k52, hC2⟩ := (X.keeps kall).obj
 refine gk ?_
 have inst : (h₁.push (lObj [] 0)).InstFk x W.C λ _ => none := Mk.inst.keeps λ b o e => kL b o (k₁ b o e)
 have hxC : x ≠ W.C := by rintro rfl; rw [Mk.newX] at hC; cases hC
 refine store_attrFk (ns := []) PySem.F.store_object hC2 (X.keeps kall).ns K.noSa K.noPq IJ hxC inst (λ h₂ tk₂ I₂ hk₂ hsame => bY ⟨rfl, ?_⟩) (λ y h => absurd rfl h) (by size_fits)
 refine mL λ gk => ?_
 obtain ⟨ox₀, hox₀, hcx₀, _, hdx₀⟩ := inst
 obtain ⟨ox, hox, hcx, hdatx, _, hdk⟩ := hsame ox₀ hox₀
 refine gk ?_
 have hdx : ox₀.dict = some dx := by
  refine mL λ gk => ?_
  obtain ⟨o', ho', _⟩ := Mk.inst
  have h1 := kL _ _ (k₁ _ _ ho')
  rw [h1] at hox₀
  cases hox₀
  refine gk ?_
  exact Mk.dict _ ho'
 have hdx' : ox.dict = some dx := hdk dx hdx
 have dAl : ∃ od₀, h'.get? dx = some od₀ := by
  refine mL λ gk => ?_
  obtain ⟨o', ho', _, _, hd'⟩ := Mk.inst
  refine gk ?_
  have e := Mk.dict _ ho'
  rcases hd' with ⟨hn, _⟩ | ⟨d', hd', _, ⟨od, _, _, hod, _⟩, _⟩
  ·rw [hn] at e; cases e
  ·rw [e] at hd'; cases hd'; exact ⟨od, hod⟩
 have xAl : ∃ o, h'.get? x = some o := (by obtain ⟨o', ho', _⟩ := Mk.inst; exact ⟨o', ho'⟩)
 have h1L : h₁.get? h₁.objs.size = none := qh h₁
 have neL : ∀ b, (∃ o, h'.get? b = some o) -> b ≠ h₁.objs.size := λ b q_ e => q_.casesOn λ o ho => by
  have := k₁ b o ho; rw [e, h1L] at this; cases this
 have nx := neL x xAl
 have nd := neL dx dAl
 refine mL λ gk => ?_
 obtain ⟨ox', hox', hcx', hncx', hdd'⟩ := I₂
 rw [hox] at hox'
 cases hox'
 have hns₂ : ∃ od, h₂.get? dx = some od /\ dx ≠ x /\ ∀ h : Heap, h.get? dx = some od -> h.Ns1 dx (λ y => if y = "pq" then some (eC h₁.objs.size) else none) /\ h.ExactDictFk dx := by
  rcases hdd' with ⟨hn, _⟩ | ⟨d', hd', hne', ⟨od, es, ep, hod, hr⟩, ⟨od2, hod2, hr2⟩⟩
  ·rw [hn] at hdx'; cases hdx'
  ·rw [hdx'] at hd'; cases hd'
   rw [hod] at hod2
   cases hod2
   exact ⟨od, hod, hne', λ h e => ⟨⟨od, es, ep, e, hr⟩, od, e, hr2⟩⟩
 obtain ⟨od, hod, hnex, hod'⟩ := hns₂
 refine gk ?_
 have k₂ : ∀ b o, hh.get? b = some o -> h₂.get? b = some o := λ b o e => hk₂ b o (by rintro rfl; rw [Mk.newX] at e; cases e) (λ o₀ d' e₀ ed => by
  rw [hox₀] at e₀; cases e₀
  rw [hdx] at ed; cases ed
  rintro rfl; rw [Mk.newD] at e; cases e) (kall b o e)
 have hLo : h₂.get? h₁.objs.size = some (lObj [] 0) := hk₂ _ _ (Ne.symm nx) (λ o₀ d' e₀ ed => by
  rw [hox₀] at e₀; cases e₀
  rw [hdx] at ed; cases ed
  exact Ne.symm nd) (aJ _ rfl)
 have hLn : hh.get? h₁.objs.size = none := by
  cases e : hh.get? h₁.objs.size with
  | none => rfl
  | some o => have := k₁ _ _ (Mk.keeps _ _ e); rw [h1L] at this; cases this
 have gx : G x = none := m4 sub Mk.newX
 have gd : G dx = none := m4 sub Mk.newD
 have gL : G h₁.objs.size = none := m4 sub hLn
 have Gx : ∀ b, ((G.add x ox).add dx od) b = if b = dx then some od else if b = x then some ox else G b := λ b => rfl
 have up : Up G hh ((G.add x ox).add dx od) h₂ := by
  refine ⟨λ b o e => ?_, λ b o e => ?_, λ b o e => ?_⟩
  ·rw [Gx]
   split
   ·rename_i q; subst q; rw [gd] at e; cases e
   ·split
    ·rename_i q; subst q; rw [gx] at e; cases e
    ·exact e
  ·rw [Gx] at e
   split at e
   ·rename_i q; subst q; cases e; exact hod
   ·split at e
    ·rename_i q; subst q; cases e; exact hox
    ·exact k₂ b o (sub b o e)
  ·rw [Gx]
   split
   ·rename_i q; subst q; have e' : hh.get? b = some o := e; rw [Mk.newD] at e'; cases e'
   ·split
    ·rename_i q; subst q; have e' : hh.get? b = some o := e; rw [Mk.newX] at e'; cases e'
    ·rfl
 refine hQ _ ((G.add x ox).add dx od) (.ref x) h₁.objs.size ⟨h₂, tk₂, rfl, k₂⟩ up hLn ?_ ⟨x, dx, ox, od, [], [], 0, rfl, ?_, hdx', ?_, λ h e1 e2 => ?_, hLo, rfl, ⟨λ i _ h => by simp at h, .refl _, .nil⟩⟩
 ·rw [Gx, if_neg (Ne.symm nd), if_neg (Ne.symm nx)]; exact gL
 ·rw [Gx, if_neg (Ne.symm hnex), if_pos rfl]
 ·rw [Gx, if_pos rfl]
 ·refine mL λ gk => ?_
  obtain ⟨q1, q2⟩ := hod' h e2
  refine gk ?_
  exact ⟨ox, e1, hcx', hncx', .inr ⟨dx, hdx', hnex, q1, q2⟩⟩
end
section
variable {W : Wo} {A : Around} {R : GenEnd} {Y : Protocol} {n : Nat} {s₀ : Shared} {fs : List Frame} {s : Shared} {env : Env}
theorem vT {target : Expr} {it : Value} {body : List Stmt}
  (h : wpAny (Mo W) (A.over (.forLoop target it body [] env) fs) (pyNext it) (λ r s' => match r with
   | none => Seg (Mo W) A R Y n s₀ (.forLoop target it body [] env) (.pure (.again (.block [] env))) fs s'
   | some v => wpAny (Mo W) (A.over (.forLoop target it body [] env) fs) (letOwnedTupleGo target it v) (λ _ s₂ =>
     wpAny (Mo W) (A.over (.forLoop target it body [] env) fs) (assign target env v) (λ _ s₃ =>
      Seg (Mo W) A R Y n s₀ (.forLoop target it body [] env) ((execs body env).wrap (λ f => match f with
       | .next | .cont => .pure (.again (.forLoop target it body [] env))
       | .brk => .pure (.done .next)
       | .ret v => .pure (.done (.ret v))) (λ e => (do noteFrame e env; theTreesLotGoes e : Sem Unit).wrap (λ _ => .raise e) .raise id id) id id) fs s₃) No s₂) No s') No s) :
  Seg (Mo W) A R Y n s₀ (.forLoop target it body [] env) ((Mo W).den (.forLoop target it body [] env)) fs s := by
 show Seg _ A R Y n s₀ _ ((forTurn target it body [] env).onRaise (λ x => do noteFrame x env; theTreesLotGoes x)) fs s
 unfold forTurn
 rw [Sem.onRaise_eq_wrap, dm, dT]
 refine iq (aI ?_)
 rw [dm, dT]
 refine iq (mA (ay h (λ r s' hr => ?_) λ _ _ e => e.elim))
 cases r with
 | none => exact hr
 | some v =>
  show Seg _ A R Y n s₀ _ (Sem.wrap _ _ _ _ (letOwnedTupleGo target it v >>= λ _ => _)) fs s'
  rw [dm, dT]
  refine iq (ay hr (λ _ s₂ h₂ => ?_) λ _ _ e => e.elim)
  rw [dm, dT]
  refine iq (ay h₂ (λ _ s₃ h₃ => ?_) λ _ _ e => e.elim)
  rw [dm, dT]
  rw [Sem.wrap_congr (execs body env) _ _ (K' := λ f => match f with
      | .next | .cont => .pure (.again (.forLoop target it body [] env))
      | .brk => .pure (.done .next)
      | .ret v => .pure (.done (.ret v))) (H' := (λ e => (do noteFrame e env; theTreesLotGoes e : Sem Unit).wrap (λ _ => .raise e) .raise id id))
    (λ f => by cases f <;> rfl)
    (λ e => by first | exact kM _ _ | (show (do noteFrame e env; theTreesLotGoes e : Sem Unit).bind (λ _ => .raise e) = _; rw [kM]))]
  exact h₃
theorem Ez {fs : List Frame} (h : Seg (Mo W) A R Y n s₀ (.block [] env) (.pure (.done .next)) fs s) : Seg (Mo W) A R Y n s₀ (.block [] env) ((Mo W).den (.block [] env)) fs s := by
 exact h
theorem Kb {c : Code} {K : Flow -> Sem Fin} {H : Value -> Sem Fin} {gd : Bool -> Bool} {lv : List Value -> List Value} {target iter : Expr} {body : List Stmt} {pos : Pos}
  (hs : ∀ x, foldedSetIterable iter env x = pure x)
  (h : wpAny (Mo W) (A.over c fs) (eval iter env) (λ x s₁ => wpAny (Mo W) (A.over c fs) (pyIter x) (λ it s₂ => ∀ p,
   Seg (Mo W) A R Y n s₀ (.forLoop target it body [] env) ((Mo W).den (.forLoop target it body [] env))
   (.ret (λ r => ((match r with | .ok f => (.pure f : Sem Flow) | .error e => .raise e).onRaise λ (x : Value) => do
    if (<- field x 1) == cS then unsupported "frame.own-activation:exception-without-traceback"
    setFlight x env.frame).wrap K H gd lv) none (gd false) (lv []) c p [] :: fs) s₂) No s₁) No s) :
  Seg (Mo W) A R Y n s₀ c ((exec (.For target iter body [] pos) env).wrap K H gd lv) fs s := by
 show Seg _ A R Y n s₀ c (.at pos λ _ => (eval iter env >>= λ x₀ => (foldedSetIterable iter env x₀ >>= λ x => (standAt iter.pos >>= λ _ => (holding [x] (pyIter x) >>= λ it => runOwn (.forLoop target it body [] env) env)))).wrap K H gd lv) fs s
 refine seg_at ?_
 rw [dm, dT]
 refine iq (ay h (λ x s₁ h₁ => ?_) λ _ _ e => e.elim)
 rw [hs x]
 show Seg _ A R Y n s₀ c (.at iter.pos λ _ => (holding [x] (pyIter x) >>= λ it => runOwn (.forLoop target it body [] env) env).wrap K H gd lv) fs s₁
 refine seg_at ?_
 rw [dm, dT]
 refine iq (aO (ay h₁ (λ it s₂ h₂ => ?_) λ _ _ e => e.elim))
 exact seg_call h₂
end
section
variable {W : Wo} {A : Around} {E : Value -> Shared -> Prop} {s : Shared}
theorem xe {a : Addr} {g n : Nat} {gs : GenState} {P : Nat -> Shared -> Shared -> Prop} {Y : Protocol} {Q : Option Value -> Shared -> Prop} (hh : A.handled = none)
  (hl : s.heap.NoLimit) (hroom : A.depth < recursionLimit)
  (hg : s.heap.IsGen a g) (hgs : s.gens[g]? = some gs)
  (hgo : gs.Goes (Mo W) A.in1 (λ n s₀ r s₁ => r = .ok (.ret .none) /\ P n s₀ s₁) Y n (.send .none) (s.setGen g .running))
  (hY : ∀ v s₁ gs', gs'.bare = true -> Y (n - 1) (s.setGen g .running) v s₁ (λ r' s'' => match n with
    | 0 => False
    | m + 1 => gs'.Goes (Mo W) A.in1 (λ n s₀ r s₁ => r = .ok (.ret .none) /\ P n s₀ s₁) Y m r' s'') -> Q (some v) (s₁.setGen g gs'))
  (hP : ∀ s₁, P n (s.setGen g .running) s₁ -> ∀ h', (∀ b o, s₁.heap.get? b = some o -> h'.get? b = some o) -> Q none { s₁.setGen g .finished with heap := h' }) :
  wpAny (Mo W) A (pyNext (.ref a)) Q E s := by
 unfold pyNext
 refine aa (jE (f8 (name := c6 "__next__") hg.typeIs mE
  (iH mE hg.typeIs entry_gen_next ?_ (args_gen_next _))))
 show wpAny _ A.in1 (gu (.ref a) (.send .none)) _ _ s
 unfold gu
 refine aa (aO (wpAny_genNumber hg (aa (wpAny_genState hgs ?_))))
 cases gs with
 | running => exact hgo.elim
 | finished => exact hgo.elim
 | _ =>
  refine aa (wpAny_roomToWake hl hroom ?_)
  show wpAny _ A.in1 (.resume g (.send .none) [] _) _ _ s
  refine wpAny_resumeQ hgs hgo (λ x s₁ hx => ?_) (λ v s₁ gs' hb hv => ?_)
  ·obtain ⟨rfl, hp⟩ := hx
   show wpAny _ A.in1 (newExc (.type "StopIteration") [] >>= _) _ _ _
   refine aa ?_
   simp only [newExc, newTuple]
   refine aa (cq ?_ (by size_fits))
   refine aa (m := firstArgMember _ _) (dq (a := cS) (by first | rfl | (simp only [firstArgMember]; rfl)) ?_)
   refine cq ?_ (by size_fits)
   refine aa ?_
   delta raiseNew
   refine aa (jD ?_)
   first | rw [show A.in1.handled = none from hh] | rw [hh]
   refine iT ?_
   refine aa (eP (T := "StopIteration") (b := true) ⟨_, aJ _ rfl, rfl⟩ mq ?_)
   exact ai (hP s₁ hp _ λ b o hb => aj _ (aj _ hb))
  ·exact ai ⟨v, rfl, ai (hY v s₁ gs' hb hv)⟩
noncomputable def KG (N : Nat) (a : Addr) (s s' : Shared) : Prop := ∃ h' tk, s' = { s with heap := h', toks := tk } /\ ∀ b o, (b < N \/ b = a) -> s.heap.get? b = some o -> h'.get? b = some o
theorem KG.rfl {N : Nat} {a : Addr} : KG N a s s := ⟨s.heap, s.toks, _root_.rfl, λ _ _ _ e => e⟩
theorem KG.trans {N : Nat} {a : Addr} {s' s'' : Shared} (x : KG N a s s') (y : KG N a s' s'') : KG N a s s'' := by
 obtain ⟨h1, t1, rfl, k1⟩ := x
 obtain ⟨h2, t2, rfl, k2⟩ := y
 exact ⟨h2, t2, _root_.rfl, λ b o hb e => k2 b o hb (k1 b o hb e)⟩
noncomputable def GY (ts : List It) (N : Nat) (a Lc : Addr) : Protocol := λ n s₀ v s₁ kap => ∃ i b t k t1 t2, ts[ts.length - 1 - n]? = some (i, b) /\ v = .ref t /\ s₁.heap.get? t = some (tB [.int (-i) t1, .bytes b.toArray t2] k) /\ KG N a s₀ s₁ /\
 ∀ s'' : Shared, (∀ c o, c ≠ Lc -> s₁.heap.get? c = some o -> s''.heap.get? c = some o) -> kap (.send .none) s''
noncomputable def GR (N : Nat) (a : Addr) : GenEnd := λ n s₀ r s₁ => r = .ok (.ret .none) /\ n = 0 /\ KG N a s₀ s₁
noncomputable def EQ (W : Wo) (A : Around) (ts : List It) (N : Nat) (a Lc : Addr) (g : Nat) (j : Nat) (s : Shared) : Prop :=
 s.heap.IsGen a g /\ ∃ gs, s.gens[g]? = some gs /\ ∀ s'' : Shared, (∀ c o, c ≠ Lc -> s.heap.get? c = some o -> s''.heap.get? c = some o) -> gs.Goes (Mo W) A.in1 (GR N a) (GY ts N a Lc) (ts.length - j) (.send .none) s''
theorem EF {ts : List It} {N : Nat} {a Lc : Addr} {g j : Nat} {i : Int} {b : Bs} {Q : Option Value -> Shared -> Prop} (hh : A.handled = none) (hl : s.heap.NoLimit) (hroom : A.depth < recursionLimit) (St : EQ W A ts N a Lc g j s) (hj : ts[j]? = some (i, b))
  (hQ : ∀ (s' : Shared) t k t1 t2, s'.heap.get? t = some (tB [.int (-i) t1, .bytes b.toArray t2] k) -> (∀ c o, (c < N \/ c = a) -> s.heap.get? c = some o -> s'.heap.get? c = some o) -> s'.os = s.os -> s'.drawn = s.drawn -> ((∀ x ∈ s.gens, x.bare = true) -> ∀ x ∈ s'.gens, x.bare = true) -> EQ W A ts N a Lc g (j + 1) s' -> Q (some (.ref t)) s') :
  wpAny (Mo W) A (pyNext (.ref a)) Q E s := by
 obtain ⟨hg, gs, hgs, hgo⟩ := St
 have hlt : j < ts.length := by
  have := bH.mp hj
  exact this.1
 obtain ⟨m, hm⟩ : ∃ m, ts.length - j = m + 1 := ⟨ts.length - j - 1, (gS (km hlt)).symm⟩
 have hL : ts.length = j + (m + 1) := (Nat.sub_eq_iff_eq_add' (a5 hlt)).mp hm
 rw [hm] at hgo
 refine xe (P := λ n s₀ s₁ => n = 0 /\ KG N a s₀ s₁) hh hl hroom hg hgs (hgo _ λ _ _ _ e => e) (λ v s₁ gs' hbare hv => ?_) (λ s₁ hp h' hk => ?_)
 ·obtain ⟨i', b', t, k, t1, t2, hidx, rfl, ht, kg, hkap⟩ := hv
  have e1 : ts.length - 1 - (m + 1 - 1) = j := by rw [hL]; exact fu j m
  rw [e1, hj] at hidx
  cases hidx
  obtain ⟨h1, tk1, rfl, hk1⟩ := kg
  refine hQ _ t k t1 t2 ht (λ c o hc e => hk1 c o hc e) _root_.rfl _root_.rfl ?_ ⟨?_, gs', fT (gs := .running) (fT hgs), λ s'' hal => ?_⟩
  ·have : GenOnlyQ g s.gens (({ (s.setGen g .running) with heap := h1, toks := tk1 } : Shared).setGen g gs').gens := kR ((fZ s g .running).trans (fZ _ g gs')) (fT (gs := .running) (fT hgs)) hbare
   exact λ hb => this.bare hb
  ·refine mL λ gk => ?_
   obtain ⟨o, nm, qn, ho, r⟩ := hg
   refine gk ?_
   exact ⟨o, nm, qn, hk1 a o (.inr _root_.rfl) ho, r⟩
  ·have e2 : ts.length - (j + 1) = m := by rw [hL]; exact (Nat.add_sub_add_right (j + m) 1 j).trans (Nat.add_sub_cancel_left j m)
   rw [e2]
   exact hkap s'' hal
 ·exact absurd hp.1 (Nat.succ_ne_zero m)
theorem EH {ts : List It} {N : Nat} {a Lc : Addr} {g : Nat} {Q : Option Value -> Shared -> Prop} (hh : A.handled = none) (hl : s.heap.NoLimit) (hroom : A.depth < recursionLimit) (St : EQ W A ts N a Lc g ts.length s)
  (hQ : ∀ (s' : Shared), (∀ c o, (c < N \/ c = a) -> s.heap.get? c = some o -> s'.heap.get? c = some o) -> s'.os = s.os -> s'.drawn = s.drawn -> ((∀ x ∈ s.gens, x.bare = true) -> ∀ x ∈ s'.gens, x.bare = true) -> Q none s') :
  wpAny (Mo W) A (pyNext (.ref a)) Q E s := by
 refine mL λ gk => ?_
 obtain ⟨hg, gs, hgs, hgo⟩ := St
 refine gk ?_
 rw [jq] at hgo
 refine xe (P := λ n s₀ s₁ => n = 0 /\ KG N a s₀ s₁) hh hl hroom hg hgs (hgo _ λ _ _ _ e => e) (λ v s₁ gs' hbare hv => ?_) (λ s₁ hp h' hk => ?_)
 ·refine mL λ gk => ?_
  obtain ⟨i', b', t, k, t1, t2, hidx, rfl, ht, kg, hkap⟩ := hv
  refine gk ?_
  exact False.elim (hkap s₁ λ _ _ _ e => e)
 ·refine mL λ gk => ?_
  obtain ⟨_, h1, tk1, rfl, hk1⟩ := hp
  refine gk ?_
  refine hQ _ (λ c o hc e => hk c o (hk1 c o hc e)) _root_.rfl _root_.rfl ?_
  have : GenOnlyQ g s.gens (({ (s.setGen g .running) with heap := h1, toks := tk1 } : Shared).setGen g .finished).gens := kR ((fZ s g .running).trans (fZ _ g .finished)) (fT (gs := .running) (fT hgs)) _root_.rfl
  exact λ hb => this.bare hb
end
section
variable {W : Wo} {N : Addr} {mN : Str -> Option Value} {fi fa fg ft : Addr} {G : Fz} {A : Around} {s : Shared}
theorem rz {a b N : Addr} (h : a < N) (h' : N <= b) : a ≠ b := aE (aP h h')
theorem BH {env : Env} {x y : Str} {px py pt : Pos} {k : Nat} {t : Addr} {va vb : Value} {n : Nat} {m : Str -> Option Value} {Q : Unit -> Shared -> Prop} {E : Value -> Shared -> Prop} (hd : vh A s.heap) (hk : env.scope.kind = .function) (hx : env.kindOf x = some .local) (hy : env.kindOf y = some .local)
  (hns : s.heap.Ns env.locals m) (ht : s.heap.get? t = some (tB [va, vb] n))
  (hQ : ∀ h' tk, h'.Ns env.locals (λ u => if u = y then some vb else if u = x then some va else m u) -> (∀ b o, b ≠ env.locals -> s.heap.get? b = some o -> h'.get? b = some o) -> Q () { s with heap := h', toks := tk }) :
  wpAny (Mo W) A (assign (.Tuple [.Name x px, .Name y py] k pt) env (.ref t)) Q E s := by
 rw [gg]
 refine aa (aI (wI hd (oF ht) rfl rfl λ h₁ k₁ => ?_))
 show wpAny _ _ (assignInOrder [assign (.Name x px) env, assign (.Name y py) env] [va, vb]) _ _ _
 refine dg (cZ (cM hx (hns.keeps k₁) (λ h₂ hn₂ hs₂ => ?_) (by rw [hk]; rfl)))
 refine dg (cZ (cM hy hn₂ (λ h₃ hn₃ hs₃ => ?_) (by rw [hk]; rfl)))
 refine fV (hQ h₃ _ hn₃ λ b o hb e => ?_)
 exact hs₃.extBut b o hb (hs₂.extBut b o hb (k₁ b o e))
theorem IP {env : Env} {ts : List It} {vs : List Value} {nl : Nat} {N a Lc L : Addr} {kf : Result -> Sem Fin} {g : Bool} {l : List Value} {c : Code} {p : Pos} {P : Nat -> Pos} (hh : A.handled = none) (hk : env.scope.kind = .function) (hco : env.scope.isCoroutine = false) (hi : interactive env = false) (kpr : env.kindOf "pr" = some .local) (kcm : env.kindOf "cmt" = some .local)
  (hvs : nG W G (ts.map rn) vs) (gN : ∀ b o, G b = some o -> b < N /\ b ≠ Lc) (hLN : L < N) (hLc : L ≠ Lc) (hloc : N <= env.locals) (hla : env.locals ≠ a) (hcN : Lc < N) (hg : g = false)
  (hend : ∀ s₀ s, KG N a s₀ s -> Seg (Mo W) A (GR N a) (GY ts N a Lc) 0 s₀ c (kf (.ok .next)) [] s) :
  ∀ n j (s₀ s : Shared) (I : Addr) (m : Str -> Option Value), n + j = ts.length -> KG N a s₀ s -> N <= I -> I ≠ a -> I ≠ env.locals -> s.heap.IsListIter I L j -> s.heap.get? L = some (lObj vs nl) -> G.sub s.heap -> s.heap.Ns env.locals m ->
   Seg (Mo W) A (GR N a) (GY ts N a Lc) n s₀ (.forLoop (.Tuple [.Name "pr" (P 1), .Name "cmt" (P 2)] 0 (P 3)) (.ref I) (zo P) [] env) ((Mo W).den (.forLoop (.Tuple [.Name "pr" (P 1), .Name "cmt" (P 2)] 0 (P 3)) (.ref I) (zo P) [] env)) [.ret kf none g l c p []] s := by
 intro n
 induction n with
 | zero =>
  intro j s₀ s I m hj kg hNI hIa hIl hit hLo sub hns
  refine vT (ki (by exact hh) hit (mP hLo) ?_ λ h' he => ?_)
  ·have := hvs.length
   simp only [am] at this
   simp only [aY]
   exact bn (by omega)
  ·refine seg_again rfl (Ez ?_)
   show Seg _ _ _ _ _ _ _ (leafOf (.ok .next)) _ _
   refine seg_leaf _ (hend _ _ (kg.trans ⟨h', s.toks, rfl, λ b o hb e => he b o (λ h => ?_) e⟩))
   subst h
   rcases hb with hb | hb
   ·exact rz hb hNI rfl
   ·exact hIa hb
 | succ n ih =>
  intro j s₀ s I m hj kg hNI hIa hIl hit hLo sub hns
  have hlt : j < ts.length := by omega
  obtain ⟨v, hv, hp⟩ := hvs.get (i := j) (p := rn ts[j]) (by simp [hlt])
  refine vT (jV hit (mP hLo) (by simpa using hv) λ h' hit' hs' => ?_)
  have k1 : ∀ b o, b ≠ I -> s.heap.get? b = some o -> h'.get? b = some o := λ b o hb e => hs'.extBut b o hb e
  obtain ⟨o', ho', hc', hd'⟩ := id hit'
  refine wU ho' hc' hd' (by decide) ?_
  refine mL λ gk => ?_
  obtain ⟨t, xs, nt, rfl, gt, ⟨v1, r1, rfl, ⟨t1, rfl⟩, v2, r2, rfl, ⟨t2, rfl⟩, hnil⟩, _⟩ := hp
  cases (show _ = _ from hnil)
  refine gk ?_
  have hto := sub _ _ gt
  have neI : ∀ b, b < N -> b ≠ I := λ b hb => rz hb hNI
  have htN := (gN _ _ gt).1
  refine BH (s := { s with heap := h' }) (.inl (by exact hh)) hk kpr kcm (hns.at' λ o e => k1 _ o (Ne.symm hIl) e) (k1 _ _ (neI _ htN) hto) λ h₂ tk₂ hns₂ k₂ => ?_
  refine mm ?_
  have sub₂ : G.sub h₂ := λ b o e => by
   have := (gN b o e).1
   exact k₂ b o (rz this hloc) (k1 b o (neI b this) (sub b o e))
  have kg₂ : KG N a s₀ { s with heap := h₂, toks := tk₂ } := kg.trans ⟨h₂, tk₂, rfl, λ b o hb e => by
   have h1 : b ≠ I := by rcases hb with hb | hb; exact neI b hb; rw [hb]; exact Ne.symm hIa
   have h2 : b ≠ env.locals := by rcases hb with hb | hb; exact rz hb hloc; rw [hb]; exact Ne.symm hla
   exact k₂ b o h2 (k1 b o h1 e)⟩
  have hLo₂ : h₂.get? L = some (lObj vs nl) := k₂ L _ (rz hLN hloc) (k1 L _ (neI L hLN) hLo)
  have hit₂ : h₂.IsListIter I L (j + 1) := by
   obtain ⟨oi, hoi, r⟩ := hit'
   exact ⟨oi, k₂ I oi hIl hoi, r⟩
  refine seg_Expr_Yield (by rfl) (by rfl) (by subst hg; rfl) ?_ (by exact hco) (by exact hi)
  refine By (W := W) (G := G) hk kpr kcm (by decide) (by decide) hns₂ (i := (ts[j]).1) (t1 := t1) (b := (ts[j]).2) (t2 := t2) ?_ ?_ sub₂ λ vr s₅ q => ?_
  ·show (if ("pr" : Str) = "cmt" then _ else if ("pr" : Str) = "pr" then _ else _) = _
   rw [if_neg (by decide), if_pos rfl]
  ·show (if ("cmt" : Str) = "cmt" then _ else _) = _
   rw [if_pos rfl]
  ·intro kap hkap
   obtain ⟨k₅, G₅, u₅, t5, xs5, n5, rfl, g5, ⟨v51, r51, rfl, ⟨t51, rfl⟩, v52, r52, rfl, ⟨t52, rfl⟩, hnil5⟩, _⟩ := q
   cases (show _ = _ from hnil5)
   obtain ⟨h5, tk5, e5, kk5⟩ := k₅
   subst e5
   refine ⟨(ts[j]).1, (ts[j]).2, t5, n5, t51, t52, ?_, rfl, u₅.sub _ _ g5, kg₂.trans ⟨h5, tk5, rfl, λ b o _ e => kk5 b o e⟩, λ s'' hs'' => hkap _ _ ?_⟩
   ·have e1 : ts.length - 1 - n = j := by omega
    rw [e1]
    exact aF hlt
   ·show Seg _ _ _ _ _ _ _ (.pure (.again _)) _ _
    have cN : ∀ b, N <= b -> b ≠ Lc := λ b hb => Ne.symm (rz hcN hb)
    refine seg_again rfl (ih (j + 1) s'' s'' I _ (by omega) KG.rfl hNI hIa hIl ?_ (hs'' _ _ hLc (kk5 _ _ hLo₂)) (λ b o e => hs'' b o (gN b o e).2 (kk5 b o (sub₂ b o e))) (hns₂.at' λ o e => hs'' _ _ (cN _ hloc) (kk5 _ _ e)))
    obtain ⟨oi, hoi, r⟩ := hit₂
    exact ⟨oi, hs'' _ _ (cN _ hNI) (kk5 _ _ hoi), r⟩
end
section
variable {W : Wo} {N : Addr} {mN : Str -> Option Value} {fi fa fg ft : Addr} {G : Fz} {A : Around} {s : Shared}
theorem Kk (K : LB W N mN fi fa fg ft) {fd : FuncData} {P : Nat -> Pos} (F : sC W ft ["self"] vc true (wS P) fd)
  (hroom : A.depth < recursionLimit) (hst : W.h₀.StaysIn s.heap) (hlim : W.h₀.NoLimit) (sub : G.sub s.heap) {l : List It} {v : Value} {L Lc : Addr} (w : xP W G s.heap l v L) (hc0 : W.h₀.get? Lc = none) (hcG : G Lc = none) (hcA : ∃ o, s.heap.get? Lc = some o) (hcL : L ≠ Lc)
  {A' : Around} (hh' : A'.handled = none) {Q : Value -> Shared -> Prop} {E : Value -> Shared -> Prop}
  (hQ : ∀ (s' : Shared) a ts, (∀ b o, s.heap.get? b = some o -> s'.heap.get? b = some o) -> s'.os = s.os -> s'.drawn = s.drawn -> ((∀ x ∈ s.gens, x.bare = true) -> ∀ x ∈ s'.gens, x.bare = true) -> s.heap.objs.size < a -> ts.Perm l -> EQ W A' ts s.heap.objs.size a Lc s.gens.size 0 s' -> Q (.ref a) s') :
  wpAny (Mo W) A (call (.ref ft) [v]) Q E s := by
 refine mL λ gk => ?_
 obtain ⟨o, ho, hc, hd⟩ := F.there
 obtain ⟨x, dx, ox, od, ts, vs, n, e1, e3, e4, e5, e6, hLo, hvs, hhp, hperm, hsw⟩ := id w
 refine gk ?_
 refine fG (codeAny_call_generator hroom (hst _ _ ho) hd F.co F.gen F.body (F.code.keeps hst) ?_)
 rw [F.bind [v] rfl]
 have hnm := F.names
 refine ai (dR (λ x hx => by rw [hnm] at hx; revert x; decide) (λ x hx => ?_) (λ h' hns hsb => ?_) F.kind)
 ·simp only [jQ, List.zip_nil_right, ag, a9, or_false] at hx
  subst hx
  rw [hnm]; rfl
 have k1 : ∀ b o, s.heap.get? b = some o -> h'.get? b = some o := λ b o e => hsb.extBut b o (aE (aR e)) (aj _ e)
 have hsz : h'.objs.size = s.heap.objs.size + 1 := by rw [hsb.1, du]
 refine ⟨hlim.keeps λ b o e => k1 b o (hst b o e), hQ _ h'.objs.size ts (λ b o e => aj _ (k1 b o e)) rfl rfl (λ hb x hx => ?_) (by rw [hsz]; exact de _) hperm ?_⟩
 ·simp only [Array.mem_push] at hx
  rcases hx with hx | rfl
  ·exact hb x hx
  ·rfl
 ·refine ⟨⟨_, _, _, aJ _ rfl, rfl, rfl, rfl⟩, _, Array.getElem?_push_size .., λ s'' hk'' => ⟨rfl, ?_⟩⟩
  have k2 : ∀ b o, b ≠ Lc -> s.heap.get? b = some o -> s''.heap.get? b = some o := λ b o hb e => hk'' b o hb (aj _ (k1 b o e))
  have hst'' : W.h₀.StaysIn s''.heap := λ b o e => k2 b o (by rintro rfl; rw [hc0] at e; cases e) (hst b o e)
  have sub'' : G.sub s''.heap := λ b o e => k2 b o (by rintro rfl; rw [hcG] at e; cases e) (sub b o e)
  have W'' : xP W G s''.heap l v L := w.keep (λ o e => k2 L o hcL e) Fz.le.rfl
  have hns'' : s''.heap.Ns s.heap.objs.size (λ x => ((["self"] : List Str).zip [v]).reverse.lookup x) := by
   refine hns.at' λ o e => hk'' _ o ?_ (aj _ e)
   obtain ⟨oc, hoc⟩ := hcA
   exact Ne.symm (aE (aR hoc))
  have hLN : L < s.heap.objs.size := aR hLo
  have hcN : Lc < s.heap.objs.size := (by obtain ⟨oc, hoc⟩ := hcA; exact aR hoc)
  refine seg_func (mm (Kb (λ x => rfl) ?_))
  refine jx (b8 (ba F.kind (show fd.scope.names.lookup ("self" : Str) = some NameKind.local by rw [hnm]; rfl) hns'' (show _ = some v from rfl) ?_) (by decide))
  refine zu K hst'' sub'' W'' ?_
  refine eF (mP (k2 _ _ hcL hLo)) λ p => ?_
  have k3 : ∀ b o, b ≠ Lc -> s.heap.get? b = some o -> (s''.heap.push { cls := .type "list_iterator", data := .fields #[.ref L, .int 0 0] }).get? b = some o := λ b o hb e => aj _ (k2 b o hb e)
  have nd : ∀ b o, b ≠ Lc -> (h'.push { cls := .type "generator", data := .fields #[.int s.gens.size 0, .str fd.name (s.toks + 1), .str fd.qualname (s.toks + 1 + 1)] }).get? b = some o -> b ≠ s''.heap.objs.size := λ b o hb e => aE (aR (hk'' b o hb e))
  have eloc : ∃ o, h'.get? s.heap.objs.size = some o := by obtain ⟨o, _, _, ho, _⟩ := hns; exact ⟨o, ho⟩
  obtain ⟨ol, hol⟩ := eloc
  have nloc : s.heap.objs.size ≠ Lc := Ne.symm (aE hcN)
  have kpr : fd.scope.names.lookup ("pr" : Str) = some NameKind.local := by rw [hnm]; rfl
  have kcm : fd.scope.names.lookup ("cmt" : Str) = some NameKind.local := by rw [hnm]; rfl
  refine IP (W := W) (G := G) (vs := vs) (nl := n) (L := L) (by exact hh') (by exact F.kind) (by exact F.co) ?_ (by exact kpr) (by exact kcm) hvs (λ b o e => ⟨aR (sub b o e), by rintro rfl; rw [hcG] at e; cases e⟩) hLN hcL (aQ _) (by show s.heap.objs.size ≠ h'.objs.size; rw [hsz]; exact (fP _).symm) hcN rfl ?_ _ 0 _ _ s''.heap.objs.size _ (by lia) ⟨_, _, rfl, λ b o hb e => aj _ e⟩ ?_ ?_ ?_ ⟨_, aJ _ rfl, rfl, rfl⟩ (k3 _ _ hcL hLo) (λ b o e => aj _ (sub'' b o e)) (hns''.at' λ o e => aj _ e)
  ·unfold interactive
   show (fd.scope.kind == .module && _) = false
   rw [F.kind]; rfl
  ·intro s₀ s₁ kg
   show Seg _ _ _ _ _ _ _ (leafOf (.ok (.ret .none))) _ _
   exact seg_end _ ⟨rfl, rfl, kg⟩
  ·exact a5 (aR (hk'' _ _ nloc (aj _ hol)))
  ·exact Ne.symm (nd _ _ (Ne.symm (aE (by rw [hsz]; exact aL hcN))) (aJ _ rfl))
  ·exact Ne.symm (nd _ _ nloc (aj _ hol))
end
noncomputable abbrev qW : List (Str × NameKind) := [("wlst", .local), ("cstates", .local), ("dt", .local), ("cmt", .local), ("_DNC", .free)]
noncomputable abbrev ON (P : Nat -> Pos) : Expr := .Compare (.Name "cmt" (P 0)) [.In] [.Name "cstates" (P 1)] (P 2)
noncomputable abbrev NE (P : Nat -> Pos) : Expr := .UnaryOp .Not (.Compare (.BinOp (.Subscript (.Name "cstates" (P 3)) (.Name "cmt" (P 4)) (P 5)) .BitAnd (.Name "_DNC" (P 6)) (P 7)) [.Eq] [.Name "_DNC" (P 8)] (P 9)) (P 10)
noncomputable abbrev Nb (P : Nat -> Pos) (c1 : Nat) : List Stmt := [.If (ON P) [.If (NE P) [.Return (some (.Constant (.bool true) c1 (P 11))) (P 12)] [] (P 13)] [] (P 14)]
noncomputable abbrev Hv (P : Nat -> Pos) (kt : Nat) : Expr := .Tuple [.Name "dt" (P 15), .Name "cmt" (P 16)] kt (P 17)
noncomputable abbrev Mi (P : Nat -> Pos) (kt c1 c2 : Nat) : List Stmt := [.For (Hv P kt) (.Call (.Attribute (.Name "wlst" (P 18)) "iter" (P 19)) [] [] (P 20)) (Nb P c1) [] (P 21), .Return (some (.Constant (.bool false) c2 (P 22))) (P 23)]
noncomputable def OZ : Ky := { sc := qW, ow := ["cstates"], k := 1, exn := false }
noncomputable def Mq (l : List (Bs × PV)) (b : Bs) : En := [("cstates", some (.dict l)), ("cmt", some (.bytes b)), ("_DNC", some (.int 4))]
noncomputable def Bv (l : List (Bs × PV)) (x : It) : Bool := match pj l x.2 with | some (.int i) => !(cD i 4 == 4) | _ => false
theorem N7 {l : List (Bs × PV)} {b : Bs} {i : Int} (h : pj l b = some (.int i)) (P : Nat -> Pos) : Tr OZ (Mq l b) (NE P) (!(cD i 4 == 4)) :=
 pc (mM (mJ (B6 (λ _ _ => rfl) (λ _ => rfl) (ng rfl rfl rfl) (ng rfl rfl rfl) (ze h)) (ng rfl rfl rfl) za) (ng rfl rfl rfl) (oR (.int _ _)))
section
variable {W : Wo} {A : Around} {s s₁ : Shared}
theorem Cq {env : Env} {x y : Str} {px py pos : Pos} {d : Addr} {us : List (Bs × Value)} {l : List (Bs × PV)} {b : Bs} {t : Tok} {G : Fz} {m : Str -> Option Value} {Q : Bool -> Shared -> Prop} {E : Value -> Shared -> Prop} (hk : env.scope.kind = .function) (kx : env.kindOf x = some .local) (ky : env.kindOf y = some .local) (dx : (x == ("__debug__" : Str)) = false) (dy : (y == ("__debug__" : Str)) = false)
  (hns : s.heap.Ns env.locals m) (mx : m x = some (.bytes b.toArray t)) (my : m y = some (.ref d)) (hd : s.heap.DictOf (bK W) d us) (hkeys : us.map (·.1) = l.map (·.1)) (hr : nG W G (l.map (·.2)) (us.map (·.2))) (hds : (d == sysModules) = false)
  (hQ : Q (pj l b).isSome { s with toks := s.toks + 1 }) : wpAny (Mo W) A (isTrue (.Compare (.Name x px) [.In] [.Name y py] pos) env (eval (.Compare (.Name x px) [.In] [.Name y py] pos) env)) Q E s := by
 refine wpAny_isTrue_Compare1 (b8 (ba hk kx hns mx (b8 (ba hk ky hns my ?_) dy)) dx)
 refine wpAny_in_of (knd := bK W) (k := b) (show isBytes b (.bytes b.toArray t) = true by simp [isBytes]) hds hd.mapOf ?_
 have e : (valueAt us b).isSome = (pj l b).isSome := by
  have := tw hkeys hr b
  rw [oO]
  unfold pj
  cases hl : l.lookup b with
  | none => rw [hl] at this; rw [this]; rfl
  | some p =>
   rw [hl] at this
   obtain ⟨v, h1, h2⟩ := this
   rw [h1]; rfl
 rw [e]
 exact dq (by rfl) hQ
structure ye (W : Wo) (cell : Addr) (env : Env) : Prop where
 kind : env.scope.kind = .function
 names : env.scope.names = qW
 glob : env.globals = W.gl
 built : env.builtins = W.bi
 cells : env.cells = [(("_DNC" : Str), cell)]
theorem ye.kn {cell : Addr} {env : Env} (H : ye W cell env) (x : Str) : env.kindOf x = qW.lookup x := by show env.scope.names.lookup x = _; rw [H.names]
theorem K0 {x : Str} (h : qW.lookup x = some .cell \/ qW.lookup x = some .free) : x = "_DNC" := by
 have hm : ∀ y ∈ qW, (y.2 = .cell \/ y.2 = .free) -> y.1 = "_DNC" := by decide
 rcases h with h | h
 ·exact hm _ (m7 h) (.inl rfl)
 ·exact hm _ (m7 h) (.inr rfl)
theorem IB : ∀ y ∈ qW, (y.1 == ("__debug__" : Str)) = false /\ y.2 ≠ .globalImplicit := by decide
noncomputable def Oo {cell : Addr} {env : Env} (hw : Hw W) (H : ye W cell env) (ok : A.handled = none /\ A.depth + 1 <= 900 /\ A.units + 8 * 1 <= 9000) : Cf OZ where
 W := W
 env := env
 A := A
 hw := hw
 kind := H.kind
 hgl := H.glob
 hbi := H.built
 hd := λ _ => ok.1
 dep := ok.2.1
 uni := ok.2.2
 dbg := λ x k hx => (IB _ (m7 hx)).1
 glk := λ x hx => absurd rfl (IB _ (m7 hx)).2
 cls := λ x hx => by
  cases K0 hx
  exact ⟨⟨cell, by rw [H.cells]; rfl⟩, .inr ⟨(H.kn _).trans (by decide), by decide⟩⟩
theorem Ou {cell d : Addr} {env : Env} {G : Fz} {l : List (Bs × PV)} {us : List (Bs × Value)} {b : Bs} {t t4 : Tok} {m : Str -> Option Value} (hw : Hw W) (H : ye W cell env) (ok : A.handled = none /\ A.depth + 1 <= 900 /\ A.units + 8 * 1 <= 9000) (hst : W.h₀.StaysIn s.heap) (sub : G.sub s.heap) (hns : s.heap.Ns env.locals m) (mc : m "cmt" = some (.bytes b.toArray t)) (md : m "cstates" = some (.ref d)) (hd : s.heap.DictOf (bK W) d us) (hkeys : us.map (·.1) = l.map (·.1)) (hr : nG W G (l.map (·.2)) (us.map (·.2))) (hcap : us.length <= cap) (hG : G d = none) (hcell : s.heap.IsCell cell (some (.int 4 t4))) :
  ES (Oo hw H ok) (Mq l b) G s where
 base := hst
 sub := sub
 var := λ x pv hx hr' hv => by
  unfold En.get Mq at hr'
  rw [au] at hr'
  split at hr'
  ·rename_i e
   cases be e
   cases hr'
   exact ⟨.ref d, .inl ⟨(H.kn _).trans (by decide), m, hns, md⟩, .inr ⟨d, rfl, hG, us, hd, hkeys, hr, hcap⟩⟩
  ·rw [au] at hr'
   split at hr'
   ·rename_i e
    cases be e
    cases hr'
    exact ⟨_, .inl ⟨(H.kn _).trans (by decide), m, hns, mc⟩, t, rfl⟩
   ·rw [au] at hr'
    split at hr'
    ·rename_i e
     cases be e
     cases hr'
     exact ⟨_, .inr ⟨.inr ⟨(H.kn _).trans (by decide), by decide⟩, cell, by show env.cells.lookup _ = _; rw [H.cells]; rfl, hcell⟩, t4, rfl⟩
    ·cases hr'
end
section
variable {W : Wo} {A : Around} {s s₁ : Shared} {k : Nat}
structure HP (N L : Addr) (s₁ s : Shared) : Prop where
 kept : ∀ b o, b < N -> b ≠ L -> s₁.heap.get? b = some o -> s.heap.get? b = some o
 os : s.os = s₁.os
 drawn : s.drawn = s₁.drawn
 bare : (∀ x ∈ s₁.gens, x.bare = true) -> ∀ x ∈ s.gens, x.bare = true
structure HI (W : Wo) (A : Around) (ts : List It) (N a L d : Addr) (g j : Nat) (s₁ s : Shared) (m : Str -> Option Value) : Prop extends HP N L s₁ s where
 ns : s.heap.Ns L m
 cs : m "cstates" = some (.ref d)
 gen : EQ W A ts N a L g j s
theorem Kl {cell d N a : Addr} {env : Env} {G : Fz} {l : List (Bs × PV)} {us : List (Bs × Value)} {ts : List It} {g : Nat} {t4 : Tok} {P : Nat -> Pos} {kt c1 : Nat} (H : ye W cell env) (hw : Hw W) (hst : W.h₀.StaysIn s₁.heap) (h0N : ∀ b o, W.h₀.get? b = some o -> b < N /\ b ≠ env.locals) (hlim : W.h₀.NoLimit) (sub : G.sub s₁.heap) (gN : ∀ b o, G b = some o -> b < N /\ b ≠ env.locals)
  (hd : s₁.heap.DictOf (bK W) d us) (hdN : d < N) (hdL : d ≠ env.locals) (hkeys : us.map (·.1) = l.map (·.1)) (hr : nG W G (l.map (·.2)) (us.map (·.2))) (hcap : us.length <= cap) (hG : G d = none) (hcell : s₁.heap.IsCell cell (some (.int 4 t4))) (hcN : cell < N) (hcL : cell ≠ env.locals) (hds : (d == sysModules) = false) (hint : ∀ b p, l.lookup b = some p -> ∃ i, p = .int i)
  (haN : N < a) (hLN : env.locals < N) (hok : ∀ h m, (∀ b o, b < N -> b ≠ env.locals -> s₁.heap.get? b = some o -> h.get? b = some o) -> h.Ns env.locals m -> Ok W.h₀ A h 1) :
  ∀ n j (s : Shared) (m : Str -> Option Value), n + j = ts.length -> HI W A ts N a env.locals d g j s₁ s m ->
   codeAny (Mo W) A (.forLoop (Hv P kt) (.ref a) (Nb P c1) [] env) (λ r s' => match r with | .ok f => f = (if (ts.drop j).any (Bv l) then .ret (.bool true) else .next) /\ HP N env.locals s₁ s' | .error _ => False) s := by
 intro n
 induction n with
 | zero =>
  intro j s m hj I
  have hj : j = ts.length := by lia
  subst hj
  have ok := hok _ _ I.kept I.ns
  refine uy (EH ok.hd (hlim.keeps ok.base) ok.room I.gen λ s' k1 k2 k3 k4 => ⟨?_, λ b o hb hL e => k1 b o (.inl hb) (I.kept b o hb hL e), k2.trans I.os, k3.trans I.drawn, λ x => k4 (I.bare x)⟩)
  rw [List.drop_length]; rfl
 | succ n ih =>
  intro j s m hj I
  have ok := hok _ _ I.kept I.ns
  have hlt : j < ts.length := by omega
  have ea : a ≠ env.locals := λ h => by rw [h] at haN; exact absurd (aH haN hLN) (gP _)
  refine uy (EF (i := ts[j].1) (b := ts[j].2) ok.hd (hlim.keeps ok.base) ok.room I.gen (aF hlt) λ s₂ t kk t1 t2 ht k2 e1 e2 hb2 St2 => ?_)
  refine mL λ gk => ?_
  obtain ⟨og, nm, qn, hog, hcg, hdg, _⟩ := St2.1
  refine gk ?_
  refine wU hog hcg hdg (by decide) ?_
  have kdt : env.kindOf "dt" = some .local := (H.kn _).trans (by decide)
  have kcm : env.kindOf "cmt" = some .local := (H.kn _).trans (by decide)
  have kcs : env.kindOf "cstates" = some .local := (H.kn _).trans (by decide)
  refine BH (.inl ok.hd) H.kind kdt kcm (I.ns.at' λ o e => k2 _ o (.inl hLN) e) ht λ h₃ tk₃ hns₃ k₃ => ?_
  have kept₃ : ∀ b o, b < N -> b ≠ env.locals -> s₁.heap.get? b = some o -> h₃.get? b = some o := λ b o hb hL e => k₃ b o hL (k2 b o (.inl hb) (I.kept b o hb hL e))
  have hd₃ : h₃.DictOf (bK W) d us := by
   refine mL λ gk => ?_
   obtain ⟨o, es, ep, ho, rest⟩ := hd
   refine gk ?_
   exact ⟨o, es, ep, kept₃ d o hdN hdL ho, rest⟩
  have hcell₃ : h₃.IsCell cell (some (.int 4 t4)) := by
   refine mL λ gk => ?_
   obtain ⟨o, ho, r⟩ := hcell
   refine gk ?_
   exact ⟨o, kept₃ _ _ hcN hcL ho, r⟩
  have St3 : EQ W A ts N a env.locals g (j + 1) { s₂ with heap := h₃, toks := tk₃ } := by
   refine mL λ gk => ?_
   obtain ⟨q1, gs, q2, q3⟩ := St2
   obtain ⟨o, nm, qn, ho, r⟩ := q1
   refine gk ?_
   exact ⟨⟨o, nm, qn, k₃ _ _ ea ho, r⟩, gs, q2, λ s'' hk => q3 s'' λ c o hc e => hk c o hc (k₃ c o hc e)⟩
  have mcs₃ : (λ u => if u = ("cmt" : Str) then some (c5 ts[j].2.toArray t2) else if u = ("dt" : Str) then some (eU (-ts[j].1) t1) else m u) "cstates" = some (.ref d) := by
   show (if ("cstates" : Str) = "cmt" then _ else if ("cstates" : Str) = "dt" then _ else _) = _
   rw [if_neg (by decide), if_neg (by decide)]; exact I.cs
  have mcm₃ : (λ u => if u = ("cmt" : Str) then some (c5 ts[j].2.toArray t2) else if u = ("dt" : Str) then some (eU (-ts[j].1) t1) else m u) "cmt" = some (c5 ts[j].2.toArray t2) := by
   show (if ("cmt" : Str) = "cmt" then _ else _) = _
   rw [if_pos rfl]
  have hdrop : (ts.drop j).any (Bv l) = (Bv l ts[j] || (ts.drop (j + 1)).any (Bv l)) := by
   rw [iO hlt]; rfl
  have next : ∀ s₄ : Shared, Bv l ts[j] = false -> Keeps { s₂ with heap := h₃, toks := tk₃ } s₄ -> codeAny (Mo W) A (.forLoop (Hv P kt) (.ref a) (Nb P c1) [] env) (λ r s' => match r with | .ok f => f = (if (ts.drop j).any (Bv l) then .ret (.bool true) else .next) /\ HP N env.locals s₁ s' | .error _ => False) s₄ := λ s₄ hf k₄ => by
   rw [hdrop, hf, b7]
   refine mL λ gk => ?_
   obtain ⟨h4, tk4, rfl, kk4⟩ := k₄
   refine gk ?_
   refine ih (j + 1) _ _ (by lia) ⟨⟨λ b o hb hL e => kk4 b o (kept₃ b o hb hL e), e1.trans I.os, e2.trans I.drawn, λ x => hb2 (I.bare x)⟩, hns₃.at' λ o e => kk4 _ o e, mcs₃, ?_⟩
   refine mL λ gk => ?_
   obtain ⟨⟨o, nm, qn, ho, r⟩, gs, q2, q3⟩ := St3
   refine gk ?_
   exact ⟨⟨o, nm, qn, kk4 _ _ ho, r⟩, gs, q2, λ s'' hk => q3 s'' λ c o hc e => hk c o hc (kk4 c o e)⟩
  refine ay (E := No) ?_ (λ _ _ h => h) λ _ _ e => e.elim
  refine bx (jm (Cq (l := l) (G := G) (b := ts[j].2) (t := t2) (d := d) (us := us) H.kind kcm kcs (by decide) (by decide) hns₃ mcm₃ mcs₃ hd₃ hkeys hr hds ?_))
  cases hg : pj l ts[j].2 with
  | none =>
   rw [if_neg (show ¬(none : Option PV).isSome = true from e9)]
   refine bY (bY (next _ ?_ (rE _)))
   unfold Bv; rw [hg]
  | some pv =>
   simp only [Option.isSome_some, if_true]
   refine mL λ gk => ?_
   obtain ⟨i', rfl⟩ : ∃ i', pv = .int i' := by
    exact hint _ _ hg
   refine gk ?_
   have hp : Bv l ts[j] = !(cD i' 4 == 4) := by unfold Bv; rw [hg]
   have ok₃ : Ok W.h₀ A (lu { s₂ with heap := h₃, toks := tk₃ + 1 }) 1 := hok _ _ kept₃ hns₃
   have sub₃ : G.sub (lu { s₂ with heap := h₃, toks := tk₃ + 1 }) := λ b o e => kept₃ b o (gN b o e).1 (gN b o e).2 (sub b o e)
   have T := N7 hg P (Oo hw H ⟨ok₃.hd, ok₃.depth, ok₃.units⟩) G { s₂ with heap := h₃, toks := tk₃ + 1 } (Ou hw H ⟨ok₃.hd, ok₃.depth, ok₃.units⟩ ok₃.base sub₃ hns₃ mcm₃ mcs₃ hd₃ hkeys hr hcap hG hcell₃)
   refine bx (jm (ay T (λ r s₄ q => ?_) λ _ _ e => e))
   obtain ⟨rfl, G₄, ⟨k₄, _⟩⟩ := q
   rw [<- hp]
   cases hq : Bv l ts[j] with
   | false =>
    simp only [bB, if_false]
    exact bY (bY (bY (next s₄ hq (rf (rE _) k₄))))
   | true =>
    simp only [if_true]
    refine bx (cK (kW ⟨?_, ?_⟩))
    ·rw [hdrop, hq]; rfl
    ·obtain ⟨h4, tk4, rfl, kk4⟩ := k₄
     exact ⟨λ b o hb hL e => kk4 b o (kept₃ b o hb hL e), e1.trans I.os, e2.trans I.drawn, λ x => hb2 (I.bare x)⟩
end
structure O1 (W : Wo) (fd : FuncData) (cell : Addr) : Prop where
 body : ∃ P kt c1 c2, ((P 19).endLine == (P 20).line) = true /\ fd.body = .stmts (Mi P kt c1 c2)
 clos : fd.closure = [(("_DNC" : Str), cell)]
 gl : fd.globals = W.gl
 bi : fd.builtins = W.bi
 kind : fd.scope.kind = .function
 co : fd.scope.isCoroutine = false
 gen : fd.scope.isGenerator = false
 names : fd.scope.names = qW
 bind : ∀ u v : Value, bindArgs fd ⟨[u, v], []⟩ = pure [(("wlst" : Str), u), (("cstates" : Str), v)]
section
variable {W : Wo} {N : Addr} {mN : Str -> Option Value} {fi fa fg ft : Addr} {G : Fz} {A : Around} {s : Shared} {k : Nat}
theorem Kw (K : LB W N mN fi fa fg ft) {fdi fd : FuncData} {p : Nat -> Pos} (Fit : sC W ft ["self"] vc true (wS p) fdi)
  (hw : Hw W) {cell f : Addr} {of : Obj} (HF : O1 W fd cell) (ok : Ok W.h₀ A s.heap 2) (hof : s.heap.get? f = some of) (hdat : of.data = .func fd) (hcd : s.heap.CodeRec fd.code fd.qualname) (hlim : W.h₀.NoLimit) (sub : G.sub s.heap)
  {l : List It} {v : Value} {L d : Addr} {dl : List (Bs × PV)} {us : List (Bs × Value)} {t4 : Tok} (w : xP W G s.heap l v L) (hd : s.heap.DictOf (bK W) d us) (hkeys : us.map (·.1) = dl.map (·.1)) (hr : nG W G (dl.map (·.2)) (us.map (·.2))) (hcap : us.length <= cap) (hG : G d = none) (hcell : s.heap.IsCell cell (some (.int 4 t4)))
  (hds : (d == sysModules) = false) (hint : ∀ b p, dl.lookup b = some p -> ∃ i, p = .int i) :
  wpAny (Mo W) A (call (.ref f) [v, .ref d]) (λ r s' => r = .bool (l.any (Bv dl)) /\ (∀ b o, s.heap.get? b = some o -> s'.heap.get? b = some o) /\ s'.os = s.os /\ s'.drawn = s.drawn /\ ((∀ x ∈ s.gens, x.bare = true) -> ∀ x ∈ s'.gens, x.bare = true)) No s := by
 refine mL λ gk => ?_
 obtain ⟨P, kt, c1, c2, hline, hbody⟩ := HF.body
 obtain ⟨x, dx, ox, od, ts₀, vs, n, e1, e3, e4, e5, e6, hLo, hvs, hhp, hperm, hsw⟩ := id w
 refine gk ?_
 refine fG (gJ ok.room hof hdat HF.co HF.gen hbody hcd ?_)
 rw [HF.bind]
 have hnm := HF.names
 refine ai (dR (λ x hx => by rw [hnm] at hx; revert x; decide) (λ x hx => ?_) (λ h' hns hsb => ?_) HF.kind)
 ·simp only [ag, a9, or_false] at hx
  rcases hx with rfl | rfl <;> rw [hnm] <;> rfl
 have k1 : ∀ b o, s.heap.get? b = some o -> h'.get? b = some o := λ b o e => hsb.extBut b o (aE (aR e)) (aj _ e)
 have hsz : h'.objs.size = s.heap.objs.size + 1 := by rw [hsb.1, du]
 refine ⟨hlim.keeps λ b o e => k1 b o (ok.base b o e), j0 ?_⟩
 generalize henv : newEnv fd.scope s.heap.objs.size fd.globals fd.closure (fd.qualname ++ ".<locals>.") (some f) fd.code none fd.builtins = env
 have hloc : env.locals = s.heap.objs.size := by subst henv; rfl
 have hframe : env.frame = some env.locals := by subst henv; rfl
 have HE : ye W cell env := by subst henv; exact ⟨HF.kind, HF.names, HF.gl, HF.bi, HF.clos⟩
 have lt : ∀ {b o}, s.heap.get? b = some o -> b ≠ env.locals := λ e => by rw [hloc]; exact aE (aR e)
 have ty : ∀ {b o}, s.heap.get? b = some o -> b < h'.objs.size := λ e => aR (k1 _ _ e)
 have kw : env.kindOf "wlst" = some .local := (HE.kn _).trans (by decide)
 have hns' : h'.Ns env.locals (λ y => ([(("wlst" : Str), v), (("cstates" : Str), .ref d)] : List (Str × Value)).reverse.lookup y) := by rw [hloc]; exact hns
 have hst : W.h₀.StaysIn h' := λ b o e => k1 b o (ok.base b o e)
 have sub' : G.sub h' := λ b o e => k1 b o (sub b o e)
 have W' : xP W G h' l v L := w.keep (λ o => k1 L o) Fz.le.rfl
 refine mL λ gk => ?_
 obtain ⟨fl0, hfl0, hfrs⟩ := ok.frs
 obtain ⟨oi, hoi, hci, hdi⟩ := Fit.there
 refine gk ?_
 have eloc : ∃ o, h'.get? env.locals = some o := by obtain ⟨o, _, _, ho, _⟩ := hns'; exact ⟨o, ho⟩
 refine bx (ay (E := No) ?_ (λ _ _ h => h) λ _ _ e => e.elim)
 refine lO (pA hline (by decide : 0 + 0 < 15) rfl rfl (b8 (ba HE.kind kw hns' (show _ = some v from rfl) λ pl => ?_) (by decide))) (λ _ => rfl)
 refine vN K hst sub' W' K.iter hoi hci (by decide) GG ?_
 refine mr hdi (hst _ _ hoi) ?_
 refine Kk (A := A.deeper env) (A' := A.deeper env) (s := { s with heap := h', toks := s.toks + 2 }) K Fit (by have := ok.depth; show A.depth + 1 < recursionLimit; unfold recursionLimit; omega) hst hlim sub' W' (Lc := env.locals) ?_ ?_ eloc (lt hLo) ok.hd λ s₁ a ts q1 q2 q3 q4 q5 q6 q7 => ?_
 ·cases e : W.h₀.get? env.locals with
  | none => rfl
  | some o => have := ok.base _ _ e; rw [hloc, qh] at this; cases this
 ·rw [hloc]; exact m4 sub (qh _)
 have q1' : ∀ b o, s.heap.get? b = some o -> s₁.heap.get? b = some o := λ b o e => q1 b o (k1 b o e)
 have hns₁ : s₁.heap.Ns env.locals (λ y => ([(("wlst" : Str), v), (("cstates" : Str), .ref d)] : List (Str × Value)).reverse.lookup y) := hns'.at' λ o e => q1 _ o e
 refine mL λ gk => ?_
 obtain ⟨og, nm, qn, hog, hcg, hdg, _⟩ := q7.1
 refine gk ?_
 refine wpAny_pyIter_gen q7.1 ?_
 refine mL λ gk => ?_
 obtain ⟨oD, esD, epD, hoD, hDr⟩ := id hd
 obtain ⟨oC, hoC, hCr⟩ := id hcell
 obtain ⟨oL, hoL⟩ := eloc
 refine gk ?_
 refine iu (Kl (G := G) (l := dl) (us := us) (ts := ts) (d := d) (N := h'.objs.size) (s₁ := s₁) (t4 := t4) HE hw (λ b o e => q1' b o (ok.base b o e)) (λ b o e => ⟨ty (ok.base b o e), lt (ok.base b o e)⟩) hlim (λ b o e => q1' b o (sub b o e)) (λ b o e => ⟨ty (sub b o e), lt (sub b o e)⟩)
   ⟨oD, esD, epD, q1' _ _ hoD, hDr⟩ (ty hoD) (lt hoD) hkeys hr hcap hG ⟨oC, q1' _ _ hoC, hCr⟩ (ty hoC) (lt hoC) hds hint q5 (aR hoL) (λ h m hk hn => ?_) ts.length 0 s₁ _ rfl ⟨⟨λ _ _ _ _ e => e, rfl, rfl, λ x => x⟩, hns₁, rfl, q7⟩) λ r s₂ h₂ => ?_
 ·refine ⟨ok.hd, ?_, ?_, λ b o e => hk b o (ty (ok.base b o e)) (lt (ok.base b o e)) (q1' b o (ok.base b o e)), env :: fl0, f7 hfl0, λ e he => ?_⟩
  ·have := ok.depth; show A.depth + 1 + 1 <= 900; omega
  ·have := ok.units; show A.units + 3 + 8 * 1 <= 9000; omega
  ·rcases ag.mp he with rfl | he
   ·refine mL λ gk => ?_
    obtain ⟨o, es, ep, ho, hdd, _⟩ := hn
    refine gk ?_
    exact ⟨by rw [HE.kind]; decide, _, o, hframe, ho, λ vs e => by rw [hdd] at e; cases e⟩
   ·refine mL λ gk => ?_
    obtain ⟨r1, Lf, o, r2, r3, r4⟩ := hfrs e he
    refine gk ?_
    exact ⟨r1, Lf, o, r2, hk _ _ (ty r3) (lt r3) (q1' _ _ r3), r4⟩
 ·have fin : ∀ (s₂ : Shared), HP h'.objs.size env.locals s₁ s₂ -> (∀ b o, s.heap.get? b = some o -> s₂.heap.get? b = some o) /\ s₂.os = s.os /\ s₂.drawn = s.drawn /\ ((∀ x ∈ s.gens, x.bare = true) -> ∀ x ∈ s₂.gens, x.bare = true) := λ s₂ hp => ⟨λ b o e => hp.kept b o (ty e) (lt e) (q1' b o e), hp.os.trans q2, hp.drawn.trans q3, λ x => hp.bare (q4 x)⟩
  have hany : (ts.drop 0).any (Bv dl) = l.any (Bv dl) := by
   rw [k9, bI, cA, cA]
   exact ⟨(by rintro ⟨x, hx, h⟩; exact ⟨x, q6.mem_iff.mp hx, h⟩), (by rintro ⟨x, hx, h⟩; exact ⟨x, q6.mem_iff.mpr hx, h⟩)⟩
  cases r with
  | error e => exact h₂.elim
  | ok fl =>
   refine mL λ gk => ?_
   obtain ⟨rfl, hp⟩ := h₂
   refine gk ?_
   rw [hany]
   cases hq : l.any (Bv dl) with
   | true => exact ⟨rfl, fin _ hp⟩
   | false => exact bx (cK (kW ⟨rfl, fin _ hp⟩))
end
noncomputable def Lw (W : Wo) (cs : List (Str × Addr)) (_ : Nat) (fd : FuncData) : Prop := ∃ cell, O1 W fd cell /\ cs.lookup ("_DNC" : Str) = some cell
section
variable {K : Ky} {c : Fc K} {ρ : En} {G : Fz} {O : Addr -> Option Tg} {m : Str -> Option Value} {s : Shared} {x y f : Str} {p p1 p2 p3 : Pos} {i : Nat} {l : List It} {d : List (Bs × PV)}
theorem FR.wl (R : FR c ρ G O m s) (hx : nQ K.sc x = true) (ho : K.ow.contains x = true) (hr : ρ.get x = some (.wl l)) : ∃ v L, oN c m s.heap x v /\ O L = some (.own x) /\ xP c.W G s.heap l v L := by
 refine mL λ gk => ?_
 obtain ⟨v, va, L, oL, w⟩ := R.var hx ho hr
 refine gk ?_
 exact ⟨v, L, va, oL, w⟩
theorem N8 (hx : K.exn = true) (hk : 2 <= K.k) (hc : K.cl = Gc Lw) (h1 : nQ K.sc f = true) (o1 : K.ow.contains f = false) (h2 : nQ K.sc x = true) (o2 : K.ow.contains x = true) (h3 : nQ K.sc y = true) (o3 : K.ow.contains y = true) (h4 : K.sc.lookup ("_DNC" : Str) = some .cell) (o4 : K.ow.contains ("_DNC" : Str) = false)
  (r1 : ρ.get f = some (.clo i)) (r2 : ρ.get x = some (.wl l)) (r3 : ρ.get y = some (.dict d)) (r4 : ρ.get "_DNC" = some (.int 4)) (hd : ∀ b p, d.lookup b = some p -> ∃ i, p = .int i) : LU K ρ (.Call (.Name f p1) [.Name x p2, .Name y p3] [] p) (l.any (Bv d)) := λ c G O m s R => by
 refine mL λ gk => ?_
 obtain ⟨vf, af, wf⟩ := R.val _ _ r1 h1
 refine gk ?_
 unfold oH at wf
 rw [o1] at wf
 refine mL λ gk => ?_
 obtain ⟨vw, L, aw, oL, w⟩ := R.wl h2 o2 r2
 obtain ⟨vd, ad, da, us, rfl, oa, hdo, hkeys, hr, hcap, ne⟩ := R.var h3 o3 r3
 obtain ⟨v4, a4, w4⟩ := R.vr (pQ.mpr (.inr h4)) r4 (λ _ => id) nofun
 obtain ⟨t4, rfl⟩ := w4
 refine gk ?_
 rcases wf with wf | ⟨j, ej, wf⟩
 ·exact wf.elim
 have wf : K.cl c.env.cells c.W G j vf := wf
 rw [hc] at wf
 refine mL λ gk => ?_
 obtain ⟨fa, of, fd, rfl, gf, hcf, hdf, ⟨cd, oc, vs, t, e1, e2, e3, e4⟩, cell, HF, hcell⟩ := wf
 have hcv : s.heap.IsCell cell (some (.int 4 t4)) := by
  rcases a4 with ⟨e, _⟩ | ⟨_, a, ha, hv⟩
  ·rw [h4] at e; cases e
  ·rw [hcell] at ha; cases ha; exact hv
 obtain ⟨N, mN, fi, fa', fg, ft, Wl⟩ := c.hw.wl
 obtain ⟨fdi, pi, Fit⟩ := Wl.iter
 refine gk ?_
 have he : ∀ t, isTrue (.Call (.Name f p1) [.Name x p2, .Name y p3] [] p) c.env t = (do let v <- t; standAt p; holding [v] (truthy v)) := λ _ => rfl
 rw [he]
 refine aa (eA rfl (oG af R.ns h1 (dY (o := of) (fd := fd) (di (aW (oG aw R.ns h2 (aW (oG ad R.ns h3 (bz ⟨⟨R.sub _ _ gf, hdf⟩, ?_⟩)))))))))
 refine oX (Kw Wl.K Fit c.hw HF ((R.ok hx).mono hk) (R.sub _ _ gf) hdf ⟨cd, oc, vs, t, e1, R.sub _ _ e2, e3, e4⟩ c.hw.lim R.sub w hdo hkeys hr hcap (R.ow _ _ oa).g hcv ne hd) λ r s' ⟨e, k1, k2, k3, k4⟩ => ?_
 subst e
 have Q : Aw s G c.l s' G := ⟨⟨k2, k3, k4⟩, λ b o _ => k1 b o, cL k1, ⟨Fz.le.rfl, λ b o e => k1 b o (R.sub b o e), λ _ _ _ => rfl⟩, (R.tab hx).keep Fz.le.rfl λ _ _ _ => k1 _ _⟩
 exact aa (aI (aO (lA ⟨rfl, G, R.retR hx Q, Pz.retR hx Q⟩)))
end
section
variable {K : Ky} {c : Fc K} {ρ : En} {G G' : Fz} {O : Addr -> Option Tg} {m : Str -> Option Value} {s s' : Shared} {x y : Str} {p p1 p2 q ap : Pos} {i : Int} {b : Bs} {l l' : List It} {v : Value} {L : Addr} {E : Value -> Shared -> Prop}
theorem xP.al {W : Wo} {h : Heap} (w : xP W G h l v L) : ∃ o, h.get? L = some o := (by obtain ⟨_, _, _, _, _, _, _, _, _, _, _, _, g, _, _⟩ := w; exact ⟨_, g⟩)
theorem Fc.room (c : Fc K) (hk : 3 <= K.k) : c.A.depth + 1 < recursionLimit /\ c.A.units + 60 < cLine := by
 have h1 := c.dep
 have h2 := c.uni
 delta recursionLimit cLine
 lia
theorem FR.putW (R : FR c ρ G O m s) (hx : nQ K.sc x = true) (ho : K.ow.contains x = true) (oa : O L = some (.own x)) (va : oN c m s.heap x v) (kb : KB [L] s s') (u : Up G s.heap G' s'.heap) (w : xP c.W G' s'.heap l' v L) (al : ∃ o, s.heap.get? L = some o) : FR c (ρ.set x (.wl l')) G' O m s' /\ Pz c G O s G' O s' := by
 have k : Kx (· = L) G s G' s' := Hx kb u λ _ h => ae.mp h
 refine mL λ gk => ?_
 obtain ⟨o, h⟩ := al
 refine gk ?_
 exact ⟨R.mutU hx ho oa va k ((u.old L o h).trans (R.ow _ _ oa).g) w.al ⟨L, oa, w⟩, Pz.mut (by rw [oa]; exact nofun) k⟩
theorem Gu (hx : nQ K.sc x = true) (ho : K.ow.contains x = true) (hg : om K.sc "WorkList" = true) (hk : autoParam (3 <= K.k) tD) : Ex K ρ (.Assign [.Name x p] (.Call (.Name "WorkList" p1) [] [] p2) q) (ρ.set x (.wl [])) .next := λ c G O m s R E hE hX => by
 refine mL λ gk => ?_
 obtain ⟨N, mN, fi, fa, fg, ft, Wl⟩ := c.hw.wl
 obtain ⟨fd, a1, a2, a3, a4, F⟩ := Wl.init
 refine gk ?_
 refine c4 (eA rfl (qp (c := c.toCf) hg Wl.cls R.base (callWith_cls0 Wl.K.cls R.base (MP Wl.K F (c.room hk).1 R.base c.hw.lim R.sub λ s₁ G₁ v L k u hn hL hw => ?_)))) rfl
 refine mL λ gk => ?_
 obtain ⟨G', O', R', z, _, _, hv⟩ := R.own (P := λ O' G' h' => uJ c.W O' G' h' x (.wl []) v) ⟨k, u.le, u.sub, u.old⟩ hn hL hw.al x λ O' e => ⟨L, e, hw⟩
 refine gk ?_
 exact R'.store hx (wT.old (show oH c O' G' s₁.heap x (.wl []) v by delta oH; rw [ho]; exact hv)) λ s'' m'' y hy k R'' => ⟨_, .next, ⟨rfl, rfl⟩, rfl, G', O', m'', R'', z.trans (Pz.st R' hy k)⟩
theorem H7 (hx : nQ K.sc x = true) (hxo : K.ow.contains x = false) (hy : nQ K.sc y = true) (ho : K.ow.contains y = true) (hl : (ap.endLine == p2.line) = true) (hr : ρ.get y = some (.wl ((i, b) :: l))) (hlen : l.length < 4000) (hk : autoParam (3 <= K.k) tD) :
  Ex K ρ (.Assign [.Name x p] (.Call (.Attribute (.Name y p1) "get" ap) [] [] p2) q) ((ρ.set y (.wl l)).set x (.tuple [.int (-i), .bytes b])) .next := λ c G O m s R E hE hX => by
 refine mL λ gk => ?_
 obtain ⟨N, mN, fi, fa, fg, ft, Wl⟩ := c.hw.wl
 obtain ⟨fd, pf, F⟩ := Wl.get
 obtain ⟨v, L, va, oL, w⟩ := R.wl hy ho hr
 obtain ⟨o, hoo, hc, hdat⟩ := F.there
 refine gk ?_
 refine c4 (pA hl (by decide : 0 + 0 < 15) rfl rfl (oG va R.ns hy λ pl => ?_)) rfl
 refine vN Wl.K R.base R.sub w Wl.K.get hoo hc (by decide) JE (mr hdat (R.base _ _ hoo) ?_)
 refine ME Wl.K F Wl.pop (fF (c.room hk).1) (c.room hk).2 (.inl (c.hd c.nh)) R.base c.hw.lim R.sub w (R.ow _ _ oL).g hlen λ s₁ G₁ r kb u hw₁ hvr => ?_
 refine mL λ gk => ?_
 obtain ⟨R₁, P₁⟩ := R.putW hy ho oL va kb u hw₁ w.al
 refine gk ?_
 exact R₁.store hx (.vr hxo hvr) λ s₄ m₄ z hz k R₄ => ⟨_, .next, ⟨rfl, rfl⟩, rfl, G₁, O, m₄, R₄, P₁.trans (Pz.st R₁ hz k)⟩
end
section
variable {K : Ky} {c : Fc K} {ρ : En} {G G' : Fz} {O : Addr -> Option Tg} {m : Str -> Option Value} {s s' : Shared} {x y : Str} {p p1 p2 p3 tp ap : Pos} {i : Int} {b : Bs} {l l' : List It} {E : Value -> Shared -> Prop} {tk : Nat} {d k : Expr} {A : Around}
theorem zx {Z : Prop} (hk : 3 <= K.k) (hAd : A.depth = c.A.depth) (hAu : A.units = c.A.units) (R : FR c ρ G O m s) (hxl : K.sc.lookup x = some .local) (ho : K.ow.contains x = true) (hr : ρ.get x = some (.wl l)) (hlen : l.length < 4000) (hl : (ap.endLine == p2.line) = true) (hsd : mU d) (hsk : mU k)
  (hd : wpAny (Mo c.W) A (eval d c.env) (λ v s₁ => wpAny (Mo c.W) A (eval k c.env) (λ u s₂ => Z /\ ∃ G₂, FR c ρ G₂ O m s₂ /\ Pz c G O s G₂ O s₂ /\ VR c.W G₂ (.int i) v /\ VR c.W G₂ (.bytes b) u /\ vh A s₂.heap) E s₁) E s) :
  wpAny (Mo c.W) A (exec (.Expr (.Call (.Attribute (.Name x p1) "add" ap) [.Tuple [d, k] tk tp] [] p2) p3) c.env) (λ f s' => f = .next /\ Z /\ FE c G O s s' (ρ.set x (.wl (pD (-i, b) l)))) E s := by
 refine mL λ gk => ?_
 obtain ⟨N, mN, fi, fa, fg, ft, Wl⟩ := c.hw.wl
 obtain ⟨fd, pf, F⟩ := Wl.add
 have hx : nQ K.sc x = true := pQ.mpr (.inl hxl)
 obtain ⟨v, L, va, oL, w⟩ := R.wl hx ho hr
 obtain ⟨o, hoo, hc, hdat⟩ := F.there
 refine gk ?_
 have mx : ∀ {h u}, oN c m h x u -> m x = some u := λ q => q.elim mI λ q_ => q_.casesOn λ e _ => by rw [hxl] at e; cases e
 refine fH ?_ (by unfold interactive; rw [c.kind]; rfl) rfl
 refine pA hl (by decide : 1 + 0 < 15) rfl rfl (b8 (ba c.kind (c.knd _ _ hxl) R.ns (mx va) λ pl => ?_) (c.dbg x _ hxl))
 refine vN Wl.K R.base R.sub w Wl.K.add hoo hc (by decide) J8 ?_
 refine callWith_meth hdat hoo (aW ?_)
 rw [fK]
 refine aa (aI (aa ?_))
 rw [hsd, hsk]
 refine aW (ay hd (λ v₁ s₁ h₁ => ?_) λ _ _ e => e)
 refine aW (ay h₁ (λ v₂ s₂ ⟨hz, G₂, R₂, q₂, hv₁, hv₂, hh₂⟩ => bz ?_) λ _ _ e => e)
 have hx2 : nG c.W G₂ [PV.int i, PV.bytes b] [v₁, v₂] := ⟨_, _, rfl, hv₁, _, _, rfl, hv₂, rfl⟩
 refine ay (q0 (W := c.W) (G := G₂) (A := A) R₂.sub hx2 (by decide : 2 <= cap)) (λ vt s₃ q_ => q_.casesOn λ k₃ G₃ u₃ hvt => ?_) λ _ _ e => e.elim
 have g₃ : Go G₂ s₂ G₃ s₃ := ⟨k₃, u₃.le, u₃.sub, u₃.old⟩
 have R₃ := R₂.go g₃
 refine bz ⟨R₃.base, ?_⟩
 refine mL λ gk => ?_
 obtain ⟨v', L', va', oL', w'⟩ := R₃.wl hx ho hr
 obtain rfl : v = v' := bN ((mx va).symm.trans (mx va'))
 refine gk ?_
 have hrm := c.room hk
 refine MU Wl.K F Wl.push (by rw [hAd]; exact fF hrm.1) (by rw [hAu]; exact hrm.2) (hh₂.keeps (pB k₃)) R₃.base c.hw.lim R₃.sub w' (R₃.ow _ _ oL').g hvt hlen λ s₄ G₄ kb u hw₄ => ?_
 refine mL λ gk => ?_
 obtain ⟨R₄, P₄⟩ := R₃.putW hx ho oL' va' kb u hw₄ w'.al
 refine gk ?_
 exact ⟨rfl, hz, G₄, O, m, R₄, q₂.trans ((Pz.go g₃).trans P₄)⟩
theorem Hh (hxl : K.sc.lookup x = some .local) (ho : K.ow.contains x = true) (hl : (ap.endLine == p2.line) = true) (hr : ρ.get x = some (.wl l)) (hlen : l.length < 4000) (h1 : mO K ρ d (.int i)) (h2 : mO K ρ k (.bytes b)) (hsd : autoParam (mU d) tF) (hsk : autoParam (mU k) tF) (hk : autoParam (3 <= K.k) tD) :
  Ex K ρ (.Expr (.Call (.Attribute (.Name x p1) "add" ap) [.Tuple [d, k] tk tp] [] p2) p3) (ρ.set x (.wl (pD (-i, b) l))) .next := λ c G O m s R E hE hX =>
 ay (zx (Z := True) hk rfl rfl R hxl ho hr hlen hl hsd hsk (Gv.then (h1 c.toCf G s R.es) λ v s₁ G₁ g₁ p₁ => Gv.then (h2 c.toCf G₁ s₁ (R.go g₁).es) λ u s₂ G₂ g₂ p₂ => ⟨trivial, G₂, (R.go g₁).go g₂, (Pz.go g₁).trans (Pz.go g₂), VR.mono g₂.u.le _ _ p₁, p₂, .inl (c.hd c.nh)⟩)) (λ f s' ⟨e, _, h⟩ => ⟨_, .next, ⟨rfl, rfl⟩, e, h⟩) λ _ _ e => e
theorem Ft (hxl : K.sc.lookup x = some .local) (ho : K.ow.contains x = true) (hl : (ap.endLine == p2.line) = true) (hr : ρ.get x = some (.wl l)) (hlen : l.length < 4000) (h1 : qe K ρ d (.ok (.int i))) (h2 : mO K ρ k (.bytes b)) (hsd : autoParam (mU d) tF) (hsk : autoParam (mU k) tF) (hk : autoParam (3 <= K.k) tD) :
  Ex K ρ (.Expr (.Call (.Attribute (.Name x p1) "add" ap) [.Tuple [d, k] tk tp] [] p2) p3) (ρ.set x (.wl (pD (-i, b) l))) .next := λ c G O m s R E hE hX =>
 ay (zx (Z := True) hk rfl rfl R hxl ho hr hlen hl hsd hsk (ay (h1.2 c G O m s R E nofun) ((by
  rintro v s₁ ⟨pv, G₁, e, R₁, P₁, p₁⟩
  refine mL λ gk => ?_
  cases e
  refine gk ?_
  exact Gv.then (h2 c.toCf G₁ s₁ R₁.es) λ u s₂ G₂ g₂ p₂ => ⟨trivial, G₂, R₁.go g₂, P₁.trans (Pz.go g₂), VR.mono g₂.u.le _ _ p₁, p₂, .inl (c.hd c.nh)⟩)) λ _ _ e => e)) ((by rintro f s' ⟨e, _, h⟩; exact ⟨_, .next, ⟨rfl, rfl⟩, e, h⟩)) λ _ _ e => e
theorem EK (hxl : K.sc.lookup x = some .local) (ho : K.ow.contains x = true) (hl : (ap.endLine == p2.line) = true) (hr : ρ.get x = some (.wl l)) (hlen : l.length < 4000) (h1 : qe K ρ d .err) (hsd : autoParam (mU d) tF) (hsk : autoParam (mU k) tF) (hk : autoParam (3 <= K.k) tD) :
  Ex K ρ (.Expr (.Call (.Attribute (.Name x p1) "add" ap) [.Tuple [d, k] tk tp] [] p2) p3) ρ .err := λ c G O m s R E hE hX =>
 ay (zx (Z := False) (i := 0) (b := []) hk rfl rfl R hxl ho hr hlen hl hsd hsk (ay (h1.2 c G O m s R E (hX.err h1.1)) ((by rintro v s₁ ⟨pv, G₁, e, _, _, _⟩; exact nomatch e)) λ _ _ e => e)) ((by rintro f s' ⟨_, h, _⟩; exact h.elim)) λ _ _ e => e
theorem Mw {Q : En -> Fl -> Prop} (hxl : K.sc.lookup x = some .local) (ho : K.ow.contains x = true) (hl : (ap.endLine == p2.line) = true) (hr : ρ.get x = some (.wl l)) (hlen : l.length < 4000) (h1 : mO K.hdl ρ d (.int i)) (h2 : mO K.hdl ρ k (.bytes b)) (hq : Q (ρ.set x (.wl (pD (-i, b) l))) .next) (hsd : autoParam (mU d) tF) (hsk : autoParam (mU k) tF) (hk : autoParam (3 <= K.k) tD) :
  I6 K ρ [.Expr (.Call (.Attribute (.Name x p1) "add" ap) [.Tuple [d, k] tk tp] [] p2) p3] Q := zN λ c G O m s hx R B s₁ e a0 E H hE =>
 ay (zx (Z := True) (A := c.A.mark (some (.ref e))) hk rfl rfl R hxl ho hr hlen hl hsd hsk (Gv.then (h1 (c.mark e) G s (R.esH e)) λ v s₁ G₁ g₁ p₁ => Gv.then (h2 (c.mark e) G₁ s₁ ((R.go g₁).esH e)) λ u s₂ G₂ g₂ p₂ => ⟨trivial, G₂, (R.go g₁).go g₂, (Pz.go g₁).trans (Pz.go g₂), VR.mono g₂.u.le _ _ p₁, p₂, .inr ⟨e, rfl, ((H.go g₁).go g₂).f2⟩⟩)) ((by rintro f s' ⟨e, _, h⟩; exact ⟨_, .next, hq, e, h⟩)) λ _ _ e => e
end
noncomputable def o8 {α : Type} (lt : Nat -> Nat -> Bool) : KasT α -> α
 | .ret a => a
 | .ask i j k => o8 lt (k (lt i j))
noncomputable def uF (n : Nat) (lt : Nat -> Nat -> Bool) : List Nat := if n < 2 then az n else (o8 lt (fI n)).toList
noncomputable abbrev Np (kz : List Int) (i j : Nat) : Bool := decide (kz.getD i 0 < kz.getD j 0)
noncomputable abbrev vY (kz : List Int) (vs : List Value) : List Value := (uF vs.length (Np kz)).map λ i => vs.getD i .none
noncomputable def Ab (n : Nat) {α : Type} (t : KasT α) (Q : α -> Prop) : Prop := t.kasWp (λ i j C s => i < n /\ j < n /\ ∀ b, C b s) (λ a _ => Q a) {}
noncomputable def zv (n : Nat) (p : Array Nat) : Prop := p.toList.Perm (az n)
section
variable {n : Nat} {p : Array Nat} {α β : Type} {P : α -> Prop} {Q : β -> Prop} {t : KasT α}
theorem Ab.bind {f : α -> KasT β} (h : Ab n t P) (k : ∀ a, P a -> Ab n (f a) Q) : Ab n (t.bind f) Q := by
 unfold Ab at h |-
 rw [KasT.kasWp_bind]
 induction t with
 | ret a => exact k a h
 | ask i j g ih => exact ⟨h.1, h.2.1, λ b => ih b (h.2.2 b)⟩
theorem zv.lt (h : zv n p) (hn : 0 < n) (i : Nat) : p.getD i 0 < n := by
 rw [cB]
 cases e : p[i]? with
 | none => exact hn
 | some x => exact aM.mp (h.mem_iff.mp (jy.mpr (Array.mem_of_getElem? e)))
theorem zv.rev (h : zv n p) (i j : Nat) : zv n (gB p i j) := (iz.mp (mirror_perm _ _ _ _)).trans h
variable (hn : 0 < n)
include hn
theorem um {i j : Nat} {g : Bool -> KasT α} (h : zv n p) (hg : ∀ b, Ab n (g b) P) : Ab n (.ask (p.getD i 0) (p.getD j 0) g) P := ⟨h.lt hn _, h.lt hn _, hg⟩
theorem zK (h : zv n p) : ∀ f k, Ab n (jY p f k) λ _ => True
 | 0, k => trivial
 | f + 1, k => um hn h λ b => match b with
  | true => trivial
  | false => zK h f (k + 1)
theorem uG : ∀ f (p : Array Nat) k q, zv n p -> Ab n (ge f p k q) λ r => zv n r.1
 | 0, p, k, q, h => h
 | f + 1, p, k, q, h => um hn h λ b => match b with
  | true => by
   show Ab n (if q > 0 then _ else _) _
   split
   ·exact uG f _ _ _ (h.rev _ _)
   ·exact uG f _ _ _ h
  | false => um hn h λ d => match d with
   | true => h
   | false => uG f _ _ _ h
theorem yO (h : zv n p) (a b : Nat) : Ab n (iI a b p) λ r => zv n r.2 := (zK hn (h.rev _ _) _ _).bind λ m _ => h.rev _ _
theorem uh (h : zv n p) (a b : Nat) : Ab n (ir a b p) λ r => zv n r.2 :=
 (uG hn _ p _ _ h).bind λ r hr => by
  split
  ·exact yO hn (hr.rev _ _) _ _
  ·exact yO hn hr _ _
theorem E0 (h : zv n p) (b : Nat) : Ab n (jO b p) λ r => zv n r.2 :=
 (zK hn h _ _).bind λ a _ => by
  split
  ·exact h
  ·split
   ·exact um hn h λ c => match c with
     | true => h
     | false => uh hn (h.rev _ _) _ _
   ·exact uh hn h _ _
theorem vG (h : zv n p) (k : Nat) : ∀ f l r, Ab n (f9 p k f l r) λ _ => True
 | 0, l, r => trivial
 | f + 1, l, r => by
  unfold f9
  split
  ·exact trivial
  ·exact um hn h λ c => match c with
    | true => vG h k f _ _
    | false => vG h k f _ _
theorem DY : ∀ f (p : Array Nat) k, zv n p -> Ab n (i9 f p k) λ r => zv n r
 | 0, p, k, h => h
 | f + 1, p, k, h => (vG hn h k k 0 k).bind λ l _ => DY f _ _ ((iz.mp (bubble_perm _ _ _)).trans h)
theorem xB : Ab n (fI n) λ r => zv n r :=
 (E0 hn (p := eV (az n)) (.refl _) n).bind λ r hr => by
  split
  ·exact DY hn _ _ _ hr
  ·exact hr
omit hn
theorem Eb {lt : Nat -> Nat -> Bool} (h : Ab n t P) : P (o8 lt t) := by
 induction t with
 | ret a => exact h
 | ask i j k ih => exact ih _ (h.2.2 (lt i j))
theorem qL {lt : Nat -> Nat -> Bool} : (uF n lt).Perm (az n) := by
 unfold uF
 split
 ·exact .refl _
 ·exact Eb (xB (aP il (bJ (by assumption))))
theorem LY {lt : Nat -> Nat -> Bool} {cmp : Nat -> Nat -> (Bool -> Shared -> Prop) -> Shared -> Prop} {Q : α -> Shared -> Prop} {s : Shared} (hc : ∀ i j C, i < n -> j < n -> C (lt i j) s -> cmp i j C s) (h : Ab n t P) (hq : Q (o8 lt t) s) : t.kasWp cmp Q s := by
 induction t with
 | ret a => exact hq
 | ask i j k ih => exact hc i j _ h.1 h.2.1 (ih _ (h.2.2 _) hq)
end
theorem Bt {vs : List Value} {zs : List Int} (h : IntsAre vs zs) : ∀ {i : Nat}, i < zs.length -> ∃ t, vs.getD i .none = .int (zs.getD i 0) t := by
 induction h with
 | nil => exact λ h => absurd h (iw _)
 | cons n t r ih => exact λ {i} h => match i, h with
  | 0, _ => ⟨t, rfl⟩
  | i + 1, h => ih (i := i) (dA h)
section
variable {W : Wo} {A : Around} {s : Shared} {E : Value -> Shared -> Prop} {a kS : Addr} {vs out : List Value} {kz : List Int} {keys : Array Value} {e e1 n : Nat} {P : PySem.Fin -> Shared -> Prop} {f : Value}
noncomputable abbrev OC (a kS : Addr) (h h' : Heap) : Prop := ∀ b o, b ≠ a -> b ≠ kS -> h.get? b = some o -> h'.get? b = some o
theorem FT (h : vs.length < 2) : ((az vs.length).map λ i => vs.getD i .none) = vs := by
 cases vs with
 | nil => rfl
 | cons a r => cases r with
  | nil => rfl
  | cons b r => exact absurd h (cC (cV 2 _))
theorem Fr {k : Nat} (h : k < 64) : k <= sizeLine := ac (a5 h) (by decide +kernel)
theorem Fy {st : SortSt} (hk : s.heap.get? kS = some (seqObj "list" keys e)) (ha : s.heap.get? a = some (seqObj "list" #[] e1)) (hka : kS ≠ a) (hks : keys.size < 64) (h64 : out.length < 64) (hfl : failedOf st = none) (hout : (arrOf st).map (·.2) = out.toArray)
  (h : ∀ h' c, h'.get? a = some (lObj out c) -> OC a kS s.heap h' -> P (.done (.ret .none)) { s with heap := h' }) : wpAny (Mo W) A (ksk_tail a false e1 (.ref kS) st) P E s := by
 have s1 := df s.heap kS (bO λ _ => (#[] : Array Value))
 have na1 := (s1.2 a hka.symm).trans ha
 unfold ksk_tail
 dsimp only
 rw [hout]
 refine aa (ib hk rfl ?_ (Fr hks) (bM _))
 refine aa (wpAny_letGo ?_)
 refine aa (seqEpoch_at na1 rfl ?_)
 rw [if_neg e9]
 refine aa (ib na1 rfl ?_ (bM _) (ia (Fr (ar (aT (aG ..)) h64))))
 rw [hfl]
 simp only [bne_self_eq_false, bB, if_false]
 exact ai (h _ _ (iZ na1 λ _ => out.toArray) λ b o hb hb' x => (df _ a _).extBut b o hb (s1.extBut b o hb' x))
theorem GZ (hk : s.heap.get? kS = some (seqObj "list" keys e)) (ha : s.heap.get? a = some (seqObj "list" #[] e1)) (hka : kS ≠ a) (hi : IntsAre keys.toList kz) (hlen : kz.length = vs.length) (h64 : vs.length < 64)
  (h : ∀ h' c, h'.get? a = some (lObj (vY kz vs) c) -> OC a kS s.heap h' -> P (.done (.ret .none)) { s with heap := h' }) : wpAny (Mo W) A (ksk_end a false vs.toArray e1 (.ref kS) keys) P E s := by
 have hsz : keys.size = vs.length := (dQ.symm.trans hi.length).trans hlen
 have hol : (vY kz vs).length = vs.length := by
  unfold vY
  rw [am, qL.length_eq, bh]
 have tail := λ (st : SortSt) => Fy (W := W) (A := A) (E := E) (P := P) (st := st) hk ha hka (hsz ▸ h64) (out := vY kz vs) (hol ▸ h64)
 unfold ksk_end
 dsimp only
 by_cases h2 : vs.length < 2
 ·rw [if_neg nofun, if_pos (show vs.toArray.size < 2 from h2), if_pos (show vs.toArray.size < 2 from h2)]
  refine aa (ai ?_)
  rw [StateT.run_pure]
  refine aa (ai (tail _ rfl ?_ h))
  show (keys.zip vs.toArray).map (·.2) = (vY kz vs).toArray
  refine (show _ = vs.toArray from kh.mp ?_).trans (congrArg eV ?_)
  ·rw [ke, ksk_zip]
   exact List.map_snd_zip (aT (hsz.symm.trans dQ.symm))
  ·delta vY uF
   rw [if_pos h2]
   exact (FT h2).symm
 ·rw [if_neg nofun, if_neg (show ¬ vs.toArray.size < 2 from h2), if_neg (show ¬ vs.toArray.size < 2 from h2)]
  have h2' : 2 <= vs.length := bJ h2
  have h0 : 0 < vs.length := aP il h2'
  rw [ksk_kind hi (hsz.symm ▸ h2')]
  refine aa (ai ?_)
  have est : lJ oneType' (keys.zip vs.toArray) #[] 7 none = kas_st oneType' (keys.zip vs.toArray) (eV (az vs.length)) := by
   have e := kas_range (keys.zip vs.toArray)
   rw [Array.size_zip, hsz, aG, jr] at e
   exact congrArg (λ x => lJ oneType' x #[] 7 none) e.symm
  have item : ∀ i, i < vs.length -> mo (keys.zip vs.toArray) i = (keys.toList.getD i .none, vs.getD i .none) := λ i hi' => by
   unfold mo
   rw [cB, <- Array.getElem?_toList, ksk_zip, List.getElem?_zip_eq_some (z := (_, _)).mpr ⟨aF (dQ.trans hsz ▸ hi'), aF hi'⟩]
   rw [ao, ao, aF (dQ.trans hsz ▸ hi'), aF hi']
   rfl
  have cmp : ∀ i j C, i < vs.length -> j < vs.length -> C (Np kz i j) s -> kas_cmp PySem.Challenge.pw_ai0008_01 W.w A oneType' (keys.zip vs.toArray) i j C s := λ i j C h1 h2 hC => by
   unfold kas_cmp
   rw [item i h1, item j h2]
   refine mL λ gk => ?_
   obtain ⟨t, et⟩ := Bt hi (i := i) (hlen ▸ h1)
   obtain ⟨u, eu⟩ := Bt hi (i := j) (hlen ▸ h2)
   refine gk ?_
   show wpAny _ _ (keyLt' oneType' (keys.toList.getD i .none) (keys.toList.getD j .none)) _ _ _
   rw [et, eu, keyLt'_oneType]
   exact oneLt_int hC
  have run := kas_runs (prog := PySem.Challenge.pw_ai0008_01) (w := W.w) (A := A) (E := E) (κ := oneType') (it := keys.zip vs.toArray) (s := s)
   (Q := λ _ st' s' => arrOf st' = (o8 (Np kz) (fI vs.length)).map (mo (keys.zip vs.toArray)) /\ failedOf st' = none /\ s' = s) (G := λ p' s' => p' = o8 (Np kz) (fI vs.length) /\ s' = s) h2' h64
   (λ p' st' s' a1 a2 a3 a4 => ⟨by rw [a2, a4.1], a3, a4.2⟩) (LY cmp (xB h0) ⟨rfl, rfl⟩)
  rw [<- est] at run
  refine aa (ay run ?_ λ _ _ e => e)
  rintro ⟨⟨⟩, st'⟩ s' ⟨har, hf, rfl⟩
  refine tail _ hf (kh.mp ?_) h
  rw [har, Array.map_map, ke]
  delta vY uF
  rw [if_neg h2]
  refine ds λ i hi' => congrArg Prod.snd (item i ?_)
  exact aM.mp ((Eb (lt := Np kz) (xB h0)).mem_iff.mp hi')
end
section
variable {W : Wo} {A : Around} {s : Shared} {E : Value -> Shared -> Prop} {a kS q : Addr} {vs : List Value} {kz : List Int} {e e1 n : Nat} {P : PySem.Fin -> Shared -> Prop} {f : Value}
noncomputable abbrev MM (W : Wo) (A : Around) (f : Value) (vs : List Value) (kz : List Int) (N : Addr -> Prop) (h : Heap) (s : Shared) : Prop := ∀ (j : Nat) (v : Value) (z : Int) (h' : Heap) (tk : Nat), vs[j]? = some v -> kz[j]? = some z -> (∀ b o, ¬ N b -> h.get? b = some o -> h'.get? b = some o) ->
 wpAny (Mo W) A (call f [v]) (λ u s'' => (∃ t, u = .int z t) /\ Keeps { s with heap := h', toks := tk } s'') No { s with heap := h', toks := tk }
inductive Mx (s : Shared) (a kS : Addr) (e1 : Nat) (kz : List Int) (s' : Shared) : Prop
 | mk (h' : Heap) (tk : Nat) (kA : Array Value) (e : Nat) (eq : s' = { s with heap := h', toks := tk }) (kp : OC a kS s.heap h') (ha : h'.get? a = some (seqObj "list" #[] e1)) (hk : h'.get? kS = some (seqObj "list" kA e)) (hi : IntsAre kA.toList kz)
theorem H9 {j : Nat} {x : Value} {z : Int} {s' : Shared} (hka : kS ≠ a) (h64 : kz.length < 64) (hx : vs[j]? = some x) (hz : kz[j]? = some z) (turn : MM W A f vs kz (λ b => b = a \/ b = kS) s.heap s) (I : Mx s a kS e1 (kz.take j) s') {Q : Value -> Shared -> Prop}
  (h : ∀ s₁ t h₂, Mx s a kS e1 (kz.take (j + 1)) { s₁ with heap := h₂ } -> (∀ {kA e}, s₁.heap.get? kS = some (seqObj "list" kA e) -> kA.size < 64) -> (∃ kA e, s₁.heap.get? kS = some (seqObj "list" kA e) /\ h₂ = s₁.heap.update kS (bO (·.push (.int z t)))) -> Q (.int z t) s₁) : wpAny (Mo W) A (call f [x]) Q E s' := by
 obtain ⟨h', tk, kA, e, rfl, kept, ha', hk', hi⟩ := I
 refine oX (turn j x z h' tk hx hz λ b o hb => kept b o (λ h => hb (.inl h)) λ h => hb (.inr h)) λ v s'' q => ?_
 obtain ⟨⟨t, rfl⟩, g, tk2, rfl, kk⟩ := q
 have nk := kk _ _ hk'
 have s1 := df g kS (bO (·.push (.int z t)))
 have ek : kz.take (j + 1) = kz.take j ++ [z] := by rw [gW, hz]; rfl
 have sz : kA.size < 64 := by
  have := hi.length
  rw [dQ] at this
  rw [this]
  exact ar (dj _ _) h64
 refine h _ t _ ⟨_, _, kA.push (.int z t), _, rfl, λ b o hb hb' x => s1.extBut b o hb' (kk b o (kept b o hb hb' x)), s1.extBut _ _ hka.symm (kk _ _ ha'), iZ nk (·.push (.int z t)), by rw [Array.toList_push, ek]; exact ksk_snoc hi⟩ (λ {kB e'} x => ?_) ⟨kA, e, nk, rfl⟩
 rw [show g.get? kS = _ from x] at nk
 cases nk
 exact sz
theorem FH (hk : s.heap.get? kS = some (seqObj "list" #[] 0)) (ha : s.heap.get? a = some (seqObj "list" #[] e1)) (hka : kS ≠ a) (hlen : kz.length = vs.length) (h64 : vs.length < 64) (turn : MM W A f vs kz (λ b => b = a \/ b = kS) s.heap s)
  (h : ∀ h' tk c, h'.get? a = some (lObj (vY kz vs) c) -> OC a kS s.heap h' -> P (.done (.ret .none)) { s with heap := h', toks := tk }) : wpAny (Mo W) A (ksk_rest a f false vs.toArray e1 (.ref kS)) P E s := by
 unfold ksk_rest
 refine aa (jl ?_)
 rw [List.forIn_toArray]
 refine aa (ksk_fold (λ i s' => Mx s a kS e1 (kz.take i) s') vs 0 s ⟨s.heap, s.toks, #[], 0, rfl, λ _ _ _ _ e => e, ha, hk, .nil⟩ (λ j x s' hx I => ?_) λ s' I => ?_)
 ·rw [cF] at I |-
  have hj : j < kz.length := hlen ▸ (bH.mp hx).1
  refine aa (jE (H9 hka (hlen ▸ h64) hx (aF hj) turn I λ s₁ t h₂ I' sz ⟨kA, e, nk, eq⟩ => ?_))
  refine aa (ib nk rfl ?_ (Fr (sz nk)) (ac (aT (kH ..)) (bX (Fr (sz nk)))))
  subst eq
  exact ai ⟨rfl, I'⟩
 ·obtain ⟨h', tk, kA, e, rfl, kept, ha', hk', hi⟩ := I
  rw [cF, jc (aT hlen)] at hi
  refine aa (listItems_at hk' rfl ?_)
  exact GZ (s := { s with heap := h', toks := tk }) hk' ha' hka hi hlen h64 λ h3 c k1 k2 => h h3 tk c k1 λ b o hb hb' x => k2 b o hb hb' (kept b o hb hb' x)
theorem E9 {Q : Value -> Shared -> Prop} (ha : s.heap.get? a = some (lObj vs n)) (hlen : kz.length = vs.length) (h64 : vs.length < 64) (turn : MM W A.in1 (.ref q) vs kz (· = a) s.heap s)
  (h : ∀ h' tk c, h'.get? a = some (lObj (vY kz vs) c) -> (∀ b o, b ≠ a -> s.heap.get? b = some o -> h'.get? b = some o) -> Q .none { s with heap := h', toks := tk }) : wpAny (Mo W) A (call (.builtin "list.sort") [.ref a] [(c6 "key", .ref q)]) Q E s := by
 refine wpAny_call_entry_kw slot_list_sort ⟨_, ha, rfl⟩ entry_list_sort ?_ (ksk_l1 _ _)
 show wpAny (Mo W) A.in1 (Builtin.«list.sort» ⟨[.ref a], [(c6 "key", .ref q)]⟩) _ _ _
 rw [ksk_t1]
 have s1 := df s.heap a (bO λ _ => (#[] : Array Value))
 have ho1 := iZ ha λ _ => (#[] : Array Value)
 generalize hh : s.heap.update a (bO λ _ => (#[] : Array Value)) = h1 at s1 ho1
 have kp : ∀ b o, h1.get? b = some o -> ((h1.push (seqObj "tuple" vs.toArray 0)).push (seqObj "list" #[] 0)).get? b = some o := λ b o x => aj _ (aj _ x)
 have nkS : ∀ b o, s.heap.get? b = some o -> b ≠ (h1.push (seqObj "tuple" vs.toArray 0)).objs.size := λ b o x => by
  by_cases q : b = a
  ·rw [q]; exact aE (aP (aR ho1) (by rw [size_push']; exact dv _))
  ·exact aE (aP (aR (s1.extBut b o q x)) (by rw [size_push']; exact dv _))
 unfold ksk_tree
 refine aa (listItems_at ha rfl ?_)
 refine aa (ib ha rfl ?_ (Fr h64) (bM _))
 rw [hh]
 refine aa (seqEpoch_at ho1 rfl (aa (wpAny_newTuple (aa (wpAny_newList (aO ?_) (bM _))) (Fr h64))))
 refine FH (s := { s with heap := (h1.push (seqObj "tuple" vs.toArray 0)).push (seqObj "list" #[] 0) }) (aJ _ rfl) (kp _ _ ho1) (Ne.symm (nkS a _ ha)) hlen h64 (λ j v z h' tk h1 h2 hkp => turn j v z h' tk h1 h2 λ b o hb x => hkp b o (λ e => e.elim hb (nkS b o x)) (kp b o (s1.extBut b o hb x))) λ h' tk c h1 h2 => ⟨_, rfl, h h' tk c h1 λ b o hb x => h2 b o hb (nkS b o x) (kp b o (s1.extBut b o hb x))⟩
end
structure MO (W : Wo) (fd : FuncData) : Prop where
 body : ∃ ck p1 p2 p3, fd.body = .expr (.Subscript (.Name "x" p1) (.Constant (.int 0) ck p2) p3)
 clos : fd.closure = []
 gl : fd.globals = W.gl
 bi : fd.builtins = W.bi
 kind : fd.scope.kind = .function
 co : fd.scope.isCoroutine = false
 gen : fd.scope.isGenerator = false
 names : fd.scope.names = [(("x" : Str), .local)]
 bind : ∀ u : Value, bindArgs fd ⟨[u], []⟩ = pure [(("x" : Str), u)]
noncomputable def NW : Ky := { sc := [(("x" : Str), .local)], ow := [], k := 0, exn := false }
noncomputable def qU (l : List It) : List It := (uF l.length λ i j => decide ((l.getD i (0, [])).1 < (l.getD j (0, [])).1)).map λ i => l.getD i (0, [])
noncomputable def LC (a : Arguments) (b : Expr) (sc : Scope) : Prop := (∃ p, a = ⟨[], [⟨"x", none, p⟩], none, [], [], none, []⟩) /\ (∃ p1 ck p2 p3, b = .Subscript (.Name "x" p1) (.Constant (.int 0) ck p2) p3) /\ sc.kind = .function /\ sc.isGenerator = false /\ sc.isCoroutine = false /\ sc.names = [(("x" : Str), .local)]
section
variable {K : Ky} {c : Fc K} {ρ : En} {G G' : Fz} {O : Addr -> Option Tg} {m : Str -> Option Value} {s s' : Shared} {x : Str} {p q ap p3 lp kp : Pos} {W : Wo} {A : Around} {E : Value -> Shared -> Prop} {fd : FuncData} {v : Value} {l : List It} {vs : List Value} {la : Arguments} {lb : Expr} {ls : Scope} {P : Addr}
theorem ug {α : Type} {y z : Str} {a b : α} (h : ([(y, a)] : List (Str × α)).lookup z = some b) : z = y /\ b = a := by
 rw [au] at h
 split at h
 ·rename_i e; cases h; exact ⟨be e, rfl⟩
 ·cases h
theorem Iu {f : Addr} {of : Obj} (hw : Hw W) (LF : MO W fd) (hh : A.handled = none) (hd : A.depth + 3 <= 900) (hu : A.units + 9 <= 9000) (st : W.h₀.StaysIn s.heap) (hof : s.heap.get? f = some of) (hdat : of.data = .func fd) (hcd : s.heap.CodeRec fd.code fd.qualname) (sub : G.sub s.heap)
  {i : Int} {r : List PV} (hv : VR W G (.tuple (.int i :: r)) v) : wpAny (Mo W) A (call (.ref f) [v]) (λ u s' => (∃ t, u = .int i t) /\ Keeps s s') No s := by
 refine mL λ gk => ?_
 obtain ⟨ck, p1, p2, p3, hbody⟩ := LF.body
 refine gk ?_
 refine fG (kla_callFunE (ar (ac (aV _ 3) hd) (by decide)) hof hdat LF.co LF.gen hbody hcd ?_)
 rw [LF.bind]
 refine ai (dR (λ y hy => ?_) (λ y hy => ?_) (λ h' hns hsb => ?_) LF.kind)
 ·rw [LF.names] at hy; cases ae.mp hy; exact nofun
 ·cases ae.mp hy; rw [LF.names]; rfl
 have k1 : ∀ b o, s.heap.get? b = some o -> h'.get? b = some o := λ b o e => hsb.extBut b o (aE (aR e)) (aj _ e)
 have st' : W.h₀.StaysIn h' := λ b o e => k1 b o (st b o e)
 refine ⟨hw.lim.keeps st', kla_codeExpr ?_⟩
 generalize henv : newEnv fd.scope s.heap.objs.size fd.globals fd.closure (fd.qualname ++ ".<locals>.") (some f) fd.code none fd.builtins = env
 have hloc : env.locals = s.heap.objs.size := by subst henv; rfl
 have hsc : env.scope = fd.scope := by subst henv; rfl
 have hk : env.kindOf "x" = some .local := by
  show env.scope.names.lookup ("x" : Str) = _
  rw [hsc, LF.names]; rfl
 let C : Cf NW := ⟨W, env, A.deeper env, hw, by rw [hsc]; exact LF.kind, by subst henv; exact LF.gl, by subst henv; exact LF.bi, λ _ => hh, ac (a6 (by decide : 1 + 0 <= 3) _) hd, ac (a6 (by decide : 3 + 8 * 0 <= 9) _) hu, λ y k h => by rw [(ug h).1]; rfl, λ y h => (by cases (ug h).2), λ y h => by rcases h with h | h <;> cases (ug h).2⟩
 have S : ES C [("x", some (.tuple (.int i :: r)))] G { s with heap := h', toks := s.toks + 1 } := ⟨st', λ b o e => k1 b o (sub b o e), λ y pv hi hr hx => by
  refine mL λ gk => ?_
  obtain ⟨k, hk'⟩ := pM hi
  obtain ⟨rfl, rfl⟩ := ug hk'
  cases hr
  refine gk ?_
  exact ⟨v, .inl ⟨hk, _, hloc ▸ hns, rfl⟩, hv⟩⟩
 have ev : Ev NW [("x", some (.tuple (.int i :: r)))] (.Subscript (.Name "x" p1) (.Constant (.int 0) ck p2) p3) (.int i) := B6 (λ _ _ => rfl) (λ _ => rfl) (ng rfl rfl rfl) mt (Ay (k := 0) rfl)
 exact Gv.then (ev.at S) λ u s₂ G₂ g p => ⟨p, rf ⟨h', _, rfl, k1⟩ g.k⟩
theorem LZ (hx : K.exn = true) (hP : K.tb = some P) (R : FR c ρ G O m s) (hl : LC la lb ls) (hn : lp.line = 89) : wpAny (Mo c.W) A (eval (.Lambda la lb ls lp) c.env) (Jg c ρ G O m s (MO c.W)) E s := by
 refine mL λ gk => ?_
 obtain ⟨⟨xp, rfl⟩, ⟨yp, ck, cp, sp, rfl⟩, h3, h4, h5, h6⟩ := hl
 obtain ⟨ht, hg, mg, cd, ps, g1, g2, g3, g4, g5, g6, g7, g8⟩ := Gf hx hP R
 refine gk ?_
 have M := c.mkf P hP
 have hcl : closureFor ls c.env = pure [] := by unfold closureFor; rw [h6]; rfl
 have hq : c.env.qual ++ ("<lambda>" : Str) = pO P lp := by
  rw [<- M.qual lp, hn]; rfl
 have F : ∀ {pm cv ctv}, MO c.W (kla_fn "<lambda>" (c.env.qual ++ "<lambda>") ⟨[], [⟨"x", none, xp⟩], none, [], [], none, []⟩ (.Subscript (.Name "x" yp) (.Constant (.int 0) ck cp) sp) ls [] pm cv ctv) := ⟨⟨ck, yp, cp, sp, rfl⟩, rfl, M.gl.symm, M.bi.symm, h3, h5, h4, h6, λ _ => rfl⟩
 refine kla_eval rfl ?_
 cases hf : codeAmong lp ps.toList with
 | some cv => exact kla_makeFunctionHit hcl hg g1 g2 g3 g4 g5 hf g6 λ ctv h' tk k sz => A1 R k sz rfl rfl rfl (hq ▸ g8 lp cv hf) F
 | none => exact kla_makeFunction hcl hg g1 g2 g3 g4 g5 hf g7 g6 λ c' ctv h' tk k s1 s2 rc hP' => AB hx ht R g4 k s1 s2 rc hP' hq rfl rfl rfl rfl F
theorem Gl (h : nG W G (l.map rn) vs) {j : Nat} (hj : j < l.length) : VR W G (rn (l.getD j (0, []))) (vs.getD j .none) := by
 refine mL λ gk => ?_
 obtain ⟨v, hv, hp⟩ := h.get (i := j) (p := rn (l.getD j (0, []))) (by rw [cj, aF hj, ao, aF hj]; rfl)
 refine gk ?_
 rw [ao (l := vs), hv]
 exact hp
theorem Du (h : nG W G (l.map rn) vs) : ∀ {is : List Nat}, (∀ i ∈ is, i < l.length) -> nG W G ((is.map λ i => l.getD i (0, [])).map rn) (is.map λ i => vs.getD i .none)
 | [], _ => rfl
 | i :: is, hl => ⟨_, _, rfl, Gl h (hl i (.head _)), Du h λ j hj => hl j (.tail _ hj)⟩
theorem Lb (hX : K.exn = true) (hP : K.tb = some P) (hxl : K.sc.lookup x = some .local) (ho : K.ow.contains x = true) (hl : (ap.endLine == p.line) = true) (hr : ρ.get x = some (.list (l.map rn))) (h64 : l.length < 64) (hlam : LC la lb ls) (hn : lp.line = 89) (hk : autoParam (4 <= K.k) tD) :
  Ex K ρ (.Expr (.Call (.Attribute (.Name x q) "sort" ap) [] [⟨some "key", .Lambda la lb ls lp, kp⟩] p) p3) (ρ.set x (.list ((qU l).map rn))) .next := λ c G O m s R E hE hX' => by
 have hx : nQ K.sc x = true := pQ.mpr (.inl hxl)
 have mx : ∀ {h u}, oN c m h x u -> m x = some u := λ q => q.elim mI λ q_ => q_.casesOn λ e _ => by rw [hxl] at e; cases e
 refine mL λ gk => ?_
 obtain ⟨_, va, a, us, n, rfl, oa, ha, _, _⟩ := R.var hx ho hr
 refine gk ?_
 refine fH ?_ (by unfold interactive; rw [c.kind]; rfl) rfl
 refine pA hl (by decide : 0 + 1 < 15) rfl rfl (oG va R.ns hx λ pl => ?_)
 refine lH l4 PySem.F.type_list_sort (mP ha) ⟨_, ha, rfl⟩ ?_
 refine callWith_builtin_kwB rfl rfl (evalArgs_kw_nil rfl ?_)
 show wpAny _ _ (evalAll [(do let v <- eval (.Lambda la lb ls lp) c.env; standAt p; pure v)]) _ _ _
 refine ll (aa (ay (LZ hX hP R hlam hn) (λ v s₁ ⟨G₁, f, of, fd, e, R₁, P₁, gf, cls, hd, ⟨cd, oc, cvs, ct, e1, e2, e3, e4⟩, LF⟩ => aa (aI (ai (lD ?_)))) λ _ _ e => e))
 subst e
 refine mL λ gk => ?_
 obtain ⟨_, va', a', us', n', rfl, oa', ha', hr', hc'⟩ := R₁.var hx ho hr
 cases bN ((mx va).symm.trans (mx va'))
 refine gk ?_
 have R₂ : ∀ tk, FR c ρ G₁ O m { s₁ with toks := tk } := λ tk => R₁.go (Go.tok R₁.sub tk)
 have hul := hr'.length
 rw [am] at hul
 show wpAny (Mo c.W) c.A (call (.builtin "list.sort") [.ref a] [(c6 "key", .ref f)]) _ _ _
 have kz : ∀ {j z}, (l.map (·.1))[j]? = some z -> z = (l.getD j (0, [])).1 /\ j < l.length := λ {j z} h => by
  rw [cj] at h
  rw [ao]
  cases e : l[j]? with
  | none => rw [e] at h; cases h
  | some y => rw [e] at h; cases h; exact ⟨rfl, (bH.mp e).1⟩
 refine E9 (kz := l.map (·.1)) ha' (by rw [am, hul]) (by rw [hul]; exact h64) (λ j v z h' tk hv hz kept => ?_) λ h' tk c1 hn kept => ?_
 ·refine mL λ gk => ?_
  obtain ⟨rfl, hj⟩ := kz hz
  refine gk ?_
  have hp := Gl hr' hj
  rw [ao (l := us'), hv] at hp
  have nb : ∀ {b o}, G₁ b = some o -> h'.get? b = some o := λ {b o} e => kept b o (λ q => by rw [q, (R₁.ow _ _ oa').g] at e; cases e) (R₁.sub _ _ e)
  exact Iu (A := c.A.in1) (s := { s₁ with heap := h', toks := tk }) c.hw LF (c.hd c.nh) (ac (a6 (cU hk) _) c.dep) (show c.A.units + 10 <= 9000 from ac (a6 (ac (by decide : 10 <= 8 * 4) (cW 8 hk)) c.A.units) c.uni) (λ b o e => kept b o (λ q => by
   have := (R₁.ow _ _ oa').new
   rw [<- q, c.base _ _ e] at this; cases this) (R₁.base _ _ e)) (nb gf) hd ⟨cd, oc, cvs, ct, e1, nb e2, e3, e4⟩ (λ b o e => nb e) hp
 ·refine ⟨_, .next, ⟨rfl, rfl⟩, rfl, ((R₂ tk).putL (s := { s₁ with toks := tk }) (vs := vY (l.map (·.1)) us') hx ho oa' va' hn kept ?_ ?_).back (P₁.trans (Pz.go (Go.tok R₁.sub tk)))⟩
  ·have e : vY (l.map (·.1)) us' = (uF l.length λ i j => decide ((l.getD i (0, [])).1 < (l.getD j (0, [])).1)).map λ i => us'.getD i .none := by
    unfold vY
    rw [hul]
    congr 2
    funext i j
    unfold Np
    have : ∀ i, (l.map (·.1)).getD i 0 = (l.getD i (0, [])).1 := λ i => by
     rw [ao, ao, cj]
     cases l[i]? <;> rfl
    rw [this, this]
   rw [e]
   exact Du hr' λ i hi => aM.mp (qL.mem_iff.mp hi)
  ·unfold qU
   rw [am, am, qL.length_eq, bh, <- hul]
   exact hc'
end
section
variable {K : Ky} {c : Fc K} {ρ : En} {G G' : Fz} {O : Addr -> Option Tg} {m : Str -> Option Value} {s s' : Shared} {x : Str} {p q : Pos} {xs : List PV} {t : Expr} {b : List Stmt} {Q : En -> Fl -> Prop} {a : Addr} {o : Obj}
theorem FR.freeze (R : FR c ρ G O m s) (oa : O a = some (.own x)) (ha : s.heap.get? a = some o) : ∃ O', FR c (ρ.put x none) (G.add a o) O' m s /\ Pz c G O s (G.add a o) O' s /\ O' a = none := by
 have ne : ∀ {b t}, O b = some t -> t ≠ .own x -> b ≠ a := λ e h q => by rw [q, oa] at e; cases e; exact h rfl
 have ga := (R.ow _ _ oa).g
 have ad : ∀ b, b ≠ a -> (G.add a o) b = G b := λ b h => if_neg h
 have le : G.le (G.add a o) := λ b ob e => (ad b λ q => by rw [q, ga] at e; cases e).trans e
 have no : ∀ b, b ≠ a -> (if b = a then none else O b) = O b := λ b h => if_neg h
 have k : Kx (· = a) G s (G.add a o) s := ⟨⟨_, _, rfl⟩, λ _ _ _ e => e, λ b _ h _ => ad b h, le, λ b ob e => by
  by_cases q : b = a
  ·subst q; rw [Fz.add_self] at e; cases e; exact ha
  ·rw [ad b q] at e; exact R.sub b ob e⟩
 have nO : ∀ {b t}, (if b = a then none else O b) = some t -> b ≠ a /\ O b = some t := λ {b t} e => by
  by_cases q : b = a
  ·rw [if_pos q] at e; cases e
  ·exact ⟨q, (no b q) ▸ e⟩
 refine ⟨λ b => if b = a then none else O b, R.core k (λ b e => by rw [e]; exact ⟨(R.ow _ _ oa).new, (R.ow _ _ oa).fr⟩) (λ b t e => ?_) ((no _ (ne R.fo nofun)).trans R.fo) R.ns (λ y hy => ?_) λ y p hr hy => ?_, ⟨λ _ _ _ _ e => e, λ b o h _ e => ?_, le⟩, if_pos rfl⟩
 ·refine mL λ gk => ?_
  obtain ⟨q, e⟩ := nO e
  refine gk ?_
  have w := R.ow b t e
  exact ⟨(ad b q).trans w.g, w.new, w.al, w.fr⟩
 ·refine mL λ gk => ?_
  obtain ⟨d, o', h1, h2, h3⟩ := R.cel y hy
  refine gk ?_
  exact ⟨d, o', h1, (no _ (ne h2 nofun)).trans h2, h3⟩
 ·rcases DP hr with ⟨_, e⟩ | ⟨n, hr⟩
  ·cases e
  ·obtain ⟨v, va, w⟩ := R.val y p hr hy
   exact ⟨v, va, vP.keep (λ b e => ⟨(no _ (ne e λ q => n (by cases q; rfl))).trans e, λ _ e => e⟩) le w⟩
 ·have q : b ≠ a := λ q => by rw [q, oa] at h; cases h
  exact ⟨ad b q, (no b q).trans h⟩
theorem F7 (hx : nQ K.sc x = true) (ho : K.ow.contains x = true) (hr : ρ.get x = some (.list xs)) (g : uW K (ρ.put x none) t b xs Q) : Sx K ρ (.For t (.Name x p) b [] q) Q := λ c G O m s R E hE hX => by
 refine mL λ gk => ?_
 obtain ⟨_, va, a, us, n, rfl, oa, ha, hv, _⟩ := R.var hx ho hr
 obtain ⟨O', R', P', oa'⟩ := R.freeze oa ha
 refine gk ?_
 have ga : (G.add a (lObj us n)) a ≠ none := by rw [Fz.add_self]; exact nofun
 refine lO (oG va R.ns hx (ay (DJ (nt := false) (st := true) R'.sub ha (hv.mono P'.le) λ _ => ga) (λ i s₂ x => ?_) λ _ _ e => e.elim)) λ _ => rfl
 obtain ⟨G₂, I, own, src, tt, e, k, i, sf, h1, h2, h3⟩ := x
 subst e
 have R₂ := R'.go k
 exact g c G O s G₂ O' m s₂ I own src tt R₂ (P'.trans (Pz.go k)) i (λ e => by cases h1 e) (λ b hb => by
  rcases hb with hb | hb
  ·exact ⟨(R'.fresh (h2 b hb)).1, (R'.fresh (h2 b hb)).2.2⟩
  ·rcases h3 rfl b hb with q | q
   ·exact R₂.frozen q
   ·exact ⟨(R'.fresh q).1, (R'.fresh q).2.2⟩) (λ b hb => ⟨h2 b hb, (R'.fresh (h2 b hb)).2.1⟩) E hE hX
end
theorem xw (a b : Nat) : cD (a : Int) (b : Int) = ((a &&& b : Nat) : Int) := by
 unfold cD
 simp
theorem rW (x : Int) : bD (bD x) = x := by unfold bD; lia
theorem ud (a : Nat) : decide (0 <= bD (a : Int)) = false := decide_eq_false (by unfold bD; lia)
theorem E4 (a b : Nat) : kE (a : Int) (b : Int) = ((a ||| b : Nat) : Int) := by
 show bD (cD (bD a) (bD b)) = _
 unfold cD
 rw [ud, ud]
 show bD (bD (((bD (bD (a : Int))).toNat ||| (bD (bD (b : Int))).toNat : Nat) : Int)) = _
 rw [rW, rW, rW]; rfl
section
variable {rs : List Nat} {rk : List It} {f w j k : Nat} {y : It} {ks : List Nat}
noncomputable abbrev rg (n : Nat) : List PV := (az n).map λ i => PV.int (i : Nat)
theorem Jw (n : Nat) : Aq 0 1 n = rg n := by
 suffices ∀ n a : Nat, Aq (a : Int) 1 n = (List.range' a n).map λ i => PV.int (i : Nat) by
  unfold rg
  rw [List.range_eq_range']
  exact this n 0
 intro n
 induction n with
 | zero => intro a; rfl
 | succ n ih => intro a; exact congrArg (PV.int (a : Int) :: ·) (ih (a + 1))
noncomputable abbrev yS (f : Nat) (rs : List Nat) (o k : Nat) : Nat := if f.testBit k then o ||| rs.getD k 0 else o
noncomputable def nextN (f : Nat) (rs : List Nat) : Nat := (az rs.length).foldl (yS f rs) 0
theorem AO : ∀ {ks : List Nat} {o : Nat}, (ks.foldl (yS f rs) o).testBit j = (o.testBit j || ks.any λ k => f.testBit k && (rs.getD k 0).testBit j)
 | [], o => (a7 _).symm
 | k :: ks, o => by
  rw [bA, AO, dG]
  unfold yS
  cases f.testBit k with
  | false => rfl
  | true => rw [if_pos rfl, aZ, eI]; rfl
theorem yF : (nextN f rs).testBit j = (az rs.length).any λ k => f.testBit k && (rs.getD k 0).testBit j := by
 unfold nextN
 rw [AO, a8, b7]
noncomputable def rL (rs : List Nat) (w : Nat) (f k : Nat) : Nat := if f.testBit k then f ||| (rs.getD k 0 &&& w) else f
noncomputable def downN (f : Nat) (rs : List Nat) (w : Nat) : Nat := (az rs.length).reverse.foldl (rL rs w) f
theorem qy : (rL rs w f k).testBit j = (f.testBit j || (f.testBit k && ((rs.getD k 0).testBit j && w.testBit j))) := by
 unfold rL
 cases f.testBit k with
 | false => exact (a7 _).symm
 | true => rw [if_pos rfl, aZ, aK]; rfl
theorem FX (h : f.testBit j = true) : (downN f rs w).testBit j = true := by
 unfold downN
 generalize (az rs.length).reverse = ks
 induction ks generalizing f with
 | nil => exact h
 | cons k ks ih => exact ih (by rw [qy, h]; rfl)
theorem FL {S : Nat -> Prop} (hf : ∀ j, f.testBit j = true -> S j) (hc : ∀ k j, S k -> (rs.getD k 0).testBit j = true -> w.testBit j = true -> S j) (h : (downN f rs w).testBit j = true) : S j := by
 unfold downN at h
 generalize (az rs.length).reverse = ks at h
 induction ks generalizing f with
 | nil => exact hf j h
 | cons k ks ih =>
  refine ih (λ i hi => ?_) h
  rw [qy, bq, av, av] at hi
  exact hi.elim (hf i) (by rintro ⟨h1, h2, h3⟩; exact hc k i (hf k h1) h2 h3)
theorem vR (hd : ∀ k j, (rs.getD k 0).testBit j = true -> j < k) : ∀ {ks : List Nat} {f : Nat}, (∀ k ∈ ks, k <= j) -> (ks.foldl (rL rs w) f).testBit j = f.testBit j
 | [], f, h => rfl
 | k :: ks, f, h => by
  rw [bA, vR hd λ x hx => h x (.tail _ hx), qy]
  cases hr : (rs.getD k 0).testBit j with
  | false => rw [d9, bS, a7]
  | true => exact absurd (hd k j hr) (cC (h k (.head _)))
theorem zc (hd : ∀ k j, (rs.getD k 0).testBit j = true -> j < k) (hk : (downN f rs w).testBit k = true) (hj : (rs.getD k 0).testBit j = true) (hw : w.testBit j = true) : (downN f rs w).testBit j = true := by
 have hl : k < rs.length := eG λ h => by
  rw [ao, bn h] at hj
  exact absurd hj (by rw [show (none.getD 0 : Nat) = 0 from rfl, a8]; exact nofun)
 unfold downN at hk |-
 revert hk
 generalize rs.length = n at hl |-
 induction n generalizing f with
 | zero => exact absurd hl (iw _)
 | succ n ih =>
  rw [im, jK]
  show (iF (rL rs w) (rL rs w f n) (az n).reverse).testBit k = true -> (iF (rL rs w) (rL rs w f n) (az n).reverse).testBit j = true
  by_cases hkn : k = n
  ·subst hkn
   intro h
   rw [vR hd λ x hx => a5 (aM.mp (kr.mp hx)), qy, bq] at h
   have hf : f.testBit k = true := h.elim id λ h => (bL.mp h).1
   generalize (az k).reverse = ks
   have : (rL rs w f k).testBit j = true := by rw [qy, hf, hj, hw]; exact cr _
   revert this
   generalize rL rs w f k = g
   intro this
   clear h
   induction ks generalizing g with
   | nil => exact this
   | cons a ks ih' => exact ih' _ (by rw [qy, this]; rfl)
  ·exact ih (dB (br hl) hkn)
noncomputable abbrev x7 (rk : List It) (y : It) (a i : Nat) : Nat := if pF (rk.getD i (0, [])) y then a ||| 2 ^ i else a
noncomputable def sJ (rk : List It) (y : It) : Nat := (az rk.length).foldl (x7 rk y) 0
theorem wE : (sJ rk y).testBit j = (decide (j < rk.length) && pF (rk.getD j (0, [])) y) := by
 have go : ∀ (ks : List Nat) (a : Nat), (ks.foldl (x7 rk y) a).testBit j = true ↔ a.testBit j = true \/ (j ∈ ks /\ pF (rk.getD j (0, [])) y = true) := by
  intro ks
  induction ks with
  | nil => exact λ a => ⟨.inl, λ h => h.elim id λ h => nomatch h.1⟩
  | cons k ks ih =>
   intro a
   rw [bA, ih, ag]
   unfold x7
   by_cases hk : pF (rk.getD k (0, [])) y = true
   ·rw [if_pos hk, aZ, bq, bQ, decide_eq_true_iff]
    constructor
    ·rintro ((h | rfl) | h)
     ·exact .inl h
     ·exact .inr ⟨.inl rfl, hk⟩
     ·exact .inr ⟨.inr h.1, h.2⟩
    ·rintro (h | ⟨rfl | h, g⟩)
     ·exact .inl (.inl h)
     ·exact .inl (.inr rfl)
     ·exact .inr ⟨h, g⟩
   ·rw [if_neg hk]
    exact or_congr_right ⟨λ h => ⟨.inr h.1, h.2⟩, (by rintro ⟨h, g⟩; exact ⟨h.resolve_left λ e => hk (e ▸ g), g⟩)⟩
 unfold sJ
 rw [bI, go, a8, aM, av, decide_eq_true_iff]
 exact ⟨λ h => h.elim nofun id, .inr⟩
noncomputable def ndiff (a b : Nat) : Nat := a ^^^ (a &&& b)
theorem pC (a b k : Nat) : (ndiff a b).testBit k = (a.testBit k && !b.testBit k) := by
 unfold ndiff
 rw [Nat.testBit_xor, aK]
 cases a.testBit k <;> cases b.testBit k <;> rfl
theorem HJ {a b : Nat} (h : a &&& b = 0) : a ||| b = a + b := by
 have hx : a < 2 ^ (a + b) := ar (aV a b) jP
 have hy : b < 2 ^ (a + b) := ar (cV b a) jP
 have h0 : kG a hx &&& kG b hy = 0#(a + b) := BitVec.eq_of_toNat_eq (by rw [BitVec.toNat_and, BitVec.toNat_zero]; exact h)
 have e := BitVec.toNat_add_of_and_eq_zero h0
 rw [BitVec.add_eq_or_of_and_eq_zero _ _ h0, BitVec.toNat_or] at e
 exact e
theorem J2 (a b : Nat) : a - (a &&& b) = ndiff a b := by
 have bits : ∀ {x y : Nat}, (∀ k, x.testBit k = y.testBit k) -> x = y := cR
 have h0 : (a &&& b) &&& ndiff a b = 0 := bits λ k => by
  rw [aK, aK, pC, a8]
  cases a.testBit k <;> cases b.testBit k <;> rfl
 have h1 : (a &&& b) ||| ndiff a b = a := bits λ k => by
  rw [aZ, aK, pC]
  cases a.testBit k <;> cases b.testBit k <;> rfl
 have h := HJ h0
 rw [h1] at h
 exact Nat.sub_eq_of_eq_add' h
end
noncomputable abbrev zl (rs : List Nat) : List PV := rs.map λ r => PV.int (r : Nat)
noncomputable abbrev pI (l : List It) : List PV := l.map rn
section
variable {a b k f n : Nat} {x y : It} {rs : List Nat} {rk : List It} {op : CmpOp}
theorem oq : Bo .BitAnd (.int a) (.int b) (.int ((a &&& b : Nat) : Int)) := xw a b ▸ za
theorem nz : Bo .BitAnd (.int a) (.int 1) (.int ((a &&& 1 : Nat) : Int)) := oq
theorem pd : Bo .BitOr (.int a) (.int b) (.int ((a ||| b : Nat) : Int)) := E4 a b ▸ N4
theorem Hr (a k : Nat) : (a : Int).fdiv (2 ^ (k : Int).toNat) = ((a >>> k : Nat) : Int) := by
 rw [dp, iW]
 have h2 : (2 : Int) ^ k = ((2 ^ k : Nat) : Int) := by simp
 rw [h2, iQ _ (bC _)]
 exact (kQ a (2 ^ k)).symm
theorem nX : Bo .RShift (.int a) (.int k) (.int ((a >>> k : Nat) : Int)) := Hr a k ▸ MH (bC k)
theorem pH (h : k <= 1000000) : Bo .LShift (.int 1) (.int k) (.int ((2 ^ k : Nat) : Int)) := by
 have e : (1 : Int) * 2 ^ (k : Int).toNat = ((2 ^ k : Nat) : Int) := by rw [dp, mf]; simp
 exact e ▸ Mp (bC k) (eh.mpr h) (by decide)
theorem Em (f k : Nat) : ((f >>> k) &&& 1) = if f.testBit k then 1 else 0 := by
 rw [Nat.and_one_is_mod, iW, eb]
 rcases iL (f / 2 ^ k) with h | h <;> rw [h] <;> rfl
theorem ot : Co .Eq (.int (((f >>> k) &&& 1 : Nat) : Int)) (.int 1) (f.testBit k) := by
 have e : ((((f >>> k) &&& 1 : Nat) : Int) == 1) = f.testBit k := by rw [Em]; cases f.testBit k <;> rfl
 exact e ▸ oR (.int _ 1)
theorem qC : Co .Eq (.int (((f >>> k) &&& 1 : Nat) : Int)) (.int 0) (!f.testBit k) := by
 have e : ((((f >>> k) &&& 1 : Nat) : Int) == 0) = !f.testBit k := by rw [Em]; cases f.testBit k <;> rfl
 exact e ▸ oR (.int _ 0)
theorem BN : Bo .BitAnd (.int a) (.int ((a : Int) - 1)) (.int ((a &&& (a - 1) : Nat) : Int)) := by
 cases a with
 | zero => exact za
 | succ n => exact (show ((n + 1 : Nat) : Int) - 1 = n from gU n 1) ▸ oq (a := n + 1) (b := n)
theorem wy (a b : Nat) : ((a : Int) == (b : Int)) = (a == b) := by
 rw [bI, beq_iff_eq, beq_iff_eq, Int.ofNat_inj]
theorem nR : Co .Eq (.int a) (.int b) (a == b) := wy a b ▸ oR (.int a b)
theorem uf : Co .NotEq (.int a) (.int b) (!(a == b)) := wy a b ▸ CA (.int a b)
theorem wu : Co .NotEq (.int a) (.int 0) (a != 0) := uf
theorem wm : Co .Eq (.int a) (.int 0) (a == 0) := nR
theorem pX : Bo .BitAnd (.int a) (.int (bD b)) (.int ((ndiff a b : Nat) : Int)) := by
 have e : cD a (bD b) = ((ndiff a b : Nat) : Int) := by
  unfold cD
  rw [ud, decide_eq_true (bC a), rW]
  show (a : Int) - (((a : Int).toNat &&& (b : Int).toNat : Nat) : Int) = _
  rw [dp, dp, <- J2]
  exact (i6 Nat.and_le_left).symm
 exact e ▸ za
theorem oJ {α : Type} {l : List α} {k : Nat} {d : α} (h : k < l.length) : l[k]? = some (l.getD k d) := by
 rw [ao, aF h]; rfl
theorem rv {α : Type} {l : List α} {f : α -> PV} (d : α) (h : k < l.length) : Sb (.list (l.map f)) (.int k) (f (l.getD k d)) :=
 zg (bC k) (by rw [dp, cj, oJ h]; rfl)
theorem th (h : k < rk.length) : Sb (.list (pI rk)) (.int k) (rn (rk.getD k (0, []))) := rv (0, []) h
theorem m5 (h : k < rs.length) : Sb (.list (zl rs)) (.int k) (.int ((rs.getD k 0 : Nat) : Int)) := rv 0 h
end
noncomputable def H8 (f : Str) : List Str :=
 if f == "law" then ["figures", "names", "stamps", "clocks", "kin", "kins", "times", "folk", "turned", "asked", "below"]
 else if f == "_find_lcas" then ["cands", "cstates", "wlst", "results"]
 else if f == "find_octopus_base" then ["next_lcas"]
 else if f == "independent" then ["independent_commits"]
 else []
noncomputable abbrev CU (f : Str) : Sc := (nE f).scope.names
noncomputable abbrev KP (f : Str) (k : Nat) : Ky := { sc := CU f, ow := H8 f, k := k, exn := false }
theorem u3 : ∀ f ∈ ("_find_lcas" : Str) :: qg, zz (nE f).scope (H8 f) (nE f).params = true := by decide
theorem u0 {f : Str} {k : Nat} {vs : List PV} {v : PV} (hf : f ∈ qg) (hl : vs.length = (nE f).params.length) (h : Wp (KP f k) (v6 (CU f) ((nE f).params.zip vs)) (nE f).body (Bl (.ok v))) : Di (k + 1) f vs v :=
 M2 (K := KP f k) ⟨rfl, u3 f (.tail _ hf), rfl, nofun, λ _ _ _ _ _ _ _ => id⟩ hf rfl hl h
section
variable {K : Ky} {ρ : En} {p q : Pos} {Q : En -> Fl -> Prop} {r b : List Stmt} {t it : Expr} {xs : List PV} {x : Str} {e : Expr} {v : PV}
noncomputable def Ls : Stmt -> Expr × List Stmt
 | .For t _ b _ _ => (t, b)
 | .If t b _ _ => (t, b)
 | .While t b _ _ => (t, b)
 | _ => (default, [])
noncomputable abbrev sT (s : Stmt) : Expr := (Ls s).1
noncomputable abbrev sB (s : Stmt) : List Stmt := (Ls s).2
noncomputable abbrev s0 (b : List Stmt) : Stmt := b.headD (.Pass default)
noncomputable abbrev iB (b : List Stmt) (n : Nat) : List Stmt := (sB (s0 b)).drop n
noncomputable def Mf (sc : Sc) (ρ : En) (x : Str) : Option PV := cond (m9 sc x) ((ρ.get x).bind λ v => cond (uN v) (some v) none) none
theorem en (h : Mf K.sc ρ x = some v) : Ev K ρ (.Name x p) v := by
 cases h1 : m9 K.sc x with
 | false => rw [Mf, h1] at h; cases h
 | true =>
  rw [Mf, h1] at h
  obtain ⟨u, h2, h3⟩ := Option.bind_eq_some_iff.mp h
  have h3 : cond (uN u) (some u) none = some v := h3
  cases h4 : uN u with
  | false => rw [h4] at h3; cases h3
  | true =>
   rw [h4] at h3
   cases h3
   exact ng h1 h2 h4
theorem mT {i : Expr} {a b : PV} (h1 : Ev K ρ e a) (h2 : Ev K ρ i b) (h3 : Sb a b v) (hi : autoParam (∀ va vb, subscripted i false va vb = operate [va, vb] (getItem va vb)) tF) (he : autoParam (∀ (_ : Nat) env, eval (.Subscript e i p) env = (do let va <- eval e env; let vb <- holding [va] (eval i env); standAt p; let r <- subscripted i (<- getitemInPython va) va vb; letTemporaryGo e va r; pure r)) tF) : Ev K ρ (.Subscript e i p) v := B6 hi (he 0) h1 h2 h3
theorem o9 {b : Nat} (hg : om K.sc "range" = true) (h : Ev K ρ e (.int b)) (hb : b <= 1000000) (hn : autoParam (mU e) tF) : xQ K ρ (.Call (.Name "range" p) [e] [] q) (rg b) := Jw b ▸ EW hg h hb hn
theorem ED (n : Nat) : Aq ((n : Int) - 1) (-1) n = (az n).reverse.map λ i => PV.int (i : Nat) := by
 induction n with
 | zero => rfl
 | succ n ih =>
  rw [im, jK]
  have e : ((n + 1 : Nat) : Int) - 1 = n := gU n 1
  rw [e]
  exact congrArg (PV.int (n : Nat) :: ·) ih
theorem F5 {e1 e2 e3 : Expr} {b : Nat} (hg : om K.sc "range" = true) (h1 : Ev K ρ e1 (.int ((b : Int) - 1))) (h2 : Ev K ρ e2 (.int (-1))) (h3 : Ev K ρ e3 (.int (-1))) (hb : b <= 1000000) (hn1 : autoParam (mU e1) tF) (hn2 : autoParam (mU e2) tF) (hn3 : autoParam (mU e3) tF) :
  xQ K ρ (.Call (.Name "range" p) [e1, e2, e3] [] q) ((az b).reverse.map λ i => PV.int (i : Nat)) := ED b ▸ CO hg h1 h2 h3 hb hn1 hn2 hn3
theorem nH {α : Type} {f : α -> PV} {l : List α} (hg : om K.sc "len" = true) (h : Ev K ρ e (.list (l.map f))) (hn : autoParam (mU e) tF) (hk : autoParam (K.hd = false) tR) : Ev K ρ (.Call (.Name "len" p) [e] [] q) (.int l.length) := am (as := l) f ▸ Jr hg h hn hk
theorem pW {α : Type} (inj : α -> PV) (L : List α) (hL : xs = L.map inj) (I : List α -> List α -> En -> Prop) (h : xQ K ρ it xs) (h0 : I [] L ρ) (hs : ∀ done a l ρ, done ++ a :: l = L -> I done (a :: l) ρ -> ∃ ρ0, sR K t (inj a) ρ ρ0 /\ Wp K ρ0 b (Au (I (done ++ [a]) l) (tQ K r Q)))
  (h1 : ∀ ρ, I L [] ρ -> Wp K ρ r Q) (hi : autoParam (o7 K.ow it = true) tR) (hf : autoParam (∀ env x, foldedSetIterable it env x = pure x) tF) (ht : autoParam (sr it = true -> BV t) tT) : Wp K ρ (.For t it b [] p :: r) Q := by
 subst hL
 refine zD hi hf ht h (DM inj (λ d l ρ => d ++ l = L /\ I d l ρ) (λ d a l ρ x => ?_) (λ d ρ x => ?_) L [] ρ ⟨rfl, h0⟩)
 ·obtain ⟨ρ0, e1, e2⟩ := hs d a l ρ x.1 x.2
  refine ⟨ρ0, e1, e2.mono λ ρ' fl y => ?_⟩
  have e : d ++ [a] ++ l = L := by rw [bU]; exact x.1
  cases fl with
  | next => exact ⟨e, y⟩
  | cont => exact ⟨e, y⟩
  | _ => exact y
 ·have e : d = L := by rw [<- x.1, cI]
  exact h1 ρ (e ▸ x.2)
theorem oZ (h : mO K ρ e v) (hs : autoParam (∀ l env, swapsWith e (some (.Name x p)) l env = pure false) tF) (hx : autoParam (nQ K.sc x = true) tR) (ho : autoParam (K.ow.contains x = false) tR) : Ex K ρ (.Assign [.Name x p] e q) (ρ.set x v) .next := tJ hs hx (.val ho h)
theorem mW (h : mO K ρ e v) (g : Wp K (ρ.set x v) r Q) (hs : autoParam (∀ l env, swapsWith e (some (.Name x p)) l env = pure false) tF) (hx : autoParam (nQ K.sc x = true) tR) (ho : autoParam (K.ow.contains x = false) tR) : Wp K ρ (.Assign [.Name x p] e q :: r) Q := mQ (oZ h hs hx ho) g
theorem nA (h : mO K ρ e v) (hq : Q ρ (.ret v)) : Wp K ρ (.Return (some e) p :: r) Q := po (HQ h) (λ _ _ _ => rfl) hq
end
theorem Af {α σ β : Type} (f : σ -> α -> σ) (g : σ × β -> α -> β) : ∀ (l : List α) (o : σ) (p : β), (l.foldl (λ (s : σ × β) k => (f s.1 k, g s k)) (o, p)).1 = l.foldl f o
 | [], _, _ => rfl
 | a :: l, o, p => Af f g l _ _
section
variable {K : Ky} {t it : Expr} {b r : List Stmt} {xs : List PV} {p : Pos} {Q : En -> Fl -> Prop}
theorem wB {α σ : Type} (inj : α -> PV) (L : List α) (hL : xs = L.map inj) (E : σ -> Option PV -> En) (step : σ -> α -> σ) (s0 : σ) (k0 : Option PV) (h : xQ K (E s0 k0) it xs) (hs : ∀ a ∈ L, ∀ s k, ∃ ρ0, sR K t (inj a) (E s k) ρ0 /\ Wp K ρ0 b λ ρ' fl => ρ' = E (step s a) (some (inj a)) /\ (fl = .next \/ fl = .cont))
  (h1 : ∀ k, Wp K (E (L.foldl step s0) k) r Q) (hi : autoParam (o7 K.ow it = true) tR) (hf : autoParam (∀ env x, foldedSetIterable it env x = pure x) tF) (ht : autoParam (sr it = true -> BV t) tT) : Wp K (E s0 k0) (.For t it b [] p :: r) Q := by
 subst hL
 refine zD hi hf ht h (Hu inj (λ s : σ × Option PV => E s.1 s.2) (λ s a => (step s.1 a, some (inj a))) L (s0, k0) (λ a ha s => hs a ha s.1 s.2) ?_)
 have := h1 (L.foldl (λ (s : σ × Option PV) a => (step s.1 a, some (inj a))) (s0, k0)).2
 rw [<- Af step λ _ a => some (inj a)] at this
 exact this
end
noncomputable def DC (found : Nat) (rs : List Nat) (out : Nat) (k : Option PV) : En := [("found", some (.int found)), ("roads", some (.list (zl rs))), ("out", some (.int out)), ("k", k)]
theorem sY {j found : Nat} {rs : List Nat} (hl : rs.length <= 1000000) : Di (j + 1) "_law_next" [.int found, .list (zl rs)] (.int ((nextN found rs : Nat) : Int)) := by
 refine u0 (by decide) rfl ?_
 show Wp _ [("found", some (.int found)), ("roads", some (.list (zl rs))), ("out", none), ("k", none)] (_ :: _ :: _ :: []) _
 refine mQ (ρ' := DC found rs 0 none) (oZ (mO.of rfl mt)) (wB (λ k : Nat => PV.int k) (az rs.length) rfl (DC found rs) (yS found rs) 0 none (o9 rfl (nH rfl (en rfl)) hl) (λ k hk s o => ?_) λ k => nA (mO.of rfl (en rfl)) rfl)
 have hk := aM.mp hk
 refine ⟨DC found rs s (some (.int k)), .one rfl, ?_⟩
 show Wp _ _ (_ :: []) _
 refine mV (x := found.testBit k) (mM (mJ (mJ (en rfl) (en rfl) nX) mt nz) mt ot) (λ h => ?_) (λ h => mK (mK ⟨?_, .inl rfl⟩))
 ·exact mQ (ρ' := DC found rs (s ||| rs.getD k 0) (some (.int k))) (oZ (mO.of rfl (mJ (en rfl) (mT (en rfl) (en rfl) (m5 hk)) pd))) (mK (mK ⟨by rw [yS, if_pos h], .inl rfl⟩))
 ·rw [yS, h]; rfl
noncomputable def Ba (out : Sc) (sc : Scope) : Bool := sc.kind == .function && sc.names.all λ y => !(y.1 == ("__debug__" : Str)) && (!(y.1 == ("__classdict__" : Str)) && ((y.2 == .local && sc.names.lookup y.1 == some .local) || (y.2 == .free && (out.lookup y.1 == some .cell || out.lookup y.1 == some .free)) || y.2 == .globalImplicit))
theorem Kc {out : Sc} {sc : Scope} (h : Ba out sc = true) : zQ out sc := by
 simp only [Ba, av, bq, beq_iff_eq, aN, aU] at h
 exact ⟨h.1, λ y hy => ⟨(h.2 y hy).1, (h.2 y hy).2.1⟩, λ y hy => or_assoc.mp (h.2 y hy).2.2⟩
noncomputable def Gw (sc : Sc) (ow : List Str) (g : Comprehension) : Bool := g.is_async == 0 && (tn g.target).all λ x => sc.lookup x == some .local && !ow.contains x
section
variable {K : Ky} {ρ : En} {p q : Pos} {α : Type} {inj f : α -> PV} {c : α -> Bool} {elt : Expr} {g g2 : Comprehension} {sc : Scope} {xs ys : List PV} {l : List α} {ow : List Str}
theorem H1 {sc : Sc} (h : Gw sc ow g = true) (ht : sr g.iter = true -> BV g.target) (hf : ∀ env x, foldedSetIterable g.iter env x = pure x) : wJ sc ow g := by
 simp only [Gw, av, beq_iff_eq, aN, aU] at h
 exact ⟨h.1, λ x hx => (h.2 x hx).1, λ x hx => (h.2 x hx).2, ht, hf⟩
theorem Od (h : ∀ a ∈ l, ∃ ρ', sS g.target (inj a) ρ ρ' /\ qM K ρ' g.ifs (c a) /\ (c a = true -> mO K ρ' elt (f a))) : Cr K elt ρ [g] (l.map inj) ((l.filter c).map f) := by
 induction l with
 | nil => exact .nil
 | cons a l ih =>
  obtain ⟨ρ', h1, h2, h3⟩ := h a (.head _)
  have ih := ih λ b hb => h b (.tail _ hb)
  rw [cw]
  cases e : c a with
  | true => exact .item h1 (e ▸ h2) (h3 e) ih
  | false => exact .skip h1 (e ▸ h2) ih
theorem OW {F : α -> List PV} (hs : o7 K.ow g2.iter = true) (h : ∀ a ∈ l, ∃ ρ' xs, sS g.target (inj a) ρ ρ' /\ qM K ρ' g.ifs true /\ xQ K ρ' g2.iter xs /\ Cr K elt ρ' [g2] xs (F a)) : Cr K elt ρ [g, g2] (l.map inj) (l.flatMap F) := by
 induction l with
 | nil => exact .nil
 | cons a l ih =>
  obtain ⟨ρ', xs, h1, h2, h3, h4⟩ := h a (.head _)
  exact .deep h1 h2 hs h3 h4 (ih λ b hb => h b (.tail _ hb))
theorem Lp {gs : List Comprehension} (h1 : xQ K ρ g.iter xs) (hc : Cr (K.to sc.names) elt (cut sc.names ρ) (g :: gs) xs ys) (hl : ys.length <= cap) (hg : (Ba K.sc sc && ((g :: gs).all (Gw sc.names K.ow) && nV (Jv (g :: gs)))) = true) (ht : ∀ x ∈ g :: gs, (sr x.iter = true -> BV x.target) /\ ∀ env y, foldedSetIterable x.iter env y = pure y) : Lc K ρ elt (g :: gs) sc ys := by
 rw [av, av, aU] at hg
 exact .mk (Kc hg.1) (λ x hx => H1 (hg.2.1 x hx) (ht x hx).1 (ht x hx).2) hg.2.2 h1 hc hl
theorem nF (inj : α -> PV) (c : α -> Bool) (f : α -> PV) (l : List α) (h1 : xQ K ρ g.iter xs) (hx : xs = l.map inj) (hl : l.length <= cap) (hy : ys = (l.filter c).map f)
  (h : ∀ a ∈ l, ∃ ρ', sS g.target (inj a) (cut sc.names ρ) ρ' /\ qM (K.to sc.names) ρ' g.ifs (c a) /\ (c a = true -> mO (K.to sc.names) ρ' elt (f a)))
  (hg : autoParam ((Ba K.sc sc && ([g].all (Gw sc.names K.ow) && nV (Jv [g]))) = true) tR) (ht : autoParam (sr g.iter = true -> BV g.target) tT) (hf : autoParam (∀ env x, foldedSetIterable g.iter env x = pure x) tF) : Lc K ρ elt [g] sc ys := by
 subst hx hy
 exact Lp h1 (Od h) (by rw [am]; exact ac (dH _ _) hl) hg λ x hx => by cases ae.mp hx; exact ⟨ht, hf⟩
theorem oU (inj f : α -> PV) (l : List α) (h1 : xQ K ρ g.iter xs) (hx : xs = l.map inj) (hl : l.length <= cap) (hy : ys = l.map f)
  (h : ∀ a ∈ l, ∃ ρ', sS g.target (inj a) (cut sc.names ρ) ρ' /\ mO (K.to sc.names) ρ' elt (f a)) (hi : autoParam (g.ifs = []) tR)
  (hg : autoParam ((Ba K.sc sc && ([g].all (Gw sc.names K.ow) && nV (Jv [g]))) = true) tR) (ht : autoParam (sr g.iter = true -> BV g.target) tT) (hf : autoParam (∀ env x, foldedSetIterable g.iter env x = pure x) tF) : Lc K ρ elt [g] sc ys :=
 nF inj (λ _ => true) f l h1 hx hl (hy.trans (congrArg (e7 f) (gI.mpr λ _ _ => rfl).symm)) (λ a ha => let ⟨ρ', e1, e2⟩ := h a ha; ⟨ρ', e1, hi ▸ .nil, λ _ => e2⟩) hg ht hf
end
noncomputable abbrev zi (l : List Int) : List PV := l.map .int
noncomputable abbrev zb (l : List Bs) : List PV := l.map .bytes
theorem uV {rs : List Int} {k : Nat} (h : k < rs.length) : Sb (.list (zi rs)) (.int k) (.int (rs.getD k 0)) := rv 0 h
theorem so {rs : List Bs} {k : Nat} (h : k < rs.length) : Sb (.list (zb rs)) (.int k) (.bytes (rs.getD k [])) := rv [] h
noncomputable def Dr (rs : List Nat) (w found : Nat) (k : Option PV) : En := [("found", some (.int found)), ("roads", some (.list (zl rs))), ("within", some (.int w)), ("k", k)]
theorem uX {j found w : Nat} {rs : List Nat} (hl : rs.length <= 1000000) : Di (j + 1) "_law_down" [.int found, .list (zl rs), .int w] (.int ((downN found rs w : Nat) : Int)) := by
 refine u0 (by decide) rfl ?_
 show Wp _ (Dr rs w found none) (_ :: _ :: []) _
 refine wB (λ k : Nat => PV.int k) (az rs.length).reverse rfl (Dr rs w) (rL rs w) found none (F5 rfl (mJ (nH rfl (en rfl)) mt zh) (zk mt) (zk mt) hl) (λ k hk s o => ?_) λ k => nA (mO.of rfl (en rfl)) rfl
 have hk := aM.mp (kr.mp hk)
 refine ⟨Dr rs w s (some (.int k)), .one rfl, ?_⟩
 show Wp _ _ (_ :: []) _
 refine mV (x := s.testBit k) (mM (mJ (mJ (en rfl) (en rfl) nX) mt nz) mt ot) (λ h => ?_) (λ h => mK (mK ⟨?_, .inl rfl⟩))
 ·exact mQ (ρ' := Dr rs w (s ||| (rs.getD k 0 &&& w)) (some (.int k))) (oZ (mO.of rfl (mJ (en rfl) (mJ (mT (en rfl) (en rfl) (m5 hk)) (en rfl) oq) pd))) (mK (mK ⟨by rw [rL, if_pos h], .inl rfl⟩))
 ·rw [rL, h]; rfl
noncomputable def nY (k first others : Nat) (rs : List Nat) (rk : List It) : Bool :=
 let ahead := sJ rk (rk.getD k (0, []))
 let oth := if (others &&& (others - 1)) != 0 then others &&& ahead else others
 (nextN (ahead &&& downN first rs ahead &&& downN oth rs ahead) rs).testBit k
noncomputable def qV (k first : Nat) (rs : List Nat) (rk : List It) (near : Option PV) (others ahead : Nat) (j : Option PV) : En := [("k", some (.int k)), ("first", some (.int first)), ("others", some (.int others)), ("roads", some (.list (zl rs))), ("ranks", some (.list (pI rk))), ("ahead", some (.int ahead)), ("j", j), ("near", near)]
theorem xv {j k first others : Nat} {rs : List Nat} {rk : List It} (hl : rs.length <= 1000000) (hr : rk.length <= 1000000) (hk : k < rk.length) : Di (j + 2) "_law_passed" [.int k, .int first, .int others, .list (zl rs), .list (pI rk)] (.bool (nY k first others rs rk)) := by
 refine u0 (k := j + 1) (by decide) rfl ?_
 show Wp _ [("k", some (.int k)), ("first", some (.int first)), ("others", some (.int others)), ("roads", some (.list (zl rs))), ("ranks", some (.list (pI rk))), ("ahead", none), ("j", none), ("near", none)] (_ :: _ :: _ :: _ :: _ :: []) _
 refine mQ (ρ' := qV k first rs rk none others 0 none) (oZ (mO.of rfl mt)) (wB (λ k : Nat => PV.int k) (az rk.length) rfl (qV k first rs rk none others) (x7 rk (rk.getD k (0, []))) 0 none (o9 rfl (nH rfl (en rfl)) hr) (λ i hi s o => ?_) λ o => ?_)
 ·have hi := aM.mp hi
  refine ⟨qV k first rs rk none others s (some (.int i)), .one rfl, ?_⟩
  show Wp _ _ (_ :: []) _
  refine mV (x := pF (rk.getD i (0, [])) (rk.getD k (0, []))) (mM (mT (en rfl) (en rfl) (th hi)) (mT (en rfl) (en rfl) (th hk)) Lm) (λ h => ?_) (λ h => mK (mK ⟨?_, .inl rfl⟩))
  ·exact mQ (ρ' := qV k first rs rk none others (s ||| 2 ^ i) (some (.int i))) (oZ (mO.of rfl (mJ (en rfl) (mJ mt (en rfl) (pH (by lia))) pd))) (mK (mK ⟨by rw [x7, if_pos h], .inl rfl⟩))
  ·rw [x7, h]; rfl
 show Wp _ (qV k first rs rk none others (sJ rk (rk.getD k (0, []))) o) _ _
 have hp := (rfl : nY k first others rs rk = nY k first others rs rk)
 unfold nY at hp |-
 generalize sJ rk (rk.getD k (0, [])) = ahead at hp |-
 have fin : ∀ oth, Wp (KP "_law_passed" (j + 1)) (qV k first rs rk none oth ahead o) ((nE "_law_passed").body.drop 3) (Bl (.ok (.bool ((nextN (ahead &&& downN first rs ahead &&& downN oth rs ahead) rs).testBit k)))) := λ oth => by
  show Wp _ _ (_ :: _ :: []) _
  exact mQ (ρ' := qV k first rs rk (some (.int ((ahead &&& downN first rs ahead &&& downN oth rs ahead : Nat) : Int))) oth ahead o) (oZ (mO.of rfl (mJ (mJ (en rfl) (nI rfl rfl (.cons (en rfl) (.cons (en rfl) (.cons (en rfl) .nil))) (uX hl) rfl) oq) (nI rfl rfl (.cons (en rfl) (.cons (en rfl) (.cons (en rfl) .nil))) (uX hl) rfl) oq))) (nA (mO.of rfl (oA (mJ (mJ (nI rfl rfl (.cons (en rfl) (.cons (en rfl) .nil)) (sY hl) rfl) (en rfl) nX) mt nz) mt ot)) rfl)
 refine mV (x := (others &&& (others - 1)) != 0) (mM (mJ (en rfl) (mJ (en rfl) mt zh) BN) mt wu) (λ h => ?_) (λ h => mK ?_)
 ·refine mQ (ρ' := qV k first rs rk none (others &&& ahead) ahead o) (oZ (mO.of rfl (mJ (en rfl) (en rfl) oq))) (mK ?_)
  rw [h]; exact fin _
 ·rw [h]; exact fin _
theorem m8 : 8 <= 1000000 := by decide
noncomputable def rR (a b both : Nat) (rs : List Nat) (rk : List It) : Bool := (az rs.length).all λ k => k == a || !both.testBit k || nY k (2 ^ a) (2 ^ b) rs rk
noncomputable def CY (a b both : Nat) (rs : List Nat) (rk : List It) (k : Option PV) : En := [("a", some (.int a)), ("b", some (.int b)), ("both", some (.int both)), ("roads", some (.list (zl rs))), ("ranks", some (.list (pI rk))), ("k", k)]
theorem yj {j a b both : Nat} {rs : List Nat} {rk : List It} (hl : rs.length = 8) (hr : rk.length = 8) (ha : a < 8) (hb : b < 8) : Di (j + 3) "_law_alone" [.int a, .int b, .int both, .list (zl rs), .list (pI rk)] (.bool (rR a b both rs rk)) := by
 refine u0 (k := j + 2) (by decide) rfl ?_
 show Wp _ (CY a b both rs rk none) (_ :: _ :: []) _
 have h1 : rs.length <= 1000000 := hl ▸ m8
 have h2 : rk.length <= 1000000 := hr ▸ m8
 have hp : ∀ d : List Nat, ((∀ i ∈ d, (i == a || !both.testBit i || nY i (2 ^ a) (2 ^ b) rs rk) = true) ↔ d.all (λ k => k == a || !both.testBit k || nY k (2 ^ a) (2 ^ b) rs rk) = true) := λ d => aU.symm
 refine pW (λ k : Nat => PV.int k) (az rs.length) rfl (λ d l ρ => ∃ k, ρ = CY a b both rs rk k /\ d.all (λ k => k == a || !both.testBit k || nY k (2 ^ a) (2 ^ b) rs rk) = true) (o9 rfl (nH rfl (en rfl)) h1) ⟨none, rfl, rfl⟩ (λ d i l ρ hd ⟨k, e, hdone⟩ => ?_) λ ρ ⟨k, e, hdone⟩ => ?_
 ·subst e
  refine ⟨CY a b both rs rk (some (.int i)), .one rfl, ?_⟩
  have hi : i < rk.length := hr ▸ hl ▸ aM.mp (hd ▸ aq d (.head _))
  show Wp _ _ (_ :: []) _
  refine mV (x := (!(i == a) && (both.testBit i && !nY i (2 ^ a) (2 ^ b) rs rk))) (pN (.cons (mM (en rfl) (en rfl) uf) λ _ => .cons (mM (mJ (mJ (en rfl) (en rfl) nX) mt nz) mt ot) λ _ => .one (pc (nv (λ _ _ => rfl) (nI rfl rfl (.cons (en rfl) (.cons (mJ mt (en rfl) (pH (by omega))) (.cons (mJ mt (en rfl) (pH (by omega))) (.cons (en rfl) (.cons (en rfl) .nil))))) (xv h1 h2 hi) rfl) nw)))) (λ h => nA (mO.of rfl pL) ?_) (λ h => mK (mK ⟨_, rfl, ?_⟩))
  ·have : rR a b both rs rk = false := by
    unfold rR
    rw [<- hd, kP, cm]
    revert h
    cases i == a <;> cases both.testBit i <;> cases nY i (2 ^ a) (2 ^ b) rs rk <;> intro h <;> first | exact bS _ | cases h
   exact congrArg (λ x => Rs.ok (.bool x)) this
  ·rw [kP, hdone]
   revert h
   show _ -> ((i == a || !both.testBit i || nY i (2 ^ a) (2 ^ b) rs rk) && true) = true
   cases i == a <;> cases both.testBit i <;> cases nY i (2 ^ a) (2 ^ b) rs rk <;> intro h <;> first | rfl | cases h
 ·subst e
  exact nA (mO.of rfl pL) (congrArg (λ x => Rs.ok (.bool x)) hdone)
noncomputable abbrev yC (c : Nat -> Bool) (s k : Nat) : Nat := if c k then s ||| 2 ^ k else s
noncomputable abbrev Gk (st : List Int) (a k : Nat) : Bool := decide (st.getD k 0 >= st.getD a 0)
noncomputable def oP (st : List Int) (a : Nat) : Nat := (az st.length).foldl (yC (Gk st a)) 0
theorem EM {c : Nat -> Bool} {j : Nat} : ∀ {ks : List Nat} {a : Nat}, (ks.foldl (yC c) a).testBit j = (a.testBit j || (decide (j ∈ ks) && c j)) := by
 intro ks
 induction ks with
 | nil => exact λ {a} => (a7 _).symm
 | cons k ks ih =>
  intro a
  rw [bA, ih]
  unfold yC
  rw [bI]
  by_cases hk : c k = true
  ·rw [if_pos hk, aZ, bQ]
   simp only [bq, av, decide_eq_true_eq, ag]
   constructor
   ·rintro ((h | rfl) | h)
    ·exact .inl h
    ·exact .inr ⟨.inl rfl, hk⟩
    ·exact .inr ⟨.inr h.1, h.2⟩
   ·rintro (h | ⟨rfl | h, g⟩)
    ·exact .inl (.inl h)
    ·exact .inl (.inr rfl)
    ·exact .inr ⟨h, g⟩
  ·rw [if_neg hk]
   simp only [bq, av, decide_eq_true_eq, ag]
   exact or_congr_right ⟨λ h => ⟨.inr h.1, h.2⟩, (by rintro ⟨h, g⟩; exact ⟨h.resolve_left λ e => hk (e ▸ g), g⟩)⟩
theorem FM (st : List Int) (a j : Nat) : (oP st a).testBit j = (decide (j < st.length) && decide (st.getD j 0 >= st.getD a 0)) := by
 unfold oP
 rw [EM, a8, b7]
 congr 2
 exact propext aM
noncomputable def qd (rs : List Nat) (late : Nat) : List Nat := rs.map λ r => r &&& late
noncomputable def qf (a b : Nat) (told : Bool) (st : List Int) (bl rs : List Nat) (rk : List It) : Bool :=
 let late := oP st a
 let both := downN (2 ^ a) (qd rs late) late &&& downN (2 ^ b) (qd rs late) late
 if told || !(bl.getD b 0).testBit a then told == (bl.getD b 0).testBit a
 else !both.testBit a || !rR a b both (qd rs late) rk
theorem Jq {a b : Int} : Co .GtE (.int a) (.int b) (decide (a >= b)) := Lk
theorem JK {a b : Bool} : Co .Eq (.bool a) (.bool b) (a == b) := oR (.bool a b)
structure Nv where
 a : Nat
 b : Nat
 told : Bool
 st : List Int
 bl : List Nat
 rs : List Nat
 rk : List It
noncomputable abbrev Nv.fw (S : Nv) : Bool := qf S.a S.b S.told S.st S.bl S.rs S.rk
noncomputable def qI (S : Nv) (forebear lean both : Option PV) (late : Nat) (k : Option PV) : En := [("a", some (.int S.a)), ("b", some (.int S.b)), ("told", some (.bool S.told)), ("stamps", some (.list (zi S.st))), ("below", some (.list (zl S.bl))), ("roads", some (.list (zl S.rs))), ("ranks", some (.list (pI S.rk))), ("forebear", forebear), ("late", some (.int late)), ("k", k), ("lean", lean), ("both", both)]
noncomputable def yc (S : Nv) (forebear late : Option PV) : En := [("a", some (.int S.a)), ("b", some (.int S.b)), ("told", some (.bool S.told)), ("stamps", some (.list (zi S.st))), ("below", some (.list (zl S.bl))), ("roads", some (.list (zl S.rs))), ("ranks", some (.list (pI S.rk))), ("forebear", forebear), ("late", late), ("k", none), ("lean", none), ("both", none)]
theorem AG {j : Nat} (S : Nv) (hs : S.st.length = 8) (hbl : S.bl.length = 8) (hl : S.rs.length = 8) (hr : S.rk.length = 8) (ha : S.a < 8) (hb : S.b < 8) : Di (j + 4) "_law_forward" [.int S.a, .int S.b, .bool S.told, .list (zi S.st), .list (zl S.bl), .list (zl S.rs), .list (pI S.rk)] (.bool S.fw) := by
 refine u0 (k := j + 3) (by decide) rfl ?_
 show Wp _ (yc S none none) (_ :: _ :: _ :: _ :: _ :: _ :: _ :: []) _
 have e : ∀ x, S.fw = x -> Rs.ok (.bool (S.fw)) = .ok (.bool x) := λ x h => h ▸ rfl
 refine mQ (ρ' := yc S (some (.bool ((S.bl.getD S.b 0).testBit S.a))) none) (oZ (mO.of rfl (oA (mJ (mJ (mT (en rfl) (en rfl) (m5 (by omega))) (en rfl) nX) mt nz) mt ot))) (mV (x := S.told || !(S.bl.getD S.b 0).testBit S.a) (sq (.cons (nv (λ _ _ => rfl) (en rfl) nw) λ _ => .one (pc (nv (λ _ _ => rfl) (en rfl) nw)))) (λ h => nA (v := .bool (S.told == (S.bl.getD S.b 0).testBit S.a)) (mO.of rfl (oA (en rfl) (en rfl) JK)) (e _ (if_pos h))) λ h => mK ?_)
 have e := λ x h' => e x ((if_neg (by rw [h]; exact nofun)).trans h')
 refine mQ (ρ' := qI S (some (.bool ((S.bl.getD S.b 0).testBit S.a))) none none 0 none) (oZ (mO.of rfl mt)) (wB (λ k : Nat => PV.int k) (az S.st.length) rfl (qI S (some (.bool ((S.bl.getD S.b 0).testBit S.a))) none none) (yC (Gk S.st S.a)) 0 none (o9 rfl (nH rfl (en rfl)) (hs ▸ m8)) (λ i hi s k => ?_) λ k => ?_)
 ·have hi := aM.mp hi
  refine ⟨qI S (some (.bool ((S.bl.getD S.b 0).testBit S.a))) none none s (some (.int i)), .one rfl, ?_⟩
  show Wp _ _ (_ :: []) _
  refine mV (x := Gk S.st S.a i) (mM (mT (en rfl) (en rfl) (uV hi)) (mT (en rfl) (en rfl) (uV (by omega))) Jq) (λ h => ?_) (λ h => mK (mK ⟨?_, .inl rfl⟩))
  ·exact mQ (ρ' := qI S (some (.bool ((S.bl.getD S.b 0).testBit S.a))) none none (s ||| 2 ^ i) (some (.int i))) (oZ (mO.of rfl (mJ (en rfl) (mJ mt (en rfl) (pH (by omega))) pd))) (mK (mK ⟨by rw [yC, if_pos h], .inl rfl⟩))
  ·rw [yC, h]; rfl
 show Wp _ (qI S (some (.bool ((S.bl.getD S.b 0).testBit S.a))) none none (oP S.st S.a) k) _ _
 have hl2 : (qd S.rs (oP S.st S.a)).length = 8 := (am _).trans hl
 have hl3 : (qd S.rs (oP S.st S.a)).length <= 1000000 := hl2 ▸ m8
 refine mQ (ρ' := qI S (some (.bool ((S.bl.getD S.b 0).testBit S.a))) (some (.list (zl (qd S.rs (oP S.st S.a))))) none (oP S.st S.a) k) ?_ ?_
 ·refine rZ (oU (λ r : Nat => PV.int r) (λ r : Nat => PV.int ((r &&& oP S.st S.a : Nat) : Int)) S.rs (mY (en rfl)) rfl (hl ▸ by decide) (bk ..) λ r hr => ⟨_, .one, ?_⟩) rfl
  exact mO.of rfl (mJ (en rfl) (en rfl) oq)
 generalize hbo : downN (2 ^ S.a) (qd S.rs (oP S.st S.a)) (oP S.st S.a) &&& downN (2 ^ S.b) (qd S.rs (oP S.st S.a)) (oP S.st S.a) = both
 refine mQ (ρ' := qI S (some (.bool ((S.bl.getD S.b 0).testBit S.a))) (some (.list (zl (qd S.rs (oP S.st S.a))))) (some (.int both)) (oP S.st S.a) k) (hbo ▸ oZ (mO.of rfl (mJ (nI rfl rfl (.cons (mJ mt (en rfl) (pH (by omega))) (.cons (en rfl) (.cons (en rfl) .nil))) (uX hl3) rfl) (nI rfl rfl (.cons (mJ mt (en rfl) (pH (by omega))) (.cons (en rfl) (.cons (en rfl) .nil))) (uX hl3) rfl) oq))) (nA (v := .bool (!both.testBit S.a || !rR S.a S.b both (qd S.rs (oP S.st S.a)) S.rk)) (mO.of rfl (LD (.cons (mO.of rfl (oA (mJ (mJ (en rfl) (en rfl) nX) mt nz) mt qC)) λ _ => .one (mO.of rfl (Mh (nI rfl rfl (.cons (en rfl) (.cons (en rfl) (.cons (en rfl) (.cons (en rfl) (.cons (en rfl) .nil))))) (yj hl2 hr ha hb) rfl) nw))))) (e _ ?_))
 rw [hbo]
theorem uY {α : Type} [BEq α] [LawfulBEq α] {f : α -> PV} (hf : ∀ a b, Eu (f a) (f b) (a == b)) (a b : List α) : MA (a.map f) (b.map f) (a == b) := by
 by_cases h : a.length = b.length
 ·refine .same ?_
  induction a generalizing b with
  | nil => cases d4.mp h.symm; exact .nil
  | cons x a ih => cases b with
   | nil => cases h
   | cons y b => exact .cons (hf x y) (ih b (iA h))
 ·rw [show (a == b) = false from beq_eq_false_iff_ne.mpr λ e => h (e ▸ rfl)]
  exact .len (by rw [am, am]; exact h)
theorem sL {α : Type} [BEq α] [LawfulBEq α] [DecidableEq α] {f : α -> PV} (hf : ∀ a b, Nl (f a) (f b) (a == b)) (x : α) (l : List α) : Bm (f x) (l.map f) (decide (x ∈ l)) := by
 induction l with
 | nil => exact .nil
 | cons y l ih =>
  have e : decide (x ∈ y :: l) = (y == x || decide (x ∈ l)) := by
   rw [bI, bq, decide_eq_true_iff, decide_eq_true_iff, beq_iff_eq, ag]
   exact or_congr_left eq_comm
  rw [e]
  exact .cons (hf y x) ih
theorem IR (a b : Nat) : Eu (.int a) (.int b) (a == b) := wy a b ▸ .int a b
section
variable {a b : List Bs} {x : Bs} {m n : List Int} {k : Nat} {l : List Nat} {ls : List PV}
theorem zW : Co .Eq (.list (zb a)) (.list (zb b)) (a == b) := zq (uY .bytes a b)
theorem wC : Co .NotEq (.list (zb a)) (.list (zb b)) (!(a == b)) := B4 (uY .bytes a b)
theorem Dz : Co .In (.bytes x) (.list (zb b)) (decide (x ∈ b)) := LH rfl (sL (λ a b => .base (.bytes a b)) x b)
theorem IL : Co .NotIn (.bytes x) (.list (zb b)) (!decide (x ∈ b)) := CK rfl (sL (λ a b => .base (.bytes a b)) x b)
theorem Kj : Co .Eq (.list (zi m)) (.list (zi n)) (m == n) := zq (uY .int m n)
theorem Jd : Co .NotEq (.list (zi m)) (.list (zi n)) (!(m == n)) := B4 (uY .int m n)
theorem Kf : Co .In (.int k) (.list (zl l)) (decide (k ∈ l)) := LH rfl (sL (λ a b => .base (IR a b)) k l)
theorem wN : Co .NotIn (.int k) (.list (zl l)) (!decide (k ∈ l)) := CK rfl (sL (λ a b => .base (IR a b)) k l)
theorem Ec : MA ls [] ls.isEmpty := by
 cases ls with
 | nil => exact .same .nil
 | cons a l => exact .len nofun
theorem vz : Co .Eq (.list ls) (.list []) ls.isEmpty := zq Ec
theorem rD : Co .NotEq (.list ls) (.list []) (!ls.isEmpty) := B4 Ec
end
noncomputable def vO (ids : List Nat) (bl : List Nat) (a : Nat) : List Nat := ids.filter λ b => !(b == a) && (bl.getD b 0).testBit a
structure OP where
 ids : List Nat
 told : List Bs
 nm : List Bs
 bl : List Nat
 rs : List Nat
 rk : List It
structure B8 (S : OP) : Prop where
 rows : S.told = (S.ids.filter λ k => decide (S.nm.getD k [] ∈ S.told)).map λ k => S.nm.getD k []
 out : ∀ a ∈ S.ids, S.nm.getD a [] ∉ S.told -> vO S.ids S.bl a ≠ []
 inn : ∀ a ∈ S.ids, S.nm.getD a [] ∈ S.told -> ∀ b ∈ vO S.ids S.bl a, rR a b (S.bl.getD a 0) S.rs S.rk = false
noncomputable def Dn (S : OP) (a heirs : Option PV) : En := [("ids", some (.list (zl S.ids))), ("told", some (.list (zb S.told))), ("names", some (.list (zb S.nm))), ("below", some (.list (zl S.bl))), ("roads", some (.list (zl S.rs))), ("ranks", some (.list (pI S.rk))), ("a", a), ("heirs", heirs)]
theorem G1 {j : Nat} (S : OP) (hn : S.nm.length = 8) (hbl : S.bl.length = 8) (hl : S.rs.length = 8) (hr : S.rk.length = 8) (hi : ∀ k ∈ S.ids, k < 8) (hcap : S.ids.length <= cap) (H : B8 S) : Di (j + 4) "_law_kept" [.list (zl S.ids), .list (zb S.told), .list (zb S.nm), .list (zl S.bl), .list (zl S.rs), .list (pI S.rk)] (.bool true) := by
 refine u0 (k := j + 3) (by decide) rfl ?_
 show Wp _ (Dn S none none) (_ :: _ :: _ :: []) _
 refine mV (x := !(S.told == S.told)) (mM (b := .list (zb S.told)) (en rfl) (n8 (nF (λ k : Nat => PV.int k) (λ k => decide (S.nm.getD k [] ∈ S.told)) (λ k => PV.bytes (S.nm.getD k [])) S.ids (mY (en rfl)) rfl hcap (congrArg zb H.rows |>.trans (bk ..)) λ k hk => ⟨_, .one, ?_, λ _ => ?_⟩)) wC) (λ h => by rw [beq_self_eq_true] at h; cases h) λ _ => mK ?_
 ·have := hi k hk
  exact .one (mM (mT (en rfl) (en rfl) (so (by omega))) (en rfl) Dz)
 ·have := hi k hk
  exact mO.of rfl (mT (en rfl) (en rfl) (so (by omega)))
 refine pW (λ k : Nat => PV.int k) S.ids rfl (λ d l ρ => ∃ a h, ρ = Dn S a h) (mY (en rfl)) ⟨none, none, rfl⟩ (λ d a l ρ hd ⟨x, h, e⟩ => ?_) λ ρ ⟨a, h, e⟩ => e ▸ nA (mO.of rfl pL) rfl
 subst e
 have hm : a ∈ S.ids := hd ▸ aq d (.head _)
 have ha := hi a hm
 refine ⟨_, .one rfl, ?_⟩
 show Wp _ (Dn S (some (.int a)) h) (_ :: _ :: []) _
 refine mQ (rZ (nF (λ k : Nat => PV.int k) (λ b => !(b == a) && (S.bl.getD b 0).testBit a) (λ k => PV.int k) S.ids (mY (en rfl)) rfl hcap rfl λ k hk => ⟨_, .one, ?_, λ _ => ?_⟩) rfl) ?_
 ·have := hi k hk
  exact .one (pN (.cons (mM (en rfl) (en rfl) uf) λ _ => .one (mM (mJ (mJ (mT (en rfl) (en rfl) (m5 (by omega))) (en rfl) nX) mt nz) mt ot)))
 ·exact mO.of rfl (en rfl)
 show Wp _ (Dn S (some (.int a)) (some (.list (zl (vO S.ids S.bl a))))) _ _
 refine mV (x := !decide (S.nm.getD a [] ∈ S.told)) (mM (mT (en rfl) (en rfl) (so (by omega))) (en rfl) IL) (λ h1 => ?_) (λ h1 => ?_)
 ·refine mV (x := (zl (vO S.ids S.bl a)).isEmpty) (mM (en rfl) (nK .nil (by decide)) vz) (λ h2 => ?_) (λ _ => mK (mK (mK ⟨_, _, rfl⟩)))
  exact absurd (dr.mp (fN.mp h2)) (H.out a hm (of_decide_eq_false ((aN _).mp h1)))
 ·have hh : (vO S.ids S.bl a).filter (λ b => rR a b (S.bl.getD a 0) S.rs S.rk) = [] := fW.mpr λ b hb => by
   rw [H.inn a hm (of_decide_eq_true ((dZ _).mp h1)) b hb]
   exact nofun
  refine mV (x := false) (mM (a := .list []) (n8 (nF (λ k : Nat => PV.int k) (λ b => rR a b (S.bl.getD a 0) S.rs S.rk) (λ k => PV.int k) (vO S.ids S.bl a) (mY (en rfl)) rfl (ac (dH _ _) hcap) (by rw [hh]; rfl) λ b hb => ⟨_, .one, ?_, λ _ => ?_⟩)) (nK nJ.nil (by decide)) rD) nofun (λ _ => mK (mK (mK ⟨_, _, rfl⟩)))
  ·have : b < 8 := hi b (bF.mp hb).1
   exact .one (nv (λ _ _ => rfl) (nI rfl rfl (.cons (en rfl) (.cons (en rfl) (.cons (mT (en rfl) (en rfl) (m5 (by omega))) (.cons (en rfl) (.cons (en rfl) .nil))))) (yj hl hr ha this) rfl) nw)
  ·exact mO.of rfl (en rfl)
theorem Io (a : List Nat) : ∀ b, DO (zl a) (zl b) = (a.zip b).map λ p => PV.tuple [.int (p.1 : Nat), .int (p.2 : Nat)] := by
 induction a with
 | nil => exact λ b => rfl
 | cons x a ih => exact λ b => match b with
  | [] => rfl
  | y :: b => congrArg (PV.tuple [.int (x : Nat), .int (y : Nat)] :: ·) (ih b)
noncomputable def setN (l : List Nat) : Nat := l.foldl (λ o k => o ||| 2 ^ k) 0
noncomputable def t6 (bl : List Nat) (l : List Nat) : Nat := l.foldl (λ o k => o ||| bl.getD k 0) 0
theorem Ep (f : Nat -> Nat) (j : Nat) (l : List Nat) : (l.foldl (λ o k => o ||| f k) 0).testBit j = l.any λ k => (f k).testBit j := by
 suffices ∀ a, (l.foldl (λ o k => o ||| f k) a).testBit j = (a.testBit j || l.any λ k => (f k).testBit j) by
  rw [this, a8, b7]
 induction l with
 | nil => exact λ a => (a7 _).symm
 | cons k l ih => intro a; rw [bA, ih, aZ, dG, eI]
theorem u8 {d : List Nat} {a : Nat} : setN (d ++ [a]) = setN d ||| 2 ^ a := bT
theorem BS {bl d : List Nat} {a : Nat} : t6 bl (d ++ [a]) = t6 bl d ||| bl.getD a 0 := bT
theorem nu (l : List Nat) (j : Nat) : (setN l).testBit j = decide (j ∈ l) := by
 unfold setN
 rw [Ep λ k => 2 ^ k, bI, cA, decide_eq_true_iff]
 constructor
 ·rintro ⟨k, hk, h⟩
  rw [bQ, decide_eq_true_iff] at h
  exact h ▸ hk
 ·exact λ h => ⟨j, h, by rw [bQ]; exact decide_eq_true rfl⟩
theorem C0 (bl : List Nat) (l : List Nat) (j : Nat) : (t6 bl l).testBit j = l.any λ k => (bl.getD k 0).testBit j := Ep _ j l
noncomputable def w6 (both : Nat) (rs : List Nat) : Nat := ndiff both (nextN both rs)
structure NB where
 i0 : Nat
 tl : List Nat
 spots : List Nat
 bl : List Nat
 rs : List Nat
 rk : List It
noncomputable def NB.both (S : NB) : Nat := S.bl.getD S.i0 0 &&& t6 S.bl S.tl
structure Dj (S : NB) : Prop where
 nodup : S.spots.Nodup
 both : ∀ k ∈ S.spots, S.both.testBit k = true
 pass : ∀ k ∈ S.spots, (w6 S.both S.rs).testBit k = false -> nY k (2 ^ S.i0) (setN S.tl) S.rs S.rk = false
 sorted : ∀ x ∈ S.spots.zip (S.spots.drop 1), ¬ (S.rk.getD x.1 (0, [])).1 < (S.rk.getD x.2 (0, [])).1
 top : ndiff (w6 S.both S.rs) (setN S.spots) = 0
 free : setN S.spots &&& nextN (setN S.spots) S.rs = 0
noncomputable def tM (S : NB) (others reach mask k both top a b : Option PV) : En := [("ids", some (.list (zl (S.i0 :: S.tl)))), ("spots", some (.list (zl S.spots))), ("below", some (.list (zl S.bl))), ("roads", some (.list (zl S.rs))), ("ranks", some (.list (pI S.rk))), ("others", others), ("reach", reach), ("mask", mask), ("k", k), ("both", both), ("top", top), ("a", a), ("b", b)]
theorem qX {a : PV} {l : List PV} : Sb (.list (a :: l)) (.int 0) a := zg (by decide) rfl
theorem tm {K : Ky} {ρ : En} {e : Expr} {n : Nat} {p q r : Pos} {α : Type} {f : α -> PV} {l : List α} (h : Ev K ρ e (.list (l.map f))) : Ev K ρ (.Subscript e (.Slice (some (.Constant (.int 1) n p)) none none q) r) (.list ((l.drop 1).map f)) :=
 (ly (f := f) (l := l) (i := 1)).symm ▸ sH (i := some 1) (j := none) h (.some mt) .none
theorem Bh {a b : PV} : Sb (.tuple [a, b]) (.int 0) a := Ay (k := 0) rfl
theorem FY {j : Nat} (S : NB) (hbl : S.bl.length = 8) (hl : S.rs.length = 8) (hr : S.rk.length = 8) (hi0 : S.i0 < 8) (hi : ∀ k ∈ S.tl, k < 8) (hsp : ∀ k ∈ S.spots, k < 8) (H : Dj S) : Di (j + 3) "_law_bases" [.list (zl (S.i0 :: S.tl)), .list (zl S.spots), .list (zl S.bl), .list (zl S.rs), .list (pI S.rk)] (.bool true) := by
 refine u0 (k := j + 2) (by decide) rfl ?_
 show Wp _ (tM S none none none none none none none none) (_ :: _ :: _ :: _ :: _ :: _ :: _ :: []) _
 have hl3 : S.rs.length <= 1000000 := hl ▸ m8
 have hr3 : S.rk.length <= 1000000 := hr ▸ m8
 have z : ∀ {ρ : En} {p : Pos} {x : Str}, (KP "_law_bases" (j + 2)).ow.contains x = false -> Vf (KP "_law_bases" (j + 2)) ρ x (.Constant (.int 0) 0 p) (.int ((0 : Nat) : Int)) := λ h => .val h (mO.of rfl mt)
 refine mQ (w9 rfl (.cons (λ _ _ => rfl) (z rfl) (.cons (λ _ _ => rfl) (z rfl) (.cons (λ _ _ => rfl) (z rfl) .nil))) (.cons rfl (.cons rfl (.cons rfl .nil))) (by decide : 3 <= cap)) ?_
 refine pW (λ k : Nat => PV.int k) S.tl rfl (λ d l ρ => ∃ k, ρ = tM S (some (.int (setN d : Nat))) (some (.int (t6 S.bl d : Nat))) (some (.int ((0 : Nat) : Int))) k none none none none) (mY (tm (f := λ k : Nat => PV.int k) (l := S.i0 :: S.tl) (en rfl))) ⟨none, rfl⟩ (λ d a l ρ hd q_ => q_.casesOn λ k e => ?_) λ ρ q_ => q_.casesOn λ k e => ?_
 ·subst e
  have ha : a < 8 := hi a (hd ▸ aq d (.head _))
  refine ⟨_, .one rfl, ?_⟩
  show Wp _ _ (_ :: _ :: []) _
  refine mW (mO.of rfl (mJ (en rfl) (mJ mt (en rfl) (pH (by omega))) pd)) ?_
  refine mW (mO.of rfl (mJ (en rfl) (mT (en rfl) (en rfl) (m5 (by omega))) pd)) ?_
  refine mK ⟨some (.int a), ?_⟩
  rw [u8, BS]
  rfl
 subst e
 have Hb := H.both
 have Hp := H.pass
 have Ht := H.top
 refine mW (mO.of rfl (mJ (mT (en rfl) (mT (en rfl) mt qX) (m5 (by omega))) (en rfl) oq)) ?_
 show Wp _ (tM S _ _ _ k (some (.int S.both)) none none none) _ _
 refine mW (mO.of rfl (mJ (en rfl) (tP (nI rfl rfl (.cons (en rfl) (.cons (en rfl) .nil)) (sY hl3) rfl)) pX)) ?_
 show Wp _ (tM S _ _ _ k (some (.int S.both)) (some (.int (w6 S.both S.rs))) none none) _ _
 generalize S.both = both at *
 generalize w6 both S.rs = top at *
 generalize setN S.tl = others at *
 generalize t6 S.bl S.tl = reach
 refine pW (λ k : Nat => PV.int k) S.spots rfl (λ d l ρ => ∃ k, ρ = tM S (some (.int others)) (some (.int reach)) (some (.int (setN d : Nat))) k (some (.int both)) (some (.int top)) none none) (mY (en rfl)) ⟨_, rfl⟩ (λ d a l ρ hd q_ => q_.casesOn λ k e => ?_) λ ρ q_ => q_.casesOn λ k e => ?_
 ·subst e
  have hm : a ∈ S.spots := hd ▸ aq d (.head _)
  have ha : a < 8 := hsp a hm
  refine ⟨_, .one rfl, ?_⟩
  show Wp _ (tM S (some (.int others)) (some (.int reach)) (some (.int (setN d : Nat))) (some (.int a)) (some (.int both)) (some (.int top)) none none) (_ :: _ :: _ :: []) _
  refine mV (x := ((setN d).testBit a || !both.testBit a)) (sq (.cons (mM (mJ (mJ (en rfl) (en rfl) nX) mt nz) mt ot) λ _ => .one (mM (mJ (mJ (en rfl) (en rfl) nX) mt nz) mt qC))) (λ h => ?_) (λ h => mK ?_)
  ·rw [nu, Hb a hm, gK, a7, decide_eq_true_iff] at h
   have hn := H.nodup
   rw [<- hd, cT] at hn
   exact absurd rfl (hn.2.2 a h a (.head _))
  refine mV (x := (!top.testBit a && nY a (2 ^ S.i0) others S.rs S.rk)) (pN (.cons (mM (mJ (mJ (en rfl) (en rfl) nX) mt nz) mt qC) λ _ => .one (nv (λ _ _ => rfl) (nI rfl rfl (.cons (en rfl) (.cons (mJ mt (mT (en rfl) mt qX) (pH (by omega))) (.cons (en rfl) (.cons (en rfl) (.cons (en rfl) .nil))))) (xv hl3 hr3 (by omega)) rfl) nw))) (λ h => ?_) (λ h => mK ?_)
  ·rw [av, aN] at h
   rw [Hp a hm h.1] at h
   cases h.2
  refine mW (mO.of rfl (mJ (en rfl) (mJ mt (en rfl) (pH (by omega))) pd)) ?_
  refine mK ⟨some (.int a), ?_⟩
  rw [u8]
  rfl
 subst e
 refine pW (λ p : Nat × Nat => PV.tuple [.int p.1, .int p.2]) (S.spots.zip (S.spots.drop 1)) (Io _ _) (λ d l ρ => ∃ a b, ρ = tM S (some (.int others)) (some (.int reach)) (some (.int (setN S.spots : Nat))) k (some (.int both)) (some (.int top)) a b) (JC rfl (mO.of rfl (en rfl)) (mO.of rfl (tm (en rfl)))) ⟨none, none, rfl⟩ (λ d p l ρ hd h => ?_) λ ρ h => ?_
 ·obtain ⟨a, b, rfl⟩ := h
  have hm : p ∈ S.spots.zip (S.spots.drop 1) := hd ▸ aq d (.head _)
  have hx : p.1 < 8 := hsp _ (eM (show (p.1, p.2) ∈ _ from hm)).1
  have hy : p.2 < 8 := hsp _ (gh (eM (show (p.1, p.2) ∈ _ from hm)).2)
  refine ⟨_, .tup (.cons rfl (.cons rfl .nil)), ?_⟩
  show Wp _ _ (_ :: []) _
  exact mV (x := decide ((S.rk.getD p.1 (0, [])).1 < (S.rk.getD p.2 (0, [])).1)) (mM (mT (mT (en rfl) (en rfl) (th (by omega))) mt Bh) (mT (mT (en rfl) (en rfl) (th (by omega))) mt Bh) AZ) (λ h => absurd (of_decide_eq_true h) (H.sorted p hm)) λ h => mK (mK ⟨_, _, rfl⟩)
 obtain ⟨a, b, rfl⟩ := h
 refine nA (v := .bool (ndiff top (setN S.spots) == 0 && (setN S.spots &&& nextN (setN S.spots) S.rs) == 0)) (mO.of rfl (vM (.cons (mO.of rfl (oA (mJ (en rfl) (tP (en rfl)) pX) mt wm)) λ _ => .one (mO.of rfl (oA (mJ (en rfl) (nI rfl rfl (.cons (en rfl) (.cons (en rfl) .nil)) (sY hl3) rfl) oq) mt wm))))) ?_
 rw [Ht, H.free]
 rfl
theorem HX (l : List Nat) : zl l = zi (l.map λ k => ((k : Nat) : Int)) := (bk ..).symm
noncomputable def tG (l : List Nat) : List Int := AJ (l.map λ k => ((k : Nat) : Int))
theorem AV {l : List Nat} (h : l.length < 64) : Bi (.builtin "sorted") [.list (zl l)] (.list (zi (tG l))) := HX l ▸ F3 (by rw [am]; exact h)
theorem Kv {x : Nat} : Co .Gt (.int x) (.int 0) (decide (0 < x)) := (show decide ((x : Int) > 0) = decide (0 < x) from decide_eq_decide.mpr dW) ▸ LL
theorem tr {a b : List Nat} (h : a.length + b.length <= cap) : Bo .Add (.list (zl a)) (.list (zl b)) (.list (zl (a ++ b))) := by
 have e : zl (a ++ b) = zl a ++ zl b := bw
 rw [e]
 exact Hs (by rw [<- e, am, aA]; exact h)
noncomputable def nT (n : Nat) : List Nat -> List (Nat × Nat)
 | [] => []
 | a :: l => (n, a) :: nT (n + 1) l
theorem vn (l : List Nat) : ∀ n : Nat, wV n (zl l) = (nT n l).map λ p => PV.tuple [.int p.1, .int p.2] := by
 induction l with
 | nil => exact λ n => rfl
 | cons a l ih => exact λ n => congrArg (PV.tuple [.int n, .int (a : Nat)] :: ·) (ih (n + 1))
theorem yP {p : Nat × Nat} {l : List Nat} : ∀ {n : Nat}, p ∈ nT n l -> p.2 ∈ l := by
 induction l with
 | nil => exact λ h => nomatch h
 | cons a l ih => exact λ h => (ag.mp h).elim (λ e => e ▸ .head _) λ h => .tail _ (ih h)
noncomputable def pT (n m : Nat) : List Nat := (az n).filter λ j => m.testBit j
theorem vk {n m : Nat} : (pT n m).length <= n := ac (dH _ _) (aT bh)
theorem H5 {α β : Type} {f : α -> List β} {c : Nat} (h : ∀ a, (f a).length <= c) (l : List α) : (l.flatMap f).length <= c * l.length := by
 induction l with
 | nil => exact bM _
 | cons a l ih =>
  rw [d7, aA, cu, hJ, ce]
  exact bG ih (h a)
noncomputable def Bb (bl rs : List Nat) (k a : Nat) : Nat := w6 (bl.getD k 0 &&& bl.getD a 0) rs
noncomputable abbrev qQ (bl rs : List Nat) (k a : Nat) : List Nat := pT rs.length (Bb bl rs k a)
structure Ip where
 both : Nat
 region : Nat
 shared : Nat
 seeds : Nat
 due : List Nat
noncomputable def or (bl rs : List Nat) (s : Ip) (p : Nat × Nat) : Ip :=
 ⟨s.both &&& bl.getD p.2 0, s.region ||| bl.getD p.2 0, s.shared ||| (s.region &&& bl.getD p.2 0), s.seeds ||| 2 ^ p.2, if 0 < p.1 then s.due.flatMap (qQ bl rs p.2) else s.due⟩
structure Dx where
 ids : List Nat
 spots : List Nat
 bl : List Nat
 rs : List Nat
 rk : List It
noncomputable def qo (S : Dx) (l : List (Nat × Nat)) : Ip := l.foldl (or S.bl S.rs) ⟨S.bl.getD (S.ids.headD 0) 0, 0, 0, 0, [S.ids.headD 0]⟩
noncomputable def Db (rs : List Nat) (rk : List It) (region : Nat) : Prop := ∀ k < rs.length, ∀ e < k, (region.testBit k && ((rs.getD k 0).testBit e && pF (rk.getD e (0, [])) (rk.getD k (0, [])))) = false
noncomputable abbrev Dx.end (S : Dx) : Ip := qo S (nT 0 S.ids)
structure Lx (S : Dx) : Prop where
 both : ∀ k ∈ S.spots, S.end.both.testBit k = true
 top : ∀ k < S.rs.length, (w6 S.end.both S.rs).testBit k = true -> k ∈ S.spots
 small : ∀ d l, d ++ l = nT 0 S.ids -> (qo S d).due.length < 64 /\ ∀ a ∈ (qo S d).due, a < 8
 due : Db S.rs S.rk (ndiff S.end.region (ndiff S.end.seeds S.end.shared)) -> (∀ k ∈ S.spots, k ∈ S.end.due) /\ S.spots.length < 64 /\ tG S.spots = tG S.end.due
noncomputable def v7 (S : Dx) (s : Ip) (place k fresh a joint top row e : Option PV) : En := [("ids", some (.list (zl S.ids))), ("spots", some (.list (zl S.spots))), ("below", some (.list (zl S.bl))), ("roads", some (.list (zl S.rs))), ("ranks", some (.list (pI S.rk))), ("count", some (.int (S.rs.length : Nat))), ("both", some (.int s.both)), ("region", some (.int s.region)), ("shared", some (.int s.shared)), ("seeds", some (.int s.seeds)), ("due", some (.list (zl s.due))), ("place", place), ("k", k), ("fresh", fresh), ("a", a), ("joint", joint), ("top", top), ("row", row), ("e", e)]
theorem sE {l : List Nat} (h : l ≠ []) : Sb (.list (zl l)) (.int 0) (.int (l.headD 0 : Nat)) := by
 cases l with
 | nil => exact absurd rfl h
 | cons a l => exact qX
theorem qD {α : Type} {p : α -> Bool} {l : List α} (h : ∀ a ∈ l, p a = false) : l.filter p = [] := fW.mpr λ a ha => by rw [h a ha]; exact nofun
section
variable {j : Nat} {S : Dx} {Q : En -> Fl -> Prop}
noncomputable abbrev KO (j : Nat) : Ky := KP "_law_octopus" (j + 1)
noncomputable abbrev pV (n : Nat) : PV := .int n
theorem Ir (hbl : S.bl.length = 8) (hl : S.rs.length = 8) {s : Ip} {pl k : Nat} {f a jo : Option PV} (hk : k < 8) (hd : s.due.length < 64) (ha : ∀ a ∈ s.due, a < 8)
  (hQ : ∀ f a jo, Q (v7 S (or S.bl S.rs s (pl, k)) (some (pV pl)) (some (pV k)) f a jo none none none) .next) : Wp (KO j) (v7 S s (some (pV pl)) (some (pV k)) f a jo none none none) (iB ((nE "_law_octopus").body.drop 3) 0) Q := by
 have hl3 : S.rs.length <= 1000000 := hl ▸ m8
 show Wp _ _ (_ :: _ :: _ :: _ :: _ :: []) _
 refine mW (mO.of rfl (mJ (en rfl) (mT (en rfl) (en rfl) (m5 (by omega))) oq)) ?_
 refine mW (mO.of rfl (mJ (en rfl) (mJ (en rfl) (mT (en rfl) (en rfl) (m5 (by omega))) oq) pd)) ?_
 refine mW (mO.of rfl (mJ (en rfl) (mT (en rfl) (en rfl) (m5 (by omega))) pd)) ?_
 refine mW (mO.of rfl (mJ (en rfl) (mJ mt (en rfl) (pH (by omega))) pd)) ?_
 refine mV (x := decide (0 < pl)) (mM (en rfl) mt Kv) (λ h => ?_) (λ h => mK (mK ?_))
 ·have hst : or S.bl S.rs s (pl, k) = ⟨s.both &&& S.bl.getD k 0, s.region ||| S.bl.getD k 0, s.shared ||| (s.region &&& S.bl.getD k 0), s.seeds ||| 2 ^ k, s.due.flatMap (qQ S.bl S.rs k)⟩ := congrArg (Ip.mk _ _ _ _) (if_pos (of_decide_eq_true h))
  rw [hst] at hQ
  show Wp _ (v7 S ⟨s.both &&& S.bl.getD k 0, s.region ||| S.bl.getD k 0, s.shared ||| (s.region &&& S.bl.getD k 0), s.seeds ||| 2 ^ k, s.due⟩ (some (pV pl)) (some (pV k)) f a jo none none none) (_ :: _ :: _ :: []) _
  generalize s.due = due at *
  generalize s.both &&& S.bl.getD k 0 = bo at *
  generalize s.shared ||| (s.region &&& S.bl.getD k 0) = sh at *
  generalize s.region ||| S.bl.getD k 0 = re at *
  generalize s.seeds ||| 2 ^ k = se at *
  refine mW (mO.of rfl (nK .nil (by decide))) ?_
  refine pW pV due rfl (λ d l ρ => ∃ a jo, ρ = v7 S ⟨bo, re, sh, se, due⟩ (some (pV pl)) (some (pV k)) (some (.list (zl (d.flatMap (qQ S.bl S.rs k))))) a jo none none none) (mY (en rfl)) ⟨_, _, rfl⟩ (λ d a l ρ hd' h => ?_) λ ρ h => ?_
  ·obtain ⟨a0, jo, rfl⟩ := h
   have ha : a < 8 := ha a (hd' ▸ aq d (.head _))
   refine ⟨_, .one rfl, ?_⟩
   show Wp _ _ (_ :: _ :: _ :: []) _
   refine mW (mO.of rfl (mJ (mT (en rfl) (en rfl) (m5 (by omega))) (mT (en rfl) (en rfl) (m5 (by omega))) oq)) ?_
   refine mW (mO.of rfl (mJ (en rfl) (tP (nI rfl rfl (.cons (en rfl) (.cons (en rfl) .nil)) (sY hl3) rfl)) pX)) ?_
   show Wp _ (v7 S ⟨bo, re, sh, se, due⟩ (some (pV pl)) (some (pV k)) (some (.list (zl (d.flatMap (qQ S.bl S.rs k))))) (some (pV a)) (some (pV (Bb S.bl S.rs k a))) none none none) _ _
   refine mW (mO.of rfl (mJ (en rfl) (n8 (nF (ys := zl (qQ S.bl S.rs k a)) pV (λ i => (Bb S.bl S.rs k a).testBit i) pV (az S.rs.length) (o9 rfl (en rfl) hl3) rfl (hl ▸ by decide) rfl λ i hi => ⟨_, .one, .one (mM (mJ (mJ (en rfl) (en rfl) nX) mt nz) mt ot), λ _ => mO.of rfl (en rfl)⟩)) (tr ?_))) (mK ⟨some (pV a), some (pV (Bb S.bl S.rs k a)), ?_⟩)
   ·have h8 : ∀ a, (qQ S.bl S.rs k a).length <= 8 := λ a => hl ▸ vk
    have h2 : d.length <= due.length := by rw [<- hd', aA]; exact aV _ _
    exact ac (bG (H5 h8 d) (h8 a)) (ac (bj (cW 8 (ac h2 (a5 hd))) 8) (by decide))
   ·rw [List.flatMap_append, d7, List.flatMap_nil, cI]; rfl
  ·obtain ⟨a, jo, rfl⟩ := h
   refine mW (mO.of rfl (en rfl)) ?_
   exact mK (mK (hQ _ _ _))
 ·have hst : or S.bl S.rs s (pl, k) = ⟨s.both &&& S.bl.getD k 0, s.region ||| S.bl.getD k 0, s.shared ||| (s.region &&& S.bl.getD k 0), s.seeds ||| 2 ^ k, s.due⟩ := congrArg (Ip.mk _ _ _ _) (if_neg (of_decide_eq_false h))
  rw [hst] at hQ
  exact hQ f a jo
end
section
variable {j : Nat} {S : Dx} {Q : En -> Fl -> Prop}
theorem KU (hl : S.rs.length = 8) (hr : S.rk.length = 8) (hsl : S.spots.length <= cap) {s : Ip} {pl k f a jo : Option PV} (hdl : s.due.length < 64) (HB : ∀ k ∈ S.spots, s.both.testBit k = true) (HT : ∀ k < S.rs.length, (w6 s.both S.rs).testBit k = true -> k ∈ S.spots)
  (HD : Db S.rs S.rk (ndiff s.region (ndiff s.seeds s.shared)) -> (∀ k ∈ S.spots, k ∈ s.due) /\ S.spots.length < 64 /\ tG S.spots = tG s.due) : Wp (KO j) (v7 S s pl k f a jo none none none) ((nE "_law_octopus").body.drop 4) (Bl (.ok (.bool true))) := by
 have hl3 : S.rs.length <= 1000000 := hl ▸ m8
 show Wp _ _ (_ :: _ :: _ :: _ :: _ :: _ :: []) _
 refine mW (mO.of rfl (mJ (en rfl) (tP (nI rfl rfl (.cons (en rfl) (.cons (en rfl) .nil)) (sY hl3) rfl)) pX)) ?_
 show Wp _ (v7 S s pl k f a jo (some (pV (w6 s.both S.rs))) none none) _ _
 generalize w6 s.both S.rs = top at HT
 refine mQ (rZ (nF (ys := zl (pT S.rs.length top)) pV (λ i => top.testBit i) pV (az S.rs.length) (o9 rfl (en rfl) hl3) rfl (hl ▸ by decide) rfl λ i hi => ⟨_, .one, .one (mM (mJ (mJ (en rfl) (en rfl) nX) mt nz) mt ot), λ _ => mO.of rfl (en rfl)⟩) rfl) ?_
 show Wp _ (v7 S s pl k f a jo (some (pV top)) (some (.list (zl (pT S.rs.length top)))) none) _ _
 refine mV (x := false || false) (sq (.cons (mM (a := .list []) (n8 (nF pV (λ k => !s.both.testBit k) pV S.spots (mY (en rfl)) rfl hsl (by rw [qD λ k hk => (by rw [HB k hk]; rfl)]; rfl) λ i hi => ⟨_, .one, .one (mM (mJ (mJ (en rfl) (en rfl) nX) mt nz) mt qC), λ _ => mO.of rfl (en rfl)⟩)) (nK nJ.nil (by decide)) rD) λ _ => .one (mM (a := .list []) (n8 (nF pV (λ k => !decide (k ∈ S.spots)) pV (pT S.rs.length top) (mY (en rfl)) rfl (ac vk (hl ▸ by decide)) (by rw [qD λ k hk => (by rw [decide_eq_true (HT k (aM.mp (bF.mp hk).1) (bF.mp hk).2)]; rfl)]; rfl) λ i hi => ⟨_, .one, .one (mM (en rfl) (en rfl) wN), λ _ => mO.of rfl (en rfl)⟩)) (nK nJ.nil (by decide)) rD))) nofun λ _ => mK ?_
 refine mW (mO.of rfl (mJ (en rfl) (tP (mJ (en rfl) (tP (en rfl)) pX)) pX)) ?_
 show Wp _ (v7 S ⟨s.both, ndiff s.region (ndiff s.seeds s.shared), s.shared, s.seeds, s.due⟩ pl k f a jo (some (pV top)) (some (.list (zl (pT S.rs.length top)))) none) _ _
 generalize ndiff s.region (ndiff s.seeds s.shared) = reg at HD
 refine pW pV (az S.rs.length) rfl (λ d l ρ => ∃ k e, ρ = v7 S ⟨s.both, reg, s.shared, s.seeds, s.due⟩ pl k f a jo (some (pV top)) (some (.list (zl (pT S.rs.length top)))) e /\ ∀ k ∈ d, ∀ e < k, (reg.testBit k && ((S.rs.getD k 0).testBit e && pF (S.rk.getD e (0, [])) (S.rk.getD k (0, [])))) = false) (o9 rfl (en rfl) hl3) ⟨_, _, rfl, nofun⟩ (λ d k l ρ hd h => ?_) λ ρ h => ?_
 ·obtain ⟨k0, e0, rfl, hdone⟩ := h
  have hk : k < 8 := hl ▸ aM.mp (hd ▸ aq d (.head _))
  refine ⟨_, .one rfl, ?_⟩
  show Wp _ _ (_ :: []) _
  refine pW pV (az k) rfl (λ d l ρ => ∃ e, ρ = v7 S ⟨s.both, reg, s.shared, s.seeds, s.due⟩ pl (some (pV k)) f a jo (some (pV top)) (some (.list (zl (pT S.rs.length top)))) e /\ ∀ e ∈ d, (reg.testBit k && ((S.rs.getD k 0).testBit e && pF (S.rk.getD e (0, [])) (S.rk.getD k (0, [])))) = false) (o9 rfl (en rfl) (ac (a5 hk) m8)) ⟨_, rfl, nofun⟩ (λ d2 e l2 ρ hd2 h => ?_) λ ρ h => ?_
  ·obtain ⟨e1, rfl, hdone2⟩ := h
   have he : e < k := aM.mp (hd2 ▸ aq d2 (.head _))
   refine ⟨_, .one rfl, ?_⟩
   show Wp _ _ (_ :: []) _
   refine mV (x := (reg.testBit k && ((S.rs.getD k 0).testBit e && pF (S.rk.getD e (0, [])) (S.rk.getD k (0, []))))) (pN (.cons (mM (mJ (mJ (en rfl) (en rfl) nX) mt nz) mt ot) λ _ => .cons (mM (mJ (mJ (mT (en rfl) (en rfl) (m5 (by omega))) (en rfl) nX) mt nz) mt ot) λ _ => .one (mM (mT (en rfl) (en rfl) (th (by omega))) (mT (en rfl) (en rfl) (th (by omega))) Lm))) (λ h => nA (mO.of rfl pL) rfl) (λ h => mK (mK ⟨_, rfl, λ x hx => ?_⟩))
   rcases aX.mp hx with hx | hx
   ·exact hdone2 x hx
   ·cases ae.mp hx; exact h
  ·obtain ⟨e, rfl, hdone2⟩ := h
   refine mK ⟨_, _, rfl, λ x hx => ?_⟩
   rcases aX.mp hx with hx | hx
   ·exact hdone x hx
   ·cases ae.mp hx; exact λ e he => hdone2 e (aM.mpr he)
 ·obtain ⟨k, e, rfl, hdone⟩ := h
  obtain ⟨D1, D2, D3⟩ := HD λ k hk => hdone k (aM.mpr hk)
  refine nA (v := .bool (true && (!(tG s.due == (pT S.rs.length top).map λ k => ((k : Nat) : Int)) || (tG S.spots == (pT S.rs.length top).map λ k => ((k : Nat) : Int))))) (mO.of rfl (vM (.cons (mO.of rfl (oA (a := .list []) (n8 (nF pV (λ k => !decide (k ∈ s.due)) pV S.spots (mY (en rfl)) rfl hsl (by rw [qD λ k hk => (by rw [decide_eq_true (D1 k hk)]; rfl)]; rfl) λ i hi => ⟨_, .one, .one (mM (en rfl) (en rfl) wN), λ _ => mO.of rfl (en rfl)⟩)) (nK nJ.nil (by decide)) vz)) λ _ => .one (mO.of rfl (LD (.cons (mO.of rfl (oA (ui rfl rfl (.cons (en rfl) .nil) (AV hdl)) (HX _ ▸ en rfl) Jd)) λ _ => .one (mO.of rfl (oA (ui rfl rfl (.cons (en rfl) .nil) (AV D2)) (HX _ ▸ en rfl) Kj)))))))) ?_
  rw [D3]
  cases tG s.due == (pT S.rs.length top).map λ k => ((k : Nat) : Int) <;> rfl
theorem JH (S : Dx) (hn : S.ids ≠ []) (hbl : S.bl.length = 8) (hl : S.rs.length = 8) (hr : S.rk.length = 8) (hi : ∀ k ∈ S.ids, k < 8) (hsl : S.spots.length <= cap) (H : Lx S) : Di (j + 2) "_law_octopus" [.list (zl S.ids), .list (zl S.spots), .list (zl S.bl), .list (zl S.rs), .list (pI S.rk)] (.bool true) := by
 refine u0 (k := j + 1) (by decide) rfl ?_
 have hi0 : S.ids.headD 0 < 8 := by
  cases e : S.ids with
  | nil => exact absurd e hn
  | cons a l => exact hi a (e ▸ .head _)
 show Wp (KO j) [("ids", some (.list (zl S.ids))), ("spots", some (.list (zl S.spots))), ("below", some (.list (zl S.bl))), ("roads", some (.list (zl S.rs))), ("ranks", some (.list (pI S.rk))), ("count", none), ("both", none), ("region", none), ("shared", none), ("seeds", none), ("due", none), ("place", none), ("k", none), ("fresh", none), ("a", none), ("joint", none), ("top", none), ("row", none), ("e", none)] (_ :: _ :: _ :: _ :: _ :: _ :: _ :: _ :: _ :: _ :: []) _
 refine mW (mO.of rfl (nH rfl (en rfl))) ?_
 have z : ∀ {ρ : En} {p : Pos} {x : Str}, (KO j).ow.contains x = false -> Vf (KO j) ρ x (.Constant (.int 0) 0 p) (.int ((0 : Nat) : Int)) := λ h => .val h (mO.of rfl mt)
 refine mQ (w9 rfl (.cons (λ _ _ => rfl) (.val rfl (mO.of rfl (mT (en rfl) (mT (en rfl) mt (sE hn)) (m5 (hbl ▸ hi0))))) (.cons (λ _ _ => rfl) (z rfl) (.cons (λ _ _ => rfl) (z rfl) (.cons (λ _ _ => rfl) (z rfl) .nil)))) (.cons rfl (.cons rfl (.cons rfl (.cons rfl .nil)))) (by decide : 4 <= cap)) ?_
 refine mW (mO.of rfl (nK (nJ.cons (mO.of rfl (mT (en rfl) mt (sE hn))) nJ.nil) (by decide : 1 <= cap))) ?_
 refine pW (λ p : Nat × Nat => PV.tuple [.int p.1, .int p.2]) (nT 0 S.ids) (vn S.ids 0) (λ d l ρ => ∃ pl k fr a jo, ρ = v7 S (qo S d) pl k fr a jo none none none) (sI rfl (mO.of rfl (en rfl))) ⟨none, none, none, none, none, rfl⟩ (λ d p l ρ hd h => ?_) λ ρ h => ?_
 ·obtain ⟨pl0, k0, fr, a, jo, rfl⟩ := h
  obtain ⟨hs1, hs2⟩ := H.small d _ hd
  refine ⟨_, .tup (.cons rfl (.cons rfl .nil)), Ir hbl hl (hi _ (yP (hd ▸ aq d (.head _)))) hs1 hs2 λ f a jo => ⟨some (pV p.1), some (pV p.2), f, a, jo, ?_⟩⟩
  rw [show qo S (d ++ [p]) = or S.bl S.rs (qo S d) p from bT]
 ·obtain ⟨pl, k, fr, a, jo, rfl⟩ := h
  exact KU hl hr hsl (H.small _ [] (cI _)).1 H.both H.top H.due
end
theorem yY {a b : Nat} : Co .Gt (.int a) (.int b) (decide (b < a)) := (show decide ((a : Int) > (b : Int)) = decide (b < a) from decide_eq_decide.mpr ef) ▸ LL
theorem DH {a b : Nat} : Co .Lt (.int a) (.int b) (decide (a < b)) := (show decide ((a : Int) < (b : Int)) = decide (a < b) from decide_eq_decide.mpr ef) ▸ AZ
inductive BU where
 | none
 | bool (b : Bool)
 | list (l : List Bs)
noncomputable def BU.pv : BU -> PV
 | .none => .none
 | .bool b => .bool b
 | .list l => .list (zb l)
noncomputable def nj (nm : List Bs) (st : List Int) : List It := (az nm.length).map λ k => (-(st.getD k 0), nm.getD k [])
noncomputable def wa (present : Nat) (ids : List Nat) : List Nat := ids.filter λ k => !present.testBit k
structure AD where
 kind : Nat
 ids : List Nat
 told : BU
 nm : List Bs
 st : List Int
 pr : Nat
 bl : List Nat
 rs : List Nat
 wh : Bool
noncomputable abbrev AD.rk (S : AD) : List It := nj S.nm S.st
noncomputable abbrev AD.lost (S : AD) : Bool := S.wh && !(zl (wa S.pr S.ids)).isEmpty
noncomputable abbrev AD.fold (S : AD) : Bool := S.kind == 3 && decide (2 < S.ids.length)
noncomputable def oY (S : AD) (s : Nat × Bool) (k : Nat) : Nat × Bool := (s.1 &&& S.bl.getD k 0, s.2 || (S.wh && (s.1 != 0 && !S.pr.testBit k)))
noncomputable def m6 (S : AD) (tl : List Nat) : Nat × Bool := tl.foldl (oY S) (S.bl.getD (S.ids.headD 0) 0, S.wh && !S.pr.testBit (S.ids.headD 0))
noncomputable def eR (S : AD) (lost : Bool) (folded left k spots : Option PV) : En := [("kind", some (.int S.kind)), ("ids", some (.list (zl S.ids))), ("told", some S.told.pv), ("names", some (.list (zb S.nm))), ("stamps", some (.list (zi S.st))), ("present", some (.int S.pr)), ("below", some (.list (zl S.bl))), ("roads", some (.list (zl S.rs))), ("whole", some (.bool S.wh)), ("k", k), ("ranks", some (.list (pI S.rk))), ("lost", some (.bool lost)), ("folded", folded), ("left", left), ("spots", spots)]
noncomputable abbrev KR (j : Nat) : Ky := KP "_law_right" (j + 4)
noncomputable abbrev A8 (n : Nat) : List Stmt := (nE "_law_right").body.drop n
noncomputable abbrev OB : En -> Fl -> Prop := Bl (.ok (.bool true))
structure y2 (S : AD) : Prop where
 nm : S.nm.length = 8
 st : S.st.length = 8
 bl : S.bl.length = 8
 rs : S.rs.length = 8
 ids : ∀ k ∈ S.ids, k < 8
 cap : S.ids.length <= cap
theorem y2.rk {S : AD} (H : y2 S) : S.rk.length = 8 := (am _).trans (bh.trans H.nm)
section
variable {j : Nat} {S : AD} {k left : Option PV} {Q : En -> Fl -> Prop}
noncomputable abbrev vS (j : Nat) (S : AD) : Prop := Di (j + 5) "_law_right" [.int S.kind, .list (zl S.ids), S.told.pv, .list (zb S.nm), .list (zi S.st), .int S.pr, .list (zl S.bl), .list (zl S.rs), .bool S.wh] (.bool true)
theorem rK (H : y2 S) (h : Wp (KR j) (eR S S.lost none none none none) (A8 2) OB) : vS j S := by
 refine u0 (k := j + 4) (by decide) rfl ?_
 have h8 : S.nm.length <= 1000000 := H.nm ▸ m8
 show Wp (KR j) [("kind", some (.int S.kind)), ("ids", some (.list (zl S.ids))), ("told", some S.told.pv), ("names", some (.list (zb S.nm))), ("stamps", some (.list (zi S.st))), ("present", some (.int S.pr)), ("below", some (.list (zl S.bl))), ("roads", some (.list (zl S.rs))), ("whole", some (.bool S.wh)), ("k", none), ("ranks", none), ("lost", none), ("folded", none), ("left", none), ("spots", none)] (_ :: _ :: A8 2) _
 refine mQ (rZ (oU (ys := pI S.rk) pV (λ k : Nat => rn (-(S.st.getD k 0), S.nm.getD k [])) (az S.nm.length) (o9 rfl (nH rfl (en rfl)) h8) rfl (H.nm ▸ by decide) (bk ..) λ k hk => ⟨_, .one, ?_⟩) rfl) ?_
 ·have h1 : k < S.nm.length := aM.mp hk
  have h2 : k < S.st.length := H.st ▸ H.nm ▸ h1
  exact mO.of rfl (tK (nJ.cons (mO.of rfl (zk (mT (en rfl) (en rfl) (uV h2)))) (nJ.cons (mO.of rfl (mT (en rfl) (en rfl) (so h1))) nJ.nil)) (by decide : 2 <= cap))
 exact mW (mO.of rfl (vM (.cons (mO.of rfl (en rfl)) λ _ => .one (mO.of rfl (oA (n8 (nF pV (λ k => !S.pr.testBit k) pV S.ids (mY (en rfl)) rfl H.cap rfl λ i hi => ⟨_, .one, .one (mM (mJ (mJ (en rfl) (en rfl) nX) mt nz) mt qC), λ _ => mO.of rfl (en rfl)⟩)) (nK nJ.nil (by decide)) rD))))) h
theorem Ai {a b : PV} {l : List PV} : Sb (.list (a :: b :: l)) (.int 1) b := zg (by decide) rfl
theorem L9 (H : y2 S) (hk : S.kind = 1) {a b : Nat} (hids : S.ids = [a, b]) (G : if (!(a == b) && S.lost) = true then S.told = .none else ∃ t, S.told = .bool t /\ (if a = b then t = true else qf a b t S.st S.bl S.rs S.rk = true)) : vS j S := by
 refine rK H ?_
 obtain ⟨kind, ids, told, nm, st, pr, bl, rs, wh⟩ := S
 cases hk
 cases hids
 have e0 : ∀ {n : Nat} {p q r : Pos} {f l k s : Option PV} {lo : Bool} {told : BU}, Ev (KR j) (eR ⟨1, [a, b], told, nm, st, pr, bl, rs, wh⟩ lo f l k s) (.Subscript (.Name "ids" p) (.Constant (.int 0) n q) r) (.int a) := mT (en rfl) mt qX
 have e1 : ∀ {n : Nat} {p q r : Pos} {f l k s : Option PV} {lo : Bool} {told : BU}, Ev (KR j) (eR ⟨1, [a, b], told, nm, st, pr, bl, rs, wh⟩ lo f l k s) (.Subscript (.Name "ids" p) (.Constant (.int 1) n q) r) (.int b) := mT (en rfl) mt Ai
 show Wp (KR j) _ (_ :: _) _
 refine mV (x := ((1 : Nat) == 1)) (mM (en rfl) mt nR) (λ _ => ?_) nofun
 show Wp (KR j) _ (_ :: _ :: _ :: []) _
 refine mV (x := (!(a == b) && (wh && !(zl (wa pr [a, b])).isEmpty))) (pN (.cons (mM e0 e1 uf) λ _ => .one (nv (λ _ _ => rfl) (en rfl) nw))) (λ h => ?_) (λ h => mK ?_)
 ·rw [if_pos h] at G
  cases G
  exact nA (mO.of rfl (oA (en rfl) pJ (AU rfl))) rfl
 rw [if_neg (by rw [h]; exact nofun)] at G
 obtain ⟨t, e, G⟩ := G
 cases e
 refine mV (x := !true) (pc (nv (λ _ _ => rfl) (wb rfl rfl (en rfl) Lr) nw)) nofun (λ _ => mK ?_)
 refine nA (v := .bool true) (mO.of rfl (rm (x := a == b) (mM e0 e1 nR) (λ h => ?_) λ h => ?_)) rfl
 ·rw [if_pos (be h)] at G
  cases G
  exact mO.of rfl (en rfl)
 ·rw [if_neg (ne_of_beq_false h)] at G
  refine mO.of rfl (nI rfl rfl (.cons e0 (.cons e1 (.cons (en rfl) (.cons (en rfl) (.cons (en rfl) (.cons (en rfl) (.cons (en rfl) .nil))))) λ _ _ => rfl) λ _ _ => rfl) ((show Nv.fw ⟨a, b, t, st, bl, rs, nj nm st⟩ = true from G) ▸ AG (j := j) ⟨a, b, t, st, bl, rs, nj nm st⟩ H.st H.bl H.rs H.rk (H.ids _ (.head _)) (H.ids _ (.tail _ (.head _)))) rfl)
theorem sg (hk : S.kind ≠ 1) {lost : Bool} (h : Wp (KR j) (eR S lost (some (.bool S.fold)) none none none) (A8 4) Q) : Wp (KR j) (eR S lost none none none none) (A8 2) Q := by
 show Wp (KR j) _ (_ :: _ :: A8 4) _
 refine mV (x := (S.kind == 1)) (mM (en rfl) mt nR) (λ h => absurd (be h) hk) (λ _ => mK ?_)
 refine mW (mO.of rfl (vM (.cons (mO.of rfl (oA (en rfl) mt nR)) λ _ => .one (mO.of rfl (oA (nH rfl (en rfl)) mt yY))))) ?_
 exact h
theorem AT {lost folded : Bool} {p1 p2 p3 p4 p5 p6 p7 p8 p9 q1 q2 q3 q4 q5 q6 q7 q8 : Pos} {n1 n2 n3 : Nat} (hne : S.ids ≠ []) : Tr (KR j) (eR S lost (some (.bool folded)) none none none) (.BoolOp .Or [.Compare (.Call (.Name "len" p1) [.Name "ids" p2] [] p3) [.Lt] [.Constant (.int 2) n1 p4] p5, .BoolOp .And [.UnaryOp .Not (.Name "folded" p6) p7, .Compare (.Subscript (.Name "ids" p8) (.Constant (.int 0) n2 p9) q1) [.In] [.Subscript (.Name "ids" q2) (.Slice (some (.Constant (.int 1) n3 q3)) none none q4) q5] q6] q7] q8) (decide (S.ids.length < 2) || (!folded && decide (S.ids.headD 0 ∈ S.ids.drop 1))) :=
 sq (.cons (mM (nH rfl (en rfl)) mt DH) λ _ => .one (pN (.cons (pc (nv (λ _ _ => rfl) (en rfl) nw)) λ _ => .one (mM (mT (en rfl) mt (sE hne)) (tm (en rfl)) Kf))))
theorem yM (H : y2 S) (hk : S.kind ≠ 1) (hne : S.ids ≠ []) (h : (decide (S.ids.length < 2) || (!S.fold && decide (S.ids.headD 0 ∈ S.ids.drop 1))) = true) (ht : S.told = .list [S.nm.getD (S.ids.headD 0) []]) : vS j S := by
 refine rK H (sg hk ?_)
 show Wp (KR j) _ (_ :: _) _
 refine mV (AT hne) (λ _ => ?_) (λ h' => by rw [h] at h'; cases h')
 obtain ⟨kind, ids, told, nm, st, pr, bl, rs, wh⟩ := S
 replace ht : told = .list [nm.getD (ids.headD 0) []] := ht
 subst ht
 cases ids with
 | nil => exact absurd rfl hne
 | cons i0 tl =>
  have h1 : i0 < nm.length := (show nm.length = 8 from H.nm) ▸ H.ids i0 (.head _)
  refine nA (v := .bool ([nm.getD i0 []] == [nm.getD i0 []])) (mO.of rfl (oA (en rfl) (n8 (oU (ys := zb [nm.getD i0 []]) pV (λ k => PV.bytes (nm.getD k [])) [i0] (mY (sH (i := none) (j := some 1) (l := zl (i0 :: tl)) (en rfl) .none (.some mt))) rfl (by decide : 1 <= cap) rfl λ k hk => ⟨_, .one, ?_⟩)) zW)) (by rw [beq_self_eq_true]; rfl)
  cases ae.mp hk
  exact mO.of rfl (mT (en rfl) (en rfl) (so h1))
theorem vg (hne : S.ids ≠ []) {lost folded : Bool} (h : (decide (S.ids.length < 2) || (!folded && decide (S.ids.headD 0 ∈ S.ids.drop 1))) = false) (hw : Wp (KR j) (eR S lost (some (.bool folded)) none none none) (A8 5) Q) : Wp (KR j) (eR S lost (some (.bool folded)) none none none) (A8 4) Q := by
 show Wp (KR j) _ (_ :: A8 5) _
 exact mV (AT hne) (λ h' => by rw [h] at h'; cases h') λ _ => mK hw
end
section
variable {j : Nat} {S : AD} {k left : Option PV} {Q : En -> Fl -> Prop}
theorem tY (H : y2 S) (hne : S.ids ≠ []) {lost folded : Bool} (hw : ∀ k left, Wp (KR j) (eR S (if folded then (m6 S (S.ids.drop 1)).2 else lost) (some (.bool folded)) left k none) (A8 6) Q) : Wp (KR j) (eR S lost (some (.bool folded)) none none none) (A8 5) Q := by
 show Wp (KR j) _ (_ :: A8 6) _
 have hi0 : S.ids.headD 0 < 8 := by
  cases e : S.ids with
  | nil => exact absurd e hne
  | cons a l => exact H.ids a (e ▸ .head _)
 have hbl := H.bl
 refine mV (x := folded) (nv (λ _ _ => rfl) (en rfl) nw) (λ h => ?_) (λ h => mK ?_)
 ·subst h
  show Wp (KR j) _ (_ :: _ :: _ :: []) _
  refine mW (mO.of rfl (mT (en rfl) (mT (en rfl) mt (sE hne)) (m5 (hbl ▸ hi0)))) ?_
  refine mW (mO.of rfl (vM (.cons (mO.of rfl (en rfl)) λ _ => .one (mO.of rfl (oA (mJ (mJ (en rfl) (mT (en rfl) mt (sE hne)) nX) mt nz) mt qC))))) ?_
  refine pW pV (S.ids.drop 1) rfl (λ d l ρ => ∃ k, ρ = eR S (m6 S d).2 (some (.bool true)) (some (pV (m6 S d).1)) k none) (mY (tm (f := pV) (en rfl))) ⟨none, rfl⟩ (λ d k l ρ hd h => ?_) (by rintro ρ ⟨k, e⟩; exact e ▸ mK (hw k _))
  obtain ⟨k0, rfl⟩ := h
  have hk : k < 8 := H.ids k (gh (hd ▸ aq d (.head _)))
  rw [show m6 S (d ++ [k]) = oY S (m6 S d) k from bT]
  generalize m6 S d = s
  obtain ⟨left, lo⟩ := s
  refine ⟨_, .one rfl, ?_⟩
  show Wp (KR j) (eR S lo (some (.bool true)) (some (pV left)) (some (pV k)) none) (_ :: _ :: []) _
  refine mV (x := (S.wh && (left != 0 && !S.pr.testBit k))) (pN (.cons (nv (λ _ _ => rfl) (en rfl) nw) λ _ => .cons (mM (en rfl) mt wu) λ _ => .one (mM (mJ (mJ (en rfl) (en rfl) nX) mt nz) mt qC))) (λ h => ?_) (λ h => mK ?_)
  ·refine mQ (ρ' := eR S true (some (.bool true)) (some (pV left)) (some (pV k)) none) (oZ (mO.of rfl pL)) (mK ?_)
   refine mW (mO.of rfl (mJ (en rfl) (mT (en rfl) (en rfl) (m5 (by omega))) oq)) ?_
   refine mK ⟨some (pV k), ?_⟩
   rw [oY, h, cr]; rfl
  ·refine mW (mO.of rfl (mJ (en rfl) (mT (en rfl) (en rfl) (m5 (by omega))) oq)) ?_
   refine mK ⟨some (pV k), ?_⟩
   rw [oY, h, a7]; rfl
 ·subst h
  exact hw none none
theorem tO {lost : Bool} {folded spots : Option PV} (hl : lost = true) (ht : S.told = .none) : Wp (KR j) (eR S lost folded left k spots) (A8 6) OB := by
 obtain ⟨kind, ids, told, nm, st, pr, bl, rs, wh⟩ := S
 cases hl
 cases ht
 show Wp (KR j) _ (_ :: _) _
 refine mV (x := (true || false)) (sq (.cons (nv (λ _ _ => rfl) (en rfl) nw) nofun)) (λ _ => ?_) nofun
 exact nA (v := .bool (true && true)) (mO.of rfl (vM (.cons (mO.of rfl (en rfl)) λ _ => .one (mO.of rfl (oA (en rfl) pJ (AU rfl)))))) rfl
theorem ue {t : List Bs} {folded spots : Option PV} (ht : S.told = .list t) (hw : Wp (KR j) (eR S false folded left k spots) (A8 7) Q) : Wp (KR j) (eR S false folded left k spots) (A8 6) Q := by
 obtain ⟨kind, ids, told, nm, st, pr, bl, rs, wh⟩ := S
 cases ht
 show Wp (KR j) _ (_ :: A8 7) _
 exact mV (x := (false || !true)) (sq (.cons (nv (λ _ _ => rfl) (en rfl) nw) λ _ => .one (pc (nv (λ _ _ => rfl) (wb rfl rfl (en rfl) Ny) nw)))) nofun (λ _ => mK hw)
theorem CJ (H : y2 S) {t : List Bs} {folded spots : Option PV} (ht : S.told = .list t) (hk : S.kind = 2) (G : B8 ⟨S.ids, t, S.nm, S.bl, S.rs, S.rk⟩) : Wp (KR j) (eR S false folded left k spots) (A8 7) OB := by
 have hr := H.rk
 obtain ⟨kind, ids, told, nm, st, pr, bl, rs, wh⟩ := S
 cases ht
 cases hk
 show Wp (KR j) _ (_ :: _) _
 refine mV (x := (2 : Nat) == 2) (mM (en rfl) mt (nR (b := 2))) (λ _ => ?_) nofun
 exact nA (v := .bool true) (mO.of rfl (nI rfl rfl (.cons (en rfl) (.cons (en rfl) (.cons (en rfl) (.cons (en rfl) (.cons (en rfl) (.cons (en rfl) .nil)))))) (G1 (j := j) _ H.nm H.bl H.rs hr H.ids H.cap G) rfl)) rfl
theorem Mm {α : Type} [DecidableEq α] (f : Nat -> α) {n x : Nat} (hx : x < n) (inj : ∀ k < n, f k = f x -> k = x) : (az n).filter (λ k => decide (f k = f x)) = [x] := by
 induction n with
 | zero => exact absurd hx (iw _)
 | succ n ih =>
  rw [im, List.filter_append]
  by_cases e : x = n
  ·subst e
   rw [qD λ k hk => decide_eq_false λ h => aE (aM.mp hk) (inj k (aL (aM.mp hk)) h)]
   show [] ++ List.filter _ [x] = _
   rw [cw, if_pos (decide_eq_true rfl)]; rfl
  ·rw [ih (dB (br hx) e) λ k hk => inj k (aL hk), qD (l := [n]) λ k hk => by
    cases ae.mp hk
    exact decide_eq_false λ h => e (inj n (de n) h).symm]
   rfl
theorem HW {nm : List Bs} (hnd : nm.Nodup) {sp : List Nat} (h : ∀ k ∈ sp, k < nm.length) : (sp.map λ k => nm.getD k []).flatMap (λ a => ((az nm.length).filter λ k => nm.getD k [] == a).map pV) = zl sp := by
 induction sp with
 | nil => rfl
 | cons x sp ih =>
  have hx := h x (.head _)
  rw [bE, d7, ih λ k hk => h k (.tail _ hk)]
  refine congrArg (λ l => e7 pV l ++ zl sp) ((gZ λ k _ => ?_).trans (Mm (λ k => nm.getD k []) hx λ k hk e => ?_))
  ·rw [bI, beq_iff_eq, decide_eq_true_iff]
  ·rw [ao, ao, aF hk, aF hx] at e
   exact (List.getElem_inj hnd).mp e
theorem vQ (H : y2 S) (hnd : S.nm.Nodup) {t : List Bs} {folded : Bool} {sp : List Nat} (hto : S.told = .list t) (hsp : ∀ k ∈ sp, k < 8) (ht : t = sp.map λ k => S.nm.getD k []) (hcap : sp.length <= cap) (hk2 : S.kind ≠ 2)
  (hf : folded = true -> Di (j + 4) "_law_octopus" [.list (zl S.ids), .list (zl sp), .list (zl S.bl), .list (zl S.rs), .list (pI S.rk)] (.bool true))
  (hb : folded = false -> Di (j + 4) "_law_bases" [.list (zl S.ids), .list (zl sp), .list (zl S.bl), .list (zl S.rs), .list (pI S.rk)] (.bool true)) :
  Wp (KR j) (eR S false (some (.bool folded)) left k none) (A8 7) OB := by
 have hnm := H.nm
 obtain ⟨kind, ids, told, nm, st, pr, bl, rs, wh⟩ := S
 cases hto
 show Wp (KR j) _ (_ :: _ :: _ :: _ :: _ :: []) _
 refine mV (x := kind == 2) (mM (en rfl) mt (nR (b := 2))) (λ h => absurd (be h) hk2) (λ h => mK ?_)
 have h8 : nm.length <= 1000000 := (show nm.length = 8 from hnm) ▸ m8
 have hs : t.flatMap (λ a => ((az nm.length).filter λ k => nm.getD k [] == a).map pV) = zl sp := by
  rw [ht]
  exact HW hnd λ k hk => (show nm.length = 8 from hnm) ▸ hsp k hk
 refine mQ (rZ (ys := zl sp) (Lp (mY (en rfl)) ?c (by rw [am]; exact hcap) rfl ?d) rfl) ?_
 case c =>
  rw [<- hs]
  refine OW (inj := .bytes) (l := t) rfl λ a ha => ⟨_, _, .one, .nil, o9 rfl (nH rfl (en rfl)) h8, Od λ i hi => ⟨_, .one, .one ?_, λ _ => mO.of rfl (en rfl)⟩⟩
  have hi := aM.mp hi
  exact mM (mT (en rfl) (en rfl) (so hi)) (en rfl) (oR (Eu.bytes (ku (AD.nm { kind := kind , ids := ids , told := BU.list t , nm := nm , st := st , pr := pr , bl := bl , rs := rs , wh := wh }) i []) a))
 case d =>
  intro x hx
  rcases ag.mp hx with rfl | hx
  ·exact ⟨nofun, λ _ _ => rfl⟩
  ·cases ae.mp hx
   exact ⟨nofun, λ _ _ => rfl⟩
 have hlen : sp.length = t.length := by rw [ht, am]
 refine mV (x := !(sp.length == t.length)) (mM (nH rfl (en rfl)) (nH rfl (en rfl)) uf) (λ h => by rw [hlen, beq_self_eq_true] at h; cases h) (λ _ => mK ?_)
 refine mV (x := folded) (nv (λ _ _ => rfl) (en rfl) nw) (λ h => ?_) (λ h => mK ?_)
 ·exact nA (mO.of rfl (nI rfl rfl (.cons (en rfl) (.cons (en rfl) (.cons (en rfl) (.cons (en rfl) (.cons (en rfl) .nil))))) (hf h) rfl)) rfl
 ·exact nA (mO.of rfl (nI rfl rfl (.cons (en rfl) (.cons (en rfl) (.cons (en rfl) (.cons (en rfl) (.cons (en rfl) .nil))))) (hb h) rfl)) rfl
end
noncomputable abbrev Cs := List (Bs × Nat)
noncomputable def xL (cs : Cs) : List (Bs × PV) := cs.map λ x => (x.1, pV x.2)
noncomputable def pb : Cs -> Bs -> Nat -> Cs
 | [], k, v => [(k, v)]
 | (a, u) :: r, k, v => if a == k then (a, v) :: r else (a, u) :: pb r k v
noncomputable def look (cs : Cs) (k : Bs) : Nat := (cs.lookup k).getD 0
section
variable {k j : Bs} {v : Nat} {cs : Cs}
theorem rB : oE (xL cs) k (.int v) = xL (pb cs k v) := by
 induction cs with
 | nil => rfl
 | cons x r ih =>
  obtain ⟨a, u⟩ := x
  show (if a == k then (a, PV.int v) :: xL r else (a, PV.int u) :: oE (xL r) k (.int v)) = xL (if a == k then (a, v) :: r else (a, u) :: pb r k v)
  cases a == k with
  | true => rfl
  | false => exact congrArg ((a, PV.int u) :: ·) ih
theorem uz : (xL cs).lookup k = (cs.lookup k).map pV := by
 induction cs with
 | nil => rfl
 | cons x r ih =>
  obtain ⟨a, u⟩ := x
  show (match k == a with | true => some (PV.int u) | false => (xL r).lookup k) = (match k == a with | true => some u | false => r.lookup k).map _
  cases k == a with
  | true => rfl
  | false => exact ih
theorem pg : (pb cs k v).lookup j = if j = k then some v else cs.lookup j := by
 induction cs with
 | nil =>
  show (match j == k with | true => some v | false => none) = _
  by_cases h : j = k
  ·rw [if_pos h, beq_iff_eq.mpr h]
  ·rw [if_neg h, beq_eq_false_iff_ne.mpr h]; rfl
 | cons x r ih =>
  obtain ⟨a, u⟩ := x
  show (if a == k then (a, v) :: r else (a, u) :: pb r k v).lookup j = _
  by_cases ha : a = k
  ·subst ha
   rw [if_pos (beq_self_eq_true a), au, au]
   by_cases h : j = a
   ·rw [if_pos h, beq_iff_eq.mpr h]
   ·rw [if_neg h, beq_eq_false_iff_ne.mpr h]
  ·rw [if_neg λ h => ha (be h), au, au, ih]
   by_cases h : j = a
   ·subst h; rw [beq_self_eq_true, if_neg ha, if_neg ha]
   ·rw [beq_eq_false_iff_ne.mpr h]
theorem wz (h : (cs.lookup k).isSome = true) : Sb (.dict (xL cs)) (.bytes k) (.int (look cs k : Nat)) := ze (by
 rw [uz]
 unfold look
 cases hc : cs.lookup k with
 | none => rw [hc] at h; cases h
 | some v => rfl)
theorem Eg : (pj (xL cs) k).getD (.int ((0 : Nat) : Int)) = .int (look cs k : Nat) := by
 unfold pj look
 rw [uz]
 cases cs.lookup k <;> rfl
theorem Bu {x : It} {l : List It} : (pD x l).length = l.length + 1 := by
 induction l with
 | nil => rfl
 | cons y l ih =>
  show gj (if pF y x then y :: pD x l else x :: y :: l) = _
  split
  ·exact congrArg ee ih
  ·rfl
theorem sU : (pb cs k v).length <= cs.length + 1 := by
 induction cs with
 | nil => exact aQ _
 | cons x r ih =>
  show gj (if x.1 == k then (x.1, v) :: r else x :: pb r k v) <= _
  split
  ·exact dv _
  ·exact bX ih
end
structure LS where
 cs : Cs
 wl : List It
 cands : List It
noncomputable def sv (S : Bs -> Option Int) (mn : Int) (fl : Nat) (s : Cs × List It) (p : Bs) : Cs × List It :=
 if (look s.1 p &&& fl) == fl then s else match S p with
  | none => s
  | some d => if d < mn then s else (pb s.1 p (look s.1 p ||| fl), pD (-d, p) s.2)
noncomputable def nr (s : LS) (pr : Int) (c : Bs) (wl : List It) : LS :=
 if (look s.cs c &&& 7) == 3 then (if (look s.cs c &&& 8) == 8 then ⟨s.cs, wl, s.cands⟩ else ⟨pb s.cs c (look s.cs c ||| 8), wl, s.cands ++ [(-pr, c)]⟩) else ⟨s.cs, wl, s.cands⟩
noncomputable def wO (cs : Cs) (c : Bs) : Nat := if (look cs c &&& 7) == 3 then (look cs c &&& 7) ||| 4 else look cs c &&& 7
noncomputable def rI (S : Bs -> Option Int) (mn : Int) (fl : Nat) (s : LS) (ps : List Bs) : LS := ⟨(ps.foldl (sv S mn fl) (s.cs, s.wl)).1, (ps.foldl (sv S mn fl) (s.cs, s.wl)).2, s.cands⟩
noncomputable def n9 (F : Bs -> Option (List Bs)) (S : Bs -> Option Int) (mn : Int) (s : LS) : LS := match s.wl with
 | [] => s
 | x :: wl => match F x.2 with
  | none => nr s x.1 x.2 wl
  | some ps => rI S mn (wO s.cs x.2) (nr s x.1 x.2 wl) ps
noncomputable def sP (s : LS) : Bool := s.wl.any λ x => match s.cs.lookup x.2 with
 | some i => !((i &&& 4) == 4)
 | none => false
theorem qN (s : LS) (pr : Int) (c : Bs) (wl : List It) : (nr s pr c wl).wl = wl := by
 unfold nr
 split
 ·split <;> rfl
 ·rfl
noncomputable def pE : Option Bool -> PV
 | none => .none
 | some b => .set b
structure LP where
 F : Bs -> Option (List Bs)
 S : Bs -> Option Int
 mn : Int
 sh : Option Bool
 c1 : Bs
 c2s : List Bs
structure Jk where
 c2 : Option PV := none
 cflags : Option PV := none
 result : Option PV := none
 dt : Option PV := none
 cmt : Option PV := none
 parents : Option PV := none
 pcmt : Option PV := none
 pflags : Option PV := none
 pdt : Option PV := none
noncomputable def eL (P : LP) (s : LS) (j : Jk) (cands results lcas : Option PV) : En := [("lookup_parents", some (.par P.F)), ("c1", some (.bytes P.c1)), ("c2s", some (.list (zb P.c2s))), ("lookup_stamp", some (.stp P.S)), ("min_stamp", some (.int P.mn)), ("shallows", some (pE P.sh)), ("cands", cands), ("cstates", some (.dict (xL s.cs))), ("_ANC_OF_1", some (.int ((1 : Nat) : Int))), ("_ANC_OF_2", some (.int ((2 : Nat) : Int))), ("_LCA", some (.int ((8 : Nat) : Int))), ("_has_candidates", some (.clo 4)), ("wlst", some (.wl s.wl)), ("c2", j.c2), ("cflags", j.cflags), ("result", j.result), ("dt", j.dt), ("cmt", j.cmt), ("parents", j.parents), ("pcmt", j.pcmt), ("pflags", j.pflags), ("pdt", j.pdt), ("results", results), ("lcas", lcas), ("_DNC", some (.int ((4 : Nat) : Int)))]
noncomputable abbrev eW (P : LP) (s : LS) (j : Jk) : En := eL P s j (some (.list (pI s.cands))) none none
noncomputable abbrev KL : Ky := { sc := CU "_find_lcas", ow := H8 "_find_lcas", k := 5, exn := true, tb := some 87, cl := Gc Lw }
noncomputable abbrev uA : List Stmt := (nE "_find_lcas").body
noncomputable abbrev lB : Nat -> List Stmt := iB (uA.drop 11)
noncomputable abbrev lP : Nat -> List Stmt := iB (iB (lB 6) 0)
theorem shT {S : Option Bool} {K : Ky} {ρ : En} {p q r : Pos} {n : Nat} (h1 : m9 K.sc "shallows" = true) (h : ρ.get "shallows" = some (pE S)) : Tr K ρ (.Compare (.Name "shallows" p) [.IsNot] [.Constant .none n q] r) S.isSome := by
 cases S with
 | none => exact mM (ng h1 h rfl) pJ (Al (a := .none) rfl)
 | some b => exact mM (ng h1 h rfl) pJ (Al (a := .set b) rfl)
section
variable {K : Ky} {ρ : En} {p p1 p2 p3 q r : Pos} {S : Option Bool} {b : Bool} {n : Nat} {Q : En -> Fl -> Prop} {x : Str} {e : Expr} {v : PV} {b1 st hs rr : List Stmt}
theorem OO (h1 : m9 K.sc "shallows" = true) (h : ρ.get "shallows" = some (pE S)) (hS : S = some b) : Tr K ρ (.Name "shallows" p) b := by
 subst hS
 exact nv (λ _ _ => rfl) (ng h1 h rfl) MY
theorem O9 (h1 : m9 K.sc "shallows" = true) (h : ρ.get "shallows" = some (pE S)) {t : Expr} (ht : Tr K ρ t S.isSome) : Tr K ρ (.BoolOp .And [t, .Name "shallows" p] q) (S == some true) := by
 cases S with
 | none => exact pN (.cons (y := true) ht nofun)
 | some b =>
  have : (some b == some true) = (true && b) := by cases b <;> rfl
  rw [this]
  exact pN (.cons ht λ _ => .one (OO h1 h rfl))
theorem Pf (h1 : m9 K.sc "shallows" = true) (h : ρ.get "shallows" = some (pE S)) {n : Nat} : Tr K ρ (.BoolOp .Or [.Compare (.Name "shallows" p) [.Is] [.Constant .none n p1] p2, .UnaryOp .Not (.Name "shallows" p3) q] r) (!(S == some true)) := by
 cases S with
 | none => exact sq (.cons (y := false) (mM (ng h1 h rfl) pJ (AU (a := .none) rfl)) nofun)
 | some b =>
  have : (!(some b == some true)) = (false || !b) := by cases b <;> rfl
  rw [this]
  exact sq (.cons (mM (ng h1 h rfl) pJ (AU (a := .set b) rfl)) λ _ => .one (pc (OO h1 h rfl)))
theorem z6 {st : Stmt} {r : Rs} (hx : K.exn = true) (hk : om K.sc "KeyError" = true) (h : qe K ρ e r) (h1 : ∀ v, r = .ok v -> Q (ρ.set x v) .next) (h2 : r = .err -> I6 K ρ (st :: hs) Q) (h0 : autoParam (∀ l env, swapsWith e (some (.Name x p)) l env = pure false) tF) (hl : autoParam (nQ K.sc x = true) tR) (ho : autoParam (K.ow.contains x = false) tR) {p4 p5 p6 : Pos} :
  Sx K ρ (.Try [.Assign [.Name x p] e q] [.ExceptHandler (some (.Name "KeyError" p4)) none (st :: hs) p5] [] [] p6) Q := by
 refine C1 hx hk ?_
 cases r with
 | ok v => exact mQ (z5 h0 hl ho h) (mK (h1 v rfl))
 | err => exact po (DZ h0 h) (λ _ _ _ => rfl) (h2 rfl)
end
section
variable {P : LP} {s : LS} {j : Jk} {fl : Nat} {p c : Bs}
noncomputable abbrev CE (P : LP) (s : LS) (ρ : En) (f : Fl) : Prop := (∃ j : Jk, ρ = eW P s j) /\ (f = .next \/ f = .cont)
noncomputable abbrev Oc (P : LP) (fl : Nat) (s : LS) (ρ : En) (f : Fl) : Prop := (∃ j : Jk, ρ = eW P s { j with cflags := some (pV fl) }) /\ (f = .next \/ f = .cont)
noncomputable abbrev Nq (P : LP) (fl : Nat) (s : LS) (p : Bs) : LS := ⟨(sv P.S P.mn fl (s.cs, s.wl) p).1, (sv P.S P.mn fl (s.cs, s.wl) p).2, s.cands⟩
theorem Gr (hl : s.wl.length < 4000) (hc : s.cs.length < cap) (hS : P.S p = none -> P.sh = some true) :
  Wp KL (eW P s { j with cflags := some (pV fl), pcmt := some (.bytes p) }) (lP 0) (Oc P fl (Nq P fl s p)) := by
 show Wp KL _ (_ :: _ :: _ :: _ :: _ :: _ :: []) _
 refine mQ (x8 rfl rfl rfl rfl rfl rfl (en rfl) (mO.of rfl mt) Eg) ?_
 have done : ∀ {d : Option PV}, sv P.S P.mn fl (s.cs, s.wl) p = (s.cs, s.wl) -> (∃ j' : Jk, eW P s { j with cflags := some (pV fl), pcmt := some (.bytes p), pflags := some (pV (look s.cs p)), pdt := d } = eW P (Nq P fl s p) { j' with cflags := some (pV fl) }) := λ {d} e => ⟨{ j with pcmt := some (.bytes p), pflags := some (pV (look s.cs p)), pdt := d }, by unfold Nq; rw [e]⟩
 refine mV (x := (look s.cs p &&& fl) == fl) (mM (mJ (en rfl) (en rfl) oq) (en rfl) nR) (λ h => po zr (λ _ _ _ => rfl) ⟨done (d := j.pdt) (if_pos h), .inr rfl⟩) (λ h => mK (qj (z6 rfl rfl (uB rfl rfl rfl (en rfl) rfl) (λ v hv => ?_) λ hv => ?_)))
 ·cases hs : P.S p with
  | none => rw [hs] at hv; cases hv
  | some d =>
   rw [hs] at hv
   cases hv
   have e0 : sv P.S P.mn fl (s.cs, s.wl) p = if d < P.mn then (s.cs, s.wl) else (pb s.cs p (look s.cs p ||| fl), pD (-d, p) s.wl) := by
    unfold sv
    rw [if_neg (by rw [h]; exact nofun), hs]
   refine mV (x := decide (d < P.mn)) (mM (en rfl) (en rfl) AZ) (λ h2 => po zr (λ _ _ _ => rfl) ⟨done (e0.trans (if_pos (of_decide_eq_true h2))), .inr rfl⟩) (λ h2 => mK ?_)
   refine mQ (uS (λ _ _ => rfl) rfl rfl rfl (mO.of rfl (mJ (en rfl) (en rfl) pd)) (en rfl) ?_) ?_
   ·rw [rB]
    exact ac (aT (am _)) (ac sU hc)
   refine mQ (Hh rfl rfl rfl rfl hl (mO.of rfl (en rfl)) (mO.of rfl (en rfl))) (mK ⟨⟨{ j with pcmt := some (.bytes p), pflags := some (pV (look s.cs p)), pdt := some (.int d) }, ?_⟩, .inl rfl⟩)
   unfold Nq
   rw [e0, if_neg (of_decide_eq_false h2), rB]
   rfl
 ·cases hs : P.S p with
  | some d => rw [hs] at hv; cases hv
  | none =>
   have e0 : sv P.S P.mn fl (s.cs, s.wl) p = (s.cs, s.wl) := by
    unfold sv
    rw [if_neg (by rw [h]; exact nofun), hs]
   refine Dv (O9 rfl rfl (shT rfl rfl)) (λ _ => Ek ⟨nofun, done (d := j.pdt) e0, .inr rfl⟩) λ hh => ?_
   rw [hS hs] at hh
   cases hh
end
section
variable {P : LP} {s : LS} {j : Jk} {fl : Nat} {p c : Bs} {ps : List Bs}
structure L5 (P : LP) (fl : Nat) (s : LS) (ps : List Bs) : Prop where
 stamp : ∀ p ∈ ps, P.S p = none -> P.sh = some true
 small : ∀ d l, d ++ l = ps -> (rI P.S P.mn fl s d).wl.length < 4000 /\ (rI P.S P.mn fl s d).cs.length < cap
theorem BX {d : List Bs} : rI P.S P.mn fl s (d ++ [p]) = Nq P fl (rI P.S P.mn fl s d) p := by
 unfold rI Nq
 rw [bT]; rfl
theorem Df (H : L5 P fl s ps) : Wp KL (eW P s { j with cflags := some (pV fl), parents := some (.list (zb ps)) }) (lB 6) (CE P (rI P.S P.mn fl s ps)) := by
 show Wp KL _ (.If _ [.For _ _ (lP 0) [] _] [] _ :: []) _
 refine mV (x := !(zb ps).isEmpty) (nv (λ _ _ => rfl) (en rfl) qr) (λ h => ?_) (λ h => ?_)
 ·refine pW PV.bytes ps rfl (λ d l ρ => ∃ j' : Jk, ρ = eW P (rI P.S P.mn fl s d) { j' with cflags := some (pV fl) }) (mY (en rfl)) ⟨{ j with parents := some (.list (zb ps)) }, rfl⟩ (λ d p l ρ hd h => ?_) λ ρ h => ?_
  ·obtain ⟨j', rfl⟩ := h
   obtain ⟨h1, h2⟩ := H.small d _ hd
   refine ⟨_, .one rfl, (Gr (j := j') (fl := fl) (s := rI P.S P.mn fl s d) (p := p) h1 h2 (H.stamp p (hd ▸ aq d (.head _)))).mono λ ρ' f h => ?_⟩
   rw [BX]
   obtain ⟨h, rfl | rfl⟩ := h <;> exact h
  ·obtain ⟨j', rfl⟩ := h
   exact mK (mK ⟨⟨_, rfl⟩, .inl rfl⟩)
 ·cases ps with
  | nil => exact mK (mK ⟨⟨_, rfl⟩, .inl rfl⟩)
  | cons a l => cases h
noncomputable def vJ (P : LP) (fl : Nat) (s : LS) (c : Bs) : LS := match P.F c with | none => s | some ps => rI P.S P.mn fl s ps
theorem y7 (hF : P.F c = none -> P.sh = some true) (H : ∀ ps, P.F c = some ps -> L5 P fl s ps) : Wp KL (eW P s { j with cflags := some (pV fl), cmt := some (.bytes c) }) (lB 5) (CE P (vJ P fl s c)) := by
 show Wp KL _ (_ :: lB 6) _
 refine qj (z6 rfl rfl (GJ rfl rfl rfl (en rfl) rfl) (λ v hv => ?_) λ hv => ?_)
 ·unfold vJ
  cases hs : P.F c with
  | none => rw [hs] at hv; cases hv
  | some ps =>
   rw [hs] at hv
   cases hv
   exact Df (j := { j with cmt := some (.bytes c) }) (H ps hs)
 ·unfold vJ
  cases hs : P.F c with
  | some d => rw [hs] at hv; cases hv
  | none =>
   refine Dv (O9 rfl rfl (shT rfl rfl)) (λ _ => Ek ⟨nofun, ⟨{ j with cflags := some (pV fl), cmt := some (.bytes c) }, rfl⟩, .inr rfl⟩) λ hh => ?_
   rw [hF hs] at hh
   cases hh
structure IS (P : LP) (s : LS) (pr : Int) (c : Bs) (wl : List It) : Prop where
 known : (s.cs.lookup c).isSome = true
 wlen : wl.length < 4000
 cs : s.cs.length + 1 < cap
 cands : s.cands.length < cap
 noF : P.F c = none -> P.sh = some true
 ps : ∀ ps, P.F c = some ps -> L5 P (wO s.cs c) (nr s pr c wl) ps
theorem BG {pr : Int} {wl : List It} (hw : s.wl = (pr, c) :: wl) : n9 P.F P.S P.mn s = vJ P (wO s.cs c) (nr s pr c wl) c := by
 unfold n9 vJ
 first
  | (rw [hw]; done)
  | (rw [hw]; show (match P.F c with | none => _ | some ps => _) = _; cases P.F c <;> rfl)
theorem Kt {pr : Int} {wl : List It} (hw : s.wl = (pr, c) :: wl) (H : IS P s pr c wl) : Wp KL (eW P s j) (lB 0) (CE P (n9 P.F P.S P.mn s)) := by
 show Wp KL _ (_ :: _ :: _ :: _ :: _ :: lB 5) _
 rw [BG hw]
 obtain ⟨hk, h1, hcs, hca, hn, hp⟩ := H
 obtain ⟨cs, wl0, cands⟩ := s
 cases hw
 refine mQ (H7 rfl rfl rfl rfl rfl rfl h1) ?_
 refine mV (x := false) (mM (en rfl) pJ (AU (a := .tuple _) rfl)) nofun (λ _ => mK ?_)
 refine mQ (Mt (λ _ => rfl) (λ _ _ => rfl) (mO.of rfl (en rfl)) (.cons rfl (.cons rfl .nil))) ?_
 show Wp KL (eW P ⟨cs, wl, cands⟩ { j with result := some (.tuple [.int (-pr), .bytes c]), dt := some (.int (-pr)), cmt := some (.bytes c) }) _ _
 refine mW (mO.of rfl (mJ (mT (en rfl) (en rfl) (wz hk)) (mJ (mJ (en rfl) (en rfl) pd) (en rfl) pd) oq)) ?_
 refine mV (x := (look cs c &&& 7) == 3) (mM (en rfl) (mJ (en rfl) (en rfl) pd) nR) (λ h => ?_) (λ h => mK ?_)
 ·have hfl : wO cs c = (look cs c &&& 7) ||| 4 := if_pos h
  refine mV (x := !((look cs c &&& 8) == 8)) (pc (mM (mJ (mT (en rfl) (en rfl) (wz hk)) (en rfl) oq) (en rfl) nR)) (λ h8 => ?_) (λ h8 => mK ?_)
  ·have hm : nr ⟨cs, (pr, c) :: wl, cands⟩ pr c wl = ⟨pb cs c (look cs c ||| 8), wl, cands ++ [(-pr, c)]⟩ := (if_pos h).trans (if_neg (by rw [(aN _).mp h8]; exact nofun))
   rw [hm] at hp |-
   refine mQ (uS (λ _ _ => rfl) rfl rfl rfl (mO.of rfl (mJ (mT (en rfl) (en rfl) (wz hk)) (en rfl) pd)) (en rfl) ?_) ?_
   ·rw [rB]
    exact ac (aT (am _)) (ac sU (a5 hcs))
   rw [rB]
   refine mQ (zO rfl rfl rfl (l := pI cands) rfl (mO.of rfl (tK (nJ.cons (mO.of rfl (en rfl)) (nJ.cons (mO.of rfl (en rfl)) nJ.nil)) (by decide : 2 <= cap))) ?_) (mK ?_)
   ·rw [aA, am]
    exact hca
   rw [show pI cands ++ [.tuple [.int (-pr), .bytes c]] = pI (cands ++ [(-pr, c)]) from (bw (f := rn) (l₁ := cands) (l₂ := [(-pr, c)])).symm]
   refine mW (mO.of rfl (mJ (en rfl) (en rfl) pd)) (mK ?_)
   rw [hfl] at hp |-
   exact y7 (j := { j with result := some (.tuple [.int (-pr), .bytes c]), dt := some (.int (-pr)) }) hn hp
  ·have hm : nr ⟨cs, (pr, c) :: wl, cands⟩ pr c wl = ⟨cs, wl, cands⟩ := (if_pos h).trans (if_pos ((dZ _).mp h8))
   rw [hm] at hp |-
   refine mW (mO.of rfl (mJ (en rfl) (en rfl) pd)) (mK ?_)
   rw [hfl] at hp |-
   exact y7 (j := { j with result := some (.tuple [.int (-pr), .bytes c]), dt := some (.int (-pr)) }) hn hp
 ·have hm : nr ⟨cs, (pr, c) :: wl, cands⟩ pr c wl = ⟨cs, wl, cands⟩ := if_neg (by rw [h]; exact nofun)
  have hfl : wO cs c = look cs c &&& 7 := if_neg (by rw [h]; exact nofun)
  rw [hm, hfl] at hp |-
  exact y7 (j := { j with result := some (.tuple [.int (-pr), .bytes c]), dt := some (.int (-pr)) }) hn hp
end
noncomputable def vW (S : Bs -> Option Int) (c : Bs) : Int := (S c).getD 0
noncomputable def oh (P : LP) (c : Bs) : Prop := (P.S c).isSome = true \/ P.sh = some true
noncomputable def qm (S : Bs -> Option Int) (s : LS) (c : Bs) : LS := ⟨pb s.cs c (look s.cs c ||| 2), pD (-(vW S c), c) s.wl, s.cands⟩
noncomputable def u6 (P : LP) : LS := ⟨pb [] P.c1 1, pD (-(vW P.S P.c1), P.c1) [], []⟩
noncomputable def pR (P : LP) : LS := P.c2s.foldl (qm P.S) (u6 P)
section
variable {P : LP} {s : LS} {j : Jk} {c : Bs} {ρ : En} {x : Str} {Q : En -> Fl -> Prop} {l : List It} {p1 p2 p3 p4 p5 p6 p7 p8 p9 q1 q2 q3 q4 q5 q6 q7 q8 q9 r1 r2 r3 r4 r5 r6 ap ap2 tp tp2 : Pos} {n1 n2 n3 n4 : Nat}
theorem yw (hx : m9 KL.sc x = true) (ho : KL.ow.contains x = false) (e1 : ρ.get "wlst" = some (.wl l)) (e2 : ρ.get "lookup_stamp" = some (.stp P.S)) (e3 : ρ.get "shallows" = some (pE P.sh)) (e4 : ρ.get x = some (.bytes c)) (hlen : l.length < 4000) (h1 : oh P c -> Q (ρ.set "wlst" (.wl (pD (-(vW P.S c), c) l))) .next) (h2 : ¬ oh P c -> Q ρ .err) (hl : (ap.endLine == p2.line) = true) (hl2 : (ap2.endLine == q2.line) = true) :
  Sx KL ρ (.Try [.Expr (.Call (.Attribute (.Name "wlst" p1) "add" ap) [.Tuple [.Call (.Name "lookup_stamp" p4) [.Name x p5] [] p6, .Name x p7] n1 tp] [] p2) p3] [.ExceptHandler (some (.Name "KeyError" p8)) none [.If (.BoolOp .Or [.Compare (.Name "shallows" r1) [.Is] [.Constant .none n2 r2] r3, .UnaryOp .Not (.Name "shallows" r4) r5] r6) [.Raise none none q9] [] q8, .Expr (.Call (.Attribute (.Name "wlst" q1) "add" ap2) [.Tuple [.Constant (.int 0) n3 q4, .Name x q5] n4 tp2] [] q2) q3] q7] [] [] p9) Q := by
 refine C1 rfl rfl ?_
 cases hs : P.S c with
 | some d =>
  refine mQ (Ft rfl rfl hl e1 hlen (uB rfl rfl e2 (ng hx e4 rfl) (by rw [hs])) (mO.of (congrArg not ho) (ng hx e4 rfl))) (mK ?_)
  have := h1 (.inl (by rw [hs]; rfl))
  rw [show vW P.S c = d by unfold vW; rw [hs]; rfl] at this
  exact this
 | none =>
  have hn : P.sh ≠ some true -> ¬ oh P c := λ h => λ h' => h'.elim (λ h' => by rw [hs] at h'; cases h') h
  refine po (EK rfl rfl hl e1 hlen (uB rfl rfl e2 (ng hx e4 rfl) (by rw [hs]))) (λ _ _ _ => rfl) (Dv (Pf rfl e3) (λ h => Bq ⟨nofun, h2 (hn λ e => by rw [e] at h; cases h)⟩) λ h => ?_)
  refine Mw rfl rfl hl2 e1 hlen (mO.of rfl mt) (mO.of (congrArg not ho) (ng hx e4 rfl)) ?_
  have := h1 (.inr (be ((dZ _).mp h)))
  rw [show vW P.S c = 0 by unfold vW; rw [hs]; rfl] at this
  exact this
theorem BB {S : Bs -> Option Int} {l : List Bs} : ∀ {s : LS}, (l.foldl (qm S) s).wl.length = s.wl.length + l.length /\ (l.foldl (qm S) s).cs.length <= s.cs.length + l.length := by
 induction l with
 | nil => exact ⟨rfl, aQ _⟩
 | cons a l ih =>
  intro s
  obtain ⟨h1, h2⟩ := ih (s := qm S s a)
  rw [bA, cu, <- cP, <- cP, bv, bv s.cs.length]
  exact ⟨h1.trans (congrArg (· + l.length) Bu), ac h2 (bj sU _)⟩
theorem H4 (hlen : P.c2s.length <= 1000) (h1 : oh P P.c1 -> (∀ c ∈ P.c2s, oh P c) -> ∀ j : Jk, Wp KL (eW P (pR P) j) (uA.drop 11) Q) (h2 : ¬ (oh P P.c1 /\ ∀ c ∈ P.c2s, oh P c) -> ∀ ρ, Q ρ .err) : Wp KL (eW P ⟨[], [], []⟩ {}) (uA.drop 8) Q := by
 show Wp KL _ (_ :: _ :: _ :: uA.drop 11) _
 refine mQ (uS (λ _ _ => rfl) rfl rfl (kvs := []) rfl (mO.of rfl (en rfl)) (en rfl) (by decide : 1 <= cap)) ?_
 refine qj (yw (P := P) rfl rfl rfl rfl rfl rfl (by decide : 0 < 4000) (λ hc1 => ?_) (λ h => h2 (λ h' => h h'.1) _) rfl rfl)
 refine pW PV.bytes P.c2s rfl (λ d l ρ => ∃ a b, ρ = eW P (d.foldl (qm P.S) (u6 P)) { c2 := a, cflags := b } /\ ∀ c ∈ d, oh P c) (mY (en rfl)) ⟨none, none, rfl, nofun⟩ (λ d c l ρ hd h => ?_) λ ρ h => ?_
 ·obtain ⟨a, b, rfl, hdone⟩ := h
  rw [bT]
  obtain ⟨n1, n2⟩ := BB (S := P.S) (l := d) (s := u6 P)
  have n3 : d.length <= 1000 := ac (by rw [<- hd, aA]; exact aV _ _) hlen
  generalize d.foldl (qm P.S) (u6 P) = s at n1 n2
  have m1 : s.wl.length < 4000 := ar (n1 ▸ a6 n3 _) (by decide : 1 + 1000 < 4000)
  have m2 : s.cs.length + 1 <= cap := ac (bj (ac n2 (a6 n3 _)) 1) (by decide : 1 + 1000 + 1 <= 1048576)
  refine ⟨_, .one rfl, ?_⟩
  show Wp KL _ (_ :: _ :: _ :: []) _
  refine mQ (x8 rfl rfl rfl rfl rfl rfl (en rfl) (mO.of rfl mt) Eg) ?_
  refine mQ (uS (λ _ _ => rfl) rfl rfl rfl (mO.of rfl (mJ (en rfl) (en rfl) pd)) (en rfl) ?_) ?_
  ·rw [rB]
   exact ac (aT (am _)) (ac sU m2)
  rw [rB]
  refine qj (yw (P := P) rfl rfl rfl rfl rfl rfl m1 (λ hc => mK ⟨some (.bytes c), some (pV (look s.cs c)), rfl, λ x hx => ?_⟩) (λ h => h2 (λ h' => h (h'.2 c (hd ▸ aq d (.head _)))) _) rfl rfl)
  rcases aX.mp hx with hx | hx
  ·exact hdone x hx
  ·cases ae.mp hx; exact hc
 ·obtain ⟨a, b, rfl, hdone⟩ := h
  exact h1 hc1 hdone _
end
noncomputable def uc {σ : Type} (go : σ -> Bool) (step : σ -> σ) : Nat -> σ -> σ
 | 0, s => s
 | n + 1, s => if go s then uc go step n (step s) else s
section
variable {K : Ky} {ρ : En} {t : Expr} {b r : List Stmt} {p q : Pos} {Q : En -> Fl -> Prop} {x : Str} {xs : List PV}
theorem FO {σ : Type} (go : σ -> Bool) (step : σ -> σ) (I : σ -> En -> Prop) (h1 : ∀ s ρ, I s ρ -> LU K ρ t (go s)) (h2 : ∀ s ρ, I s ρ -> go s = true -> Wp K ρ b λ ρ' fl => I (step s) ρ' /\ (fl = .next \/ fl = .cont)) {n : Nat} : ∀ {s ρ}, I s ρ -> go (uc go step n s) = false -> (∀ ρ, I (uc go step n s) ρ -> Q ρ .next) -> Nt K ρ t b Q := by
 induction n with
 | zero =>
  intro s ρ h hg hq
  exact CF (hg ▸ h1 s ρ h) (hq ρ h)
 | succ n ih =>
  intro s ρ h hg hq
  have e := h1 s ρ h
  change go (if go s then uc go step n (step s) else s) = _ at hg
  change ∀ ρ', I (if go s then uc go step n (step s) else s) ρ' -> _ at hq
  cases hs : go s with
  | false =>
   rw [hs] at e hq
   exact CF e (hq ρ h)
  | true =>
   rw [hs] at e hg hq
   refine DW e ((h2 s ρ h hs).mono λ ρ' fl h => ?_)
   obtain ⟨h, rfl | rfl⟩ := h <;> exact ih h hg hq
theorem Fo {α : Type} (inj : α -> PV) (L : List α) (I : List α -> List α -> En -> Prop) (hr : ρ.get x = some (.list (L.map inj))) (h0 : I [] L (ρ.put x none)) (hs : ∀ done a l ρ, done ++ a :: l = L -> I done (a :: l) ρ -> ∃ ρ0, sR K t (inj a) ρ ρ0 /\ Wp K ρ0 b (Au (I (done ++ [a]) l) (tQ K r Q))) (h1 : ∀ ρ, I L [] ρ -> Wp K ρ r Q)
  (hx : autoParam (nQ K.sc x = true) tR) (ho : autoParam (K.ow.contains x = true) tR) : Wp K ρ (.For t (.Name x p) b [] q :: r) Q := by
 refine qj (F7 hx ho hr (DM inj (λ d l ρ => d ++ l = L /\ I d l ρ) (λ d a l ρ x => ?_) (λ d ρ x => ?_) L [] _ ⟨rfl, h0⟩))
 ·obtain ⟨ρ0, e1, e2⟩ := hs d a l ρ x.1 x.2
  refine ⟨ρ0, e1, e2.mono λ ρ' fl y => ?_⟩
  have e : d ++ [a] ++ l = L := by rw [bU]; exact x.1
  cases fl with
  | next => exact ⟨e, y⟩
  | cont => exact ⟨e, y⟩
  | _ => exact y
 ·have e : d = L := by rw [<- x.1, cI]
  exact h1 ρ (e ▸ x.2)
end
section
variable {P : LP} {s : LS} {j : Jk} {n : Nat} {r : Rs}
theorem Oe {p p1 p2 p3 : Pos} : LU KL (eW P s j) (.Call (.Name "_has_candidates" p1) [.Name "wlst" p2, .Name "cstates" p3] [] p) (sP s) := by
 have e : sP s = s.wl.any (Bv (xL s.cs)) := by
  unfold sP
  congr 1
  funext x
  unfold Bv pj
  rw [uz]
  cases s.cs.lookup x.2 with
  | none => rfl
  | some v =>
   show (!((v &&& 4) == 4)) = !(cD (v : Int) ((4 : Nat) : Int) == ((4 : Nat) : Int))
   rw [xw, wy]
 rw [e]
 refine N8 rfl (by decide) rfl rfl rfl rfl rfl rfl rfl rfl rfl rfl rfl rfl rfl λ b p h => ?_
 rw [uz] at h
 cases hs : s.cs.lookup b with
 | none => rw [hs] at h; cases h
 | some v => rw [hs] at h; cases h; exact ⟨_, rfl⟩
noncomputable abbrev qA (cs : Cs) (r : List It) (x : It) : List It := if !((look cs x.2 &&& 4) == 4) && !decide (x ∈ r) then r ++ [x] else r
noncomputable def uZ (cs : Cs) (cands : List It) : List It := cands.foldl (qA cs) []
theorem xM {cs : Cs} {l : List It} : (uZ cs l).length <= l.length := by
 suffices ∀ r, (l.foldl (qA cs) r).length <= r.length + l.length from ac (this []) (aT (cF _))
 induction l with
 | nil => exact λ r => aQ _
 | cons x l ih =>
  intro r
  refine ac (ih _) ?_
  rw [cu, ce l.length 1, <- cP]
  refine bj ?_ _
  unfold qA
  split
  ·exact aT aA
  ·exact dv _
theorem Ml (a b : It) : Nl (rn a) (rn b) (a == b) := by
 have e : (a == b) = ((a.1 == b.1) && ((a.2 == b.2) && true)) := by
  rw [bI, beq_iff_eq, av, av, beq_iff_eq, beq_iff_eq]
  exact ⟨λ h => h ▸ ⟨rfl, rfl, rfl⟩, λ h => jz h.1 h.2.1⟩
 rw [e]
 exact .tup (.cons (.int _ _) (.cons (.bytes _ _) .nil))
theorem Fj {x : It} {l : List It} : Co .NotIn (rn x) (.list (pI l)) (!decide (x ∈ l)) := CK rfl (sL Ml x l)
noncomputable def xW (s : LS) : List Bs := (qU (uZ s.cs s.cands)).map (·.2)
theorem MN (hk : ∀ x ∈ s.cands, (s.cs.lookup x.2).isSome = true) (hl : s.cands.length < 64) : Wp KL (eW P s j) (uA.drop 12) (Bl (.ok (.list (zb (xW s))))) := by
 show Wp KL _ (_ :: _ :: _ :: _ :: _ :: []) _
 refine mQ (tJ (λ _ _ => rfl) rfl (.own rfl (tv nJ.nil (by decide)))) ?_
 refine Fo rn s.cands (λ d l ρ => ∃ j : Jk, ρ = eL P s j none (some (.list (pI (uZ s.cs d)))) none) rfl ⟨_, rfl⟩ (λ d x l ρ hd h => ?_) λ ρ h => ?_
 ·obtain ⟨j, rfl⟩ := h
  have hx := hk x (hd ▸ aq d (.head _))
  have hlen : (uZ s.cs d).length < 64 := ar xM (ar (by rw [<- hd, aA]; exact aV _ _) hl)
  rw [show uZ s.cs (d ++ [x]) = qA s.cs (uZ s.cs d) x from bT]
  generalize uZ s.cs d = r at hlen
  have ex : ∀ {ρ : En} {p : Pos}, ρ.get "dt" = some (.int x.1) -> ρ.get "cmt" = some (.bytes x.2) -> ∀ {p1 p2 : Pos} {n : Nat}, Ev KL ρ (.Tuple [.Name "dt" p1, .Name "cmt" p2] n p) (rn x) := λ h1 h2 => tK (nJ.cons (mO.of rfl (ng rfl h1 rfl)) (nJ.cons (mO.of rfl (ng rfl h2 rfl)) nJ.nil)) (by decide : 2 <= cap)
  refine ⟨_, .tup (.cons rfl (.cons rfl .nil)), ?_⟩
  show Wp KL _ (_ :: []) _
  refine mV (x := (!((look s.cs x.2 &&& 4) == 4) && !decide (x ∈ r))) (pN (.cons (pc (mM (mJ (mT (en rfl) (en rfl) (wz hx)) (en rfl) oq) (en rfl) nR)) λ _ => .one (mM (ex rfl rfl) (en rfl) Fj))) (λ h => ?_) (λ h => mK (mK ⟨{ j with dt := some (.int x.1), cmt := some (.bytes x.2) }, ?_⟩))
  ·refine mQ (zO rfl rfl rfl (l := pI r) rfl (mO.of rfl (ex rfl rfl)) ?_) (mK (mK ⟨{ j with dt := some (.int x.1), cmt := some (.bytes x.2) }, ?_⟩))
   ·rw [aA, am]
    exact ac (fE hlen) (by decide)
   ·rw [qA, if_pos h, show pI (r ++ [x]) = pI r ++ [rn x] from bw]; rfl
  ·rw [qA, h]; rfl
 obtain ⟨j, rfl⟩ := h
 refine mQ (Lb rfl rfl rfl rfl rfl (l := uZ s.cs s.cands) rfl (ar xM hl) ⟨⟨_, rfl⟩, ⟨_, _, _, _, rfl⟩, rfl, rfl, rfl, rfl⟩ rfl) ?_
 have hsc : (qU (uZ s.cs s.cands)).length <= cap := by
  unfold qU
  rw [am, qL.length_eq, bh]
  exact ac (a5 (ar xM hl)) (by decide)
 refine mQ (rZ (oU (ys := zb (xW s)) rn (λ x => PV.bytes x.2) (qU (uZ s.cs s.cands)) (mY (en rfl)) rfl hsc (bk ..) λ x hx => ⟨_, .two, mO.of rfl (en rfl)⟩) rfl) ?_
 exact nA (mO.of rfl (en rfl)) rfl
structure N5 (P : LP) (n : Nat) (I : LS -> Prop) : Prop where
 init : I (pR P)
 step : ∀ s, I s -> sP s = true -> I (n9 P.F P.S P.mn s)
 body : ∀ s pr c wl, I s -> sP s = true -> s.wl = (pr, c) :: wl -> IS P s pr c wl
 known : ∀ s, I s -> ∀ x ∈ s.cands, (s.cs.lookup x.2).isSome = true
 few : ∀ s, I s -> s.cands.length < 64
 stop : sP (uc sP (n9 P.F P.S P.mn) n (pR P)) = false
noncomputable def qq (P : LP) (n : Nat) : List Bs := xW (uc sP (n9 P.F P.S P.mn) n (pR P))
theorem JP {I : LS -> Prop} (h : ∀ s, I s -> sP s = true -> I (n9 P.F P.S P.mn s)) : ∀ {s}, I s -> I (uc sP (n9 P.F P.S P.mn) n s) := by
 induction n with
 | zero => exact id
 | succ n ih =>
  intro s hs
  show I (if sP s then uc sP (n9 P.F P.S P.mn) n (n9 P.F P.S P.mn s) else s)
  split
  ·exact ih (h s hs (by assumption))
  ·exact hs
structure Hg (P : LP) (r : Rs) : Prop where
 few : P.c2s.length <= 1000
 ok : oh P P.c1 -> (∀ c ∈ P.c2s, oh P c) -> ∃ n I, N5 P n I /\ r = .ok (.list (zb (qq P n)))
 err : ¬ (oh P P.c1 /\ ∀ c ∈ P.c2s, oh P c) -> r = .err
theorem Je (H : Hg P r) : Wp KL (eW P ⟨[], [], []⟩ {}) (uA.drop 8) (Bl r) := by
 refine H4 H.few (λ a1 a2 j => ?_) λ hn ρ => H.err hn
 obtain ⟨n, I, W, rfl⟩ := H.ok a1 a2
 show Wp KL _ (.While _ _ [] _ :: uA.drop 12) _
 refine qj (Bn (FO sP (n9 P.F P.S P.mn) (λ s ρ => I s /\ ∃ j : Jk, ρ = eW P s j) (λ s ρ h => ?_) (λ s ρ h hg => ?_) ⟨W.init, j, rfl⟩ W.stop λ ρ h => ?_))
 ·obtain ⟨_, j, rfl⟩ := h
  exact Oe
 ·obtain ⟨hI, j, rfl⟩ := h
  cases hw : s.wl with
  | nil =>
   unfold sP at hg
   rw [hw] at hg
   cases hg
  | cons x wl => exact (Kt hw (W.body s x.1 x.2 wl hI hg hw)).mono λ ρ' fl h => ⟨⟨W.step s hI hg, h.1⟩, h.2⟩
 ·obtain ⟨hI, j, rfl⟩ := h
  exact MN (W.known _ hI) (W.few _ hI)
end
theorem AS {env : Env} {sc : Scope} {x : Str} {cell : Addr} (h : (sc.names.all λ y => !(y.2 == .free) || y.1 == x) = true) (hc : env.cells.lookup x = some cell) (he : qZ env sc.names [] = [(x, (env.cells.lookup x).getD 0)]) : closureFor sc env = pure [(x, cell)] := by
 refine (tH λ y hy hf => ?_).trans (congrArg pure (he.trans (by rw [hc]; rfl)))
 have := aU.mp h y hy
 rw [hf] at this
 exact ⟨cell, (be this) ▸ hc⟩
section
variable {P : LP} {r : Rs}
theorem yK (H : Hg P r) : Wp KL (v6 KL.sc ((nE "_find_lcas").params.zip [.par P.F, .bytes P.c1, .list (zb P.c2s), .stp P.S, .int P.mn, pE P.sh])) uA (Bl r) := by
 show Wp KL _ (_ :: _ :: _ :: _ :: _ :: _ :: _ :: _ :: uA.drop 8) _
 refine mQ (tJ (λ _ _ => rfl) rfl (.own rfl (tv nJ.nil (by decide)))) ?_
 refine mQ (tJ (λ _ _ => rfl) rfl (.own rfl we)) ?_
 refine mW (mO.of rfl mt) (mW (mO.of rfl mt) (mW (mO.of rfl mt) (mW (mO.of rfl mt) ?_)))
 refine mQ (HV (i := 4) rfl rfl rfl rfl rfl rfl rfl rfl (λ _ => rfl) λ c => ?_) ?_
 ·obtain ⟨cell, hcell⟩ := (c.cls "_DNC" (.inl rfl)).1
  have M := c.mkf 87 rfl
  exact ⟨_, AS rfl hcell rfl, λ qual doc pm cv ctv => ⟨cell, ⟨⟨λ n => [_, _, _, _, _, _, _, _, _, _, _, _, _, _, _, _, _, _, _, _, _, _, _, _].getD n default, _, _, _, rfl, rfl⟩, rfl, M.gl.symm, M.bi.symm, rfl, rfl, rfl, rfl, λ u v => rfl⟩, hcell⟩⟩
 exact mQ (Gu rfl rfl rfl) (Je H)
theorem LE : yy KL "_find_lcas" := ⟨rfl, u3 _ (.head _), rfl, λ P h => by cases h; rfl, λ _ _ _ _ _ _ l => Gc.mono l⟩
theorem Ot {W : Wo} {G : Fz} {a b c d : PV} {us : List Value} (h : nG W G [a, b, c, d] us) : ∃ v1 v2 v3 v4, us = [v1, v2, v3, v4] /\ VR W G a v1 /\ VR W G b v2 /\ VR W G c v3 /\ VR W G d v4 := by
 obtain ⟨v1, _, rfl, h1, v2, _, rfl, h2, v3, _, rfl, h3, v4, _, rfl, h4, h5⟩ := h
 cases (show _ = _ from h5)
 exact ⟨v1, v2, v3, v4, rfl, h1, h2, h3, h4⟩
theorem Gp (H : Hg P r) (hm : P.mn = 0) : tx 6 "_find_lcas" [.par P.F, .bytes P.c1, .list (zb P.c2s), .stp P.S] [("shallows", pE P.sh)] r := λ W hw => by
 obtain ⟨a, fd, D, ⟨t, hb⟩, _⟩ := hw.lcas
 refine ⟨a, uq LE rfl hw D rfl (yK H) λ G us kus hv hk => ?_⟩
 obtain ⟨v1, v2, v3, v4, rfl, h1, h2, h3, h4⟩ := Ot hv
 obtain ⟨e, _, rfl, h5, h6⟩ := hk
 cases (show _ = _ from h6)
 exact ⟨_, ⟨_, _, rfl, h1, _, _, rfl, h2, _, _, rfl, h3, _, _, rfl, h4, _, _, rfl, ⟨t, by rw [hm]⟩, _, _, rfl, h5, rfl⟩, hb v1 v2 v3 v4 e⟩
theorem F6 (H : Hg P r) : tx 6 "_find_lcas" [.par P.F, .bytes P.c1, .list (zb P.c2s), .stp P.S] [("min_stamp", .int P.mn), ("shallows", pE P.sh)] r := λ W hw => by
 obtain ⟨a, fd, D, _, hb⟩ := hw.lcas
 refine ⟨a, uq LE rfl hw D rfl (yK H) λ G us kus hv hk => ?_⟩
 obtain ⟨v1, v2, v3, v4, rfl, h1, h2, h3, h4⟩ := Ot hv
 obtain ⟨e, _, rfl, h5, e2, _, rfl, h6, h7⟩ := hk
 cases (show _ = _ from h7)
 exact ⟨_, ⟨_, _, rfl, h1, _, _, rfl, h2, _, _, rfl, h3, _, _, rfl, h4, _, _, rfl, h5, _, _, rfl, h6, rfl⟩, hb v1 v2 v3 v4 e e2⟩
end
noncomputable abbrev KF (f : Str) (k : Nat) : Ky := { sc := CU f, ow := H8 f, k := k, exn := true }
theorem xk {f : Str} {k : Nat} {vs : List PV} {r : Rs} (hf : f ∈ qg) (hl : vs.length = (nE f).params.length) (h : Wp (KF f k) (v6 (CU f) ((nE f).params.zip vs)) (nE f).body (Bl r)) : tx (k + 1) f vs [] r :=
 JD (K := KF f k) ⟨rfl, u3 f (.tail _ hf), rfl, nofun, λ _ _ _ _ _ _ _ => id⟩ hf rfl hl h
noncomputable def LM : Option (List Bs) -> Rs
 | some l => .ok (.list (zb l))
 | none => .err
theorem pG (o : Option (List Bs)) : yQ (LM o) = true := by
 cases o with
 | none => rfl
 | some l => exact aU.mpr λ x hx => by obtain ⟨y, hy, rfl⟩ := bp.mp hx; rfl
noncomputable abbrev rQ := Int -> Bs -> List Bs -> Option (List Bs)
structure xY (F : Bs -> Option (List Bs)) (S : Bs -> Option Int) (sh : Option Bool) (U : List Bs) (L : rQ) : Prop where
 run0 : ∀ c1 c2s, c1 ∈ U -> (∀ c ∈ c2s, c ∈ U) -> c2s.length <= 100 -> tx 6 "_find_lcas" [.par F, .bytes c1, .list (zb c2s), .stp S] [("shallows", pE sh)] (LM (L 0 c1 c2s))
 runM : ∀ c1 c2 m, c1 ∈ U -> c2 ∈ U -> S c1 = some m -> tx 6 "_find_lcas" [.par F, .bytes c1, .list (zb [c2]), .stp S] [("min_stamp", .int m), ("shallows", pE sh)] (LM (L m c1 [c2]))
 len : ∀ c1 c2s l, c1 ∈ U -> (∀ c ∈ c2s, c ∈ U) -> c2s.length <= 100 -> L 0 c1 c2s = some l -> l.length <= 8 /\ ∀ c ∈ l, c ∈ U
noncomputable def zm (L : rQ) : List Bs -> Option (List Bs)
 | [] => some []
 | a :: [] => some [a]
 | a :: b :: tl => if a ∈ b :: tl then some [a] else L 0 a (b :: tl)
section
variable {K : Ky} {ρ : En} {p q : Pos} {x f : Str} {e : Expr} {r : Rs} {rest : List Stmt} {Q : En -> Fl -> Prop} {sh : Option Bool} {es : List Expr} {v : PV} {vs : List PV}
theorem wc (h : qe K ρ e r) (h1 : ∀ v, r = .ok v -> Wp K (ρ.set x v) rest Q) (h2 : r = .err -> Q ρ .err) (h0 : autoParam (∀ l env, swapsWith e (some (.Name x p)) l env = pure false) tF) (hx : autoParam (nQ K.sc x = true) tR) (ho : autoParam (K.ow.contains x = false) tR) : Wp K ρ (.Assign [.Name x p] e q :: rest) Q := by
 cases r with
 | ok v => exact mQ (z5 h0 hx ho h) (h1 v rfl)
 | err => exact po (DZ h0 h) (λ _ _ _ => rfl) (h2 rfl)
theorem zR (h : qe K ρ e r) (hq : Q ρ r.fl) : Wp K ρ (.Return (some e) p :: rest) Q := po (J6 h) (λ _ _ _ => by cases r <;> rfl) hq
theorem I8 (h1 : m9 K.sc x = true) (h2 : ρ.get x = some (pE sh)) (ho : K.ow.contains x = false) : mO K ρ (.Name x p) (pE sh) := mO.of (congrArg not ho) (by cases sh <;> exact ng h1 h2 rfl)
theorem oy (h : mO K ρ e v) (t : uQ K ρ es vs) (hn : autoParam (mU e) tF) : uQ K ρ (e :: es) (v :: vs) := .cons hn (JZ h) t
theorem t7 {a : Bs} (h : mO K ρ e (.bytes a)) (hn : autoParam (mU e) tF) : Ev K ρ (.List [e] p) (.list (zb [a])) := nK (nJ.cons h nJ.nil hn) (by decide : 1 <= cap)
end
section
variable {F : Bs -> Option (List Bs)} {S : Bs -> Option Int} {sh : Option Bool} {U : List Bs} {L : rQ}
noncomputable def O0 (F : Bs -> Option (List Bs)) (S : Bs -> Option Int) (sh : Option Bool) (ids : List Bs) (c1 c2s lcas : Option PV) : En := [("lookup_parents", some (.par F)), ("lookup_stamp", some (.stp S)), ("shallows", some (pE sh)), ("commit_ids", some (.list (zb ids))), ("c1", c1), ("c2s", c2s), ("lcas", lcas)]
theorem Cn (H : xY F S sh U L) {ids : List Bs} (hU : ∀ c ∈ ids, c ∈ U) (hlen : ids.length <= 100) : tx 7 "find_merge_base" [.par F, .stp S, pE sh, .list (zb ids)] [] (LM (zm L ids)) := by
 refine xk (k := 6) (by decide) rfl ?_
 show Wp _ (O0 F S sh ids none none none) (_ :: _ :: _ :: _ :: _ :: _ :: _ :: []) _
 cases ids with
 | nil => exact mV (pc (nv (λ _ _ => rfl) (en rfl) qr)) (λ _ => nA (mO.of rfl (nK nJ.nil (by decide))) rfl) (λ h => by cases h)
 | cons a tl =>
  refine mV (pc (nv (λ _ _ => rfl) (en rfl) qr)) (λ h => by cases h) (λ _ => mK (mW (mO.of rfl (mT (en rfl) mt qX)) ?_))
  refine mV (x := !decide (1 < (a :: tl).length)) (pc (mM (nH rfl (en rfl)) mt (yY (b := 1)))) (λ h => ?_) (λ h => mK ?_)
  ·cases tl with
   | nil => exact nA (mO.of rfl (t7 (mO.of rfl (en rfl)))) rfl
   | cons b tl => cases h
  ·cases tl with
   | nil => cases h
   | cons b tl =>
    refine mW (mO.of rfl (BI rfl rfl (.cons (tm (l := a :: b :: tl) (en rfl)) .nil) D7)) ?_
    show Wp _ (O0 F S sh (a :: b :: tl) (some (.bytes a)) (some (.list (zb (b :: tl)))) none) _ _
    refine mV (x := decide (a ∈ b :: tl)) (mM (en rfl) (en rfl) Dz) (λ h => nA (mO.of rfl (t7 (mO.of rfl (en rfl)))) ?_) (λ h => mK ?_)
    ·rw [zm, if_pos (of_decide_eq_true h)]; rfl
    ·rw [zm, if_neg (of_decide_eq_false h)]
     have hc := H.run0 a (b :: tl) (hU a (.head _)) (λ c hc => hU c (.tail _ hc)) (cU hlen)
     generalize L 0 a (b :: tl) = o at hc
     refine wc (zU rfl rfl (oy (mO.of rfl (en rfl)) (oy (mO.of rfl (en rfl)) (oy (mO.of rfl (en rfl)) (oy (mO.of rfl (en rfl)) .nil)))) (.cons (I8 rfl rfl rfl) .nil) hc (pG o)) (λ v hv => ?_) λ hv => ?_
     ·cases o <;> cases hv
      exact nA (mO.of rfl (en rfl)) rfl
     ·cases o <;> cases hv
      rfl
noncomputable def Cp (S : Bs -> Option Int) (sh : Option Bool) (L : rQ) (a b : Bs) : Option Bool :=
 if a = b then some true else match S a with
  | none => if sh = some true then some false else none
  | some m => (L m a [b]).map λ l => l == [a]
noncomputable def Nr : Option Bool -> Rs
 | some b => .ok (.bool b)
 | none => .err
theorem GV (o : Option Bool) : yQ (Nr o) = true := by cases o <;> rfl
noncomputable def Pi (F : Bs -> Option (List Bs)) (S : Bs -> Option Int) (sh : Option Bool) (a b : Bs) (ms lcas : Option PV) : En := [("lookup_parents", some (.par F)), ("lookup_stamp", some (.stp S)), ("shallows", some (pE sh)), ("c1", some (.bytes a)), ("c2", some (.bytes b)), ("min_stamp", ms), ("lcas", lcas)]
theorem N9 {K : Ky} {ρ : En} {p : Pos} (h1 : m9 K.sc "shallows" = true) (h : ρ.get "shallows" = some (pE sh)) : Tr K ρ (.Name "shallows" p) (sh == some true) := by
 cases sh with
 | none => exact nv (λ _ _ => rfl) (ng h1 h rfl) Ld
 | some b => exact (show b = (some b == some true) by cases b <;> rfl) ▸ OO h1 h rfl
theorem Nh (H : xY F S sh U L) {a b : Bs} (ha : a ∈ U) (hb : b ∈ U) : tx 7 "can_fast_forward" [.par F, .stp S, pE sh, .bytes a, .bytes b] [] (Nr (Cp S sh L a b)) := by
 refine xk (k := 6) (by decide) rfl ?_
 show Wp _ (Pi F S sh a b none none) (_ :: _ :: _ :: _ :: []) _
 refine mV (x := a == b) (mM (en rfl) (en rfl) (oR (.bytes a b))) (λ h => nA (mO.of rfl pL) ?_) (λ h => mK (qj (z6 rfl rfl (uB rfl rfl rfl (en rfl) rfl) (λ v hv => ?_) λ hv => ?_)))
 ·rw [Cp, if_pos (be h)]; rfl
 ·rw [Cp, if_neg (ne_of_beq_false h)]
  cases hs : S a with
  | none => rw [hs] at hv; cases hv
  | some m =>
   rw [hs] at hv
   cases hv
   have hc := H.runM a b m ha hb hs
   show Wp _ _ _ (Bl (Nr ((L m a [b]).map λ l => l == [a])))
   generalize L m a [b] = o at hc
   refine wc (zU rfl rfl (oy (mO.of rfl (en rfl)) (oy (mO.of rfl (en rfl)) (oy (mO.of rfl (t7 (mO.of rfl (en rfl)))) (oy (mO.of rfl (en rfl)) .nil)))) (.cons (mO.of rfl (en rfl)) (.cons (I8 rfl rfl rfl) .nil)) hc (pG o)) (λ v hv => ?_) λ hv => ?_
   ·cases o <;> cases hv
    exact nA (mO.of rfl (oA (en rfl) (t7 (mO.of rfl (en rfl))) zW)) rfl
   ·cases o <;> cases hv
    rfl
 ·rw [Cp, if_neg (ne_of_beq_false h)]
  cases hs : S a with
  | some d => rw [hs] at hv; cases hv
  | none =>
   refine Dv (N9 rfl rfl) (λ hh => Ct (mO.of rfl pL) ⟨nofun, ?_⟩) λ hh => Bq ?_
   ·show Nr (if sh = some true then some false else none) = .ok (.bool false)
    rw [if_pos (be hh)]; rfl
   ·show Nr (if sh = some true then some false else none) = .err
    rw [if_neg (ne_of_beq_false hh)]; rfl
end
structure QS where
 F : Bs -> Option (List Bs)
 S : Bs -> Option Int
 sh : Option Bool
 ids : List Bs
noncomputable def nM (n : Nat) : List Bs -> List (Nat × Bs)
 | [] => []
 | a :: l => (n, a) :: nM (n + 1) l
noncomputable abbrev OA (p : Nat × Bs) : PV := .tuple [.int (p.1 : Nat), .bytes p.2]
theorem yl (l : List Bs) : ∀ n : Nat, wV n (zb l) = (nM n l).map OA := by
 induction l with
 | nil => exact λ n => rfl
 | cons a l ih => exact λ n => congrArg (OA (n, a) :: ·) (ih (n + 1))
theorem DS {U l : List Bs} (h : ∀ c ∈ l, c ∈ U) : ∀ n, ∀ p ∈ nM n l, p.2 ∈ U := by
 induction l with
 | nil => exact λ n p hp => nomatch hp
 | cons a l ih => exact λ n p hp => (ag.mp hp).elim (λ e => e ▸ h a (.head _)) (ih (λ c hc => h c (.tail _ hc)) _ p)
theorem ER (l : List Bs) : ∀ n : Nat, (nM n l).length = l.length := by
 induction l with
 | nil => exact λ n => rfl
 | cons a l ih => exact λ n => congrArg ee (ih (n + 1))
noncomputable def ni (L : rQ) (i : Nat) (a : Bs) : List (Nat × Bs) -> Option Bool
 | [] => some true
 | p :: r => if i = p.1 then ni L i a r else (zm L [a, p.2]).bind λ m => if m == [a] then some false else ni L i a r
noncomputable def pK (L : rQ) (all : List (Nat × Bs)) : List (Nat × Bs) -> List Bs -> Option (List Bs)
 | [], acc => some acc
 | p :: r, acc => (ni L p.1 p.2 all).bind λ t => pK L all r (if t then acc ++ [p.2] else acc)
noncomputable def v5 (L : rQ) (ids : List Bs) : Option (List Bs) := if ids.length <= 1 then some ids else pK L (nM 0 ids) (nM 0 ids) []
noncomputable def FK (T : QS) (acc : List Bs) (i ci ii j oi mb : Option PV) : En := [("lookup_parents", some (.par T.F)), ("lookup_stamp", some (.stp T.S)), ("shallows", some (pE T.sh)), ("commit_ids", some (.list (zb T.ids))), ("independent_commits", some (.list (zb acc))), ("i", i), ("commit_id", ci), ("is_independent", ii), ("j", j), ("other_id", oi), ("merge_bases", mb)]
noncomputable abbrev KI : Ky := KF "independent" 7
theorem wq {K : Ky} {ρ : En} {t it : Expr} {b r : List Stmt} {p : Pos} {xs : List PV} {Q : En -> Fl -> Prop} {α : Type} {inj : α -> PV} {L : List α} (hL : xs = L.map inj) (h : xQ K ρ it xs) (g : uW K ρ t b (L.map inj) (tQ K r Q)) (hi : autoParam (o7 K.ow it = true) tR) (hf : autoParam (∀ env x, foldedSetIterable it env x = pure x) tF) (ht : autoParam (sr it = true -> BV t) tT) : Wp K ρ (.For t it b [] p :: r) Q := by
 subst hL
 exact zD hi hf ht h g
section
variable {T : QS} {U : List Bs} {L : rQ} {Q : En -> Fl -> Prop} {acc : List Bs} {i : Nat} {a : Bs} {l : List (Nat × Bs)}
noncomputable abbrev iS : List Stmt := (nE "independent").body.drop 3
theorem EY (H : xY T.F T.S T.sh U L) (ha : a ∈ U) (hU : ∀ p ∈ l, p.2 ∈ U) (h0 : ni L i a l = none -> ∀ ρ, Q ρ .err) (h1 : ∀ t, ni L i a l = some t -> ∀ j oi mb, Q (FK T acc (some (pV i)) (some (.bytes a)) (some (.bool t)) j oi mb) .next) :
  ∀ {j oi mb : Option PV}, uW KI (FK T acc (some (pV i)) (some (.bytes a)) (some (.bool true)) j oi mb) (sT (s0 (iB iS 1))) (sB (s0 (iB iS 1))) (l.map OA) Q := by
 induction l with
 | nil => exact s5 (h1 true rfl _ _ _)
 | cons p l ih =>
  intro j oi mb
  have hb : p.2 ∈ U := hU p (.head _)
  have ih := ih λ p hp => hU p (.tail _ hp)
  refine rp (.tup (.cons rfl (.cons rfl .nil))) ?_
  show Wp KI (FK T acc (some (pV i)) (some (.bytes a)) (some (.bool true)) (some (pV p.1)) (some (.bytes p.2)) mb) (_ :: _ :: _ :: []) _
  refine mV (x := i == p.1) (mM (en rfl) (en rfl) nR) (λ h => ?_) (λ h => mK ?_)
  ·have e : ni L i a (p :: l) = ni L i a l := if_pos (be h)
   rw [e] at h0 h1
   exact po zr (λ _ _ _ => rfl) (ih h0 h1)
  ·have e : ni L i a (p :: l) = (zm L [a, p.2]).bind λ m => if m == [a] then some false else ni L i a l := if_neg (ne_of_beq_false h)
   rw [e] at h0 h1
   have hc := Cn H (ids := [a, p.2]) (λ c hc => (ag.mp hc).elim (λ e => e ▸ ha) λ h => ae.mp h ▸ hb) (by decide : 2 <= 100)
   generalize zm L [a, p.2] = o at hc h0 h1
   refine wc (t9 rfl rfl (oy (mO.of rfl (en rfl)) (oy (mO.of rfl (en rfl)) (oy (I8 rfl rfl rfl) (oy (mO.of rfl (nK (vs := zb [a, p.2]) (nJ.cons (mO.of rfl (en rfl)) (nJ.cons (mO.of rfl (en rfl)) nJ.nil)) (by decide : 2 <= cap))) .nil)))) hc (pG o)) (λ v hv => ?_) λ hv => ?_
   ·cases o with
    | none => cases hv
    | some m =>
     cases hv
     refine mV (x := m == [a]) (mM (en rfl) (t7 (mO.of rfl (en rfl))) zW) (λ h2 => ?_) (λ h2 => mK (mK ?_))
     ·exact mW (mO.of rfl pL) (po IC (λ _ _ _ => rfl) (h1 false (if_pos h2) (some (pV p.1)) (some (.bytes p.2)) (some (.list (zb m)))))
     ·have e : (lw (some m) λ m => if m == [a] then some false else ni L i a l) = ni L i a l := if_neg (by rw [h2]; exact nofun)
      rw [e] at h0 h1
      exact ih h0 h1 (mb := some (.list (zb m)))
   ·cases o with
    | some l => cases hv
    | none => exact h0 rfl _
theorem Fp (H : xY T.F T.S T.sh U L) (hids : ∀ c ∈ T.ids, c ∈ U) (hU : ∀ p ∈ l, p.2 ∈ U) : ∀ {acc : List Bs} {i ci ii j oi mb : Option PV}, acc.length + l.length <= cap -> (pK L (nM 0 T.ids) l acc = none -> ∀ ρ, Q ρ .err) -> (∀ o, pK L (nM 0 T.ids) l acc = some o -> ∀ i ci ii j oi mb, Q (FK T o i ci ii j oi mb) .next) -> uW KI (FK T acc i ci ii j oi mb) (sT (s0 iS)) (sB (s0 iS)) (l.map OA) Q := by
 induction l with
 | nil => exact λ hlen h0 h1 => s5 (h1 _ rfl _ _ _ _ _ _)
 | cons p l ih =>
  intro acc i ci ii j oi mb hlen h0 h1
  have ih := @ih λ p hp => hU p (.tail _ hp)
  refine rp (.tup (.cons rfl (.cons rfl .nil))) ?_
  show Wp KI _ (_ :: _ :: _ :: []) _
  refine mW (mO.of rfl pL) ?_
  have e : pK L (nM 0 T.ids) (p :: l) acc = (ni L p.1 p.2 (nM 0 T.ids)).bind λ t => pK L (nM 0 T.ids) l (if t then acc ++ [p.2] else acc) := rfl
  rw [e] at h0 h1
  show Wp KI (FK T acc (some (pV p.1)) (some (.bytes p.2)) (some (.bool true)) j oi mb) _ _
  refine wq (yl T.ids 0) (sI rfl (mO.of rfl (en rfl))) (EY (Q := tQ KI _ (Au _ _)) H (hU p (.head _)) (DS hids 0) (λ h ρ => h0 (by rw [h]; rfl) ρ) λ t ht j oi mb => ?_)
  rw [ht] at h0 h1
  have l1 : acc.length + 1 + l.length <= cap := (bv acc.length 1 l.length).symm ▸ hlen
  refine mV (x := t) (nv (λ _ _ => rfl) (en rfl) nw) (λ h => ?_) (λ h => mK (mK ?_))
  ·subst h
   refine mQ (zO rfl rfl rfl (l := zb acc) rfl (mO.of rfl (en rfl)) ?_) (mK (mK ?_))
   ·rw [aA, am]
    exact ac (aV _ _) l1
   ·have e2 : zb acc ++ [.bytes p.2] = zb (acc ++ [p.2]) := (bw (l₂ := [p.2])).symm
    rw [e2]
    exact ih (acc := acc ++ [p.2]) (by rw [aA]; exact l1) h0 h1
  ·subst h
   exact ih (ac (a6 (dv _) _) hlen) h0 h1
theorem Jf (H : xY T.F T.S T.sh U L) (hU : ∀ c ∈ T.ids, c ∈ U) (hlen : T.ids.length <= 100) : tx 8 "independent" [.par T.F, .stp T.S, pE T.sh, .list (zb T.ids)] [] (LM (v5 L T.ids)) := by
 refine xk (k := 7) (by decide) rfl ?_
 have hcap : T.ids.length <= cap := ac hlen (by decide)
 show Wp KI [("lookup_parents", some (.par T.F)), ("lookup_stamp", some (.stp T.S)), ("shallows", some (pE T.sh)), ("commit_ids", some (.list (zb T.ids))), ("independent_commits", none), ("i", none), ("commit_id", none), ("is_independent", none), ("j", none), ("other_id", none), ("merge_bases", none)] (_ :: _ :: _ :: _ :: _ :: []) _
 refine mV (x := !!(zb T.ids).isEmpty) (pc (nv (λ _ _ => rfl) (en rfl) qr)) (λ h => ?_) (λ h => mK ?_)
 ·have e : T.ids = [] := dr.mp (fN.mp ((jg _).symm.trans h))
  rw [e]
  exact nA (mO.of rfl (nK nJ.nil (by decide))) rfl
 refine mV (x := T.ids.length == 1) (mM (nH rfl (en rfl)) mt (nR (b := 1))) (λ h1 => ?_) (λ h1 => mK ?_)
 ·rw [v5, if_pos (aT (be h1))]
  exact nA (mO.of rfl (BI rfl rfl (.cons (en rfl) .nil) D7)) rfl
 have h2 : ¬ T.ids.length <= 1 := λ hle => by
  rcases Nat.le_one_iff_eq_zero_or_eq_one.mp hle with e | e
  ·rw [d4.mp e] at h; cases h
  ·exact ne_of_beq_false h1 e
 rw [v5, if_neg h2]
 refine mQ (tJ (λ _ _ => rfl) rfl (.own rfl (tv nJ.nil (by decide)))) ?_
 refine wq (yl T.ids 0) (sI rfl (mO.of rfl (en rfl))) (Fp H hU (DS hU 0) (acc := []) (by rw [ER]; exact (cF _).symm ▸ hcap) (λ h ρ => by rw [h]; rfl) λ o ho i ci ii j oi mb => ?_)
 rw [ho]
 exact po (Fi rfl rfl rfl) (λ _ _ _ => rfl) rfl
end
noncomputable def oM (L : rQ) (c : Bs) : List Bs -> List Bs -> Option (List Bs)
 | [], acc => some acc
 | a :: r, acc => (L 0 c [a]).bind λ l => oM L c r (acc ++ l)
noncomputable def oz (L : rQ) : List Bs -> List Bs -> Option (List Bs)
 | [], lcas => some lcas
 | c :: r, lcas => (oM L c lcas []).bind λ l => oz L r l
noncomputable def y9 (L : rQ) (ids : List Bs) : Option (List Bs) := if ids.length <= 2 then zm L ids else oz L (ids.drop 1) [ids.headD []]
noncomputable def NH (T : QS) (lcas : List Bs) (others cmt nl ca res : Option PV) : En := [("lookup_parents", some (.par T.F)), ("lookup_stamp", some (.stp T.S)), ("shallows", some (pE T.sh)), ("commit_ids", some (.list (zb T.ids))), ("lcas", some (.list (zb lcas))), ("others", others), ("cmt", cmt), ("next_lcas", nl), ("ca", ca), ("res", res)]
noncomputable abbrev KC : Ky := KF "find_octopus_base" 7
theorem H3 {l : List Bs} (h : l ≠ []) : Sb (.list (zb l)) (.int 0) (.bytes (l.headD [])) := by
 cases l with
 | nil => exact absurd rfl h
 | cons a l => exact qX
section
variable {T : QS} {U : List Bs} {L : rQ} {Q : En -> Fl -> Prop} {l : List Bs}
noncomputable abbrev oS : List Stmt := (nE "find_octopus_base").body.drop 4
theorem EI (H : xY T.F T.S T.sh U L) {c : Bs} {lcas : List Bs} {others : Option PV} (hc : c ∈ U) (hU : ∀ a ∈ l, a ∈ U) : ∀ {acc : List Bs} {ca res : Option PV}, (∀ a ∈ acc, a ∈ U) -> acc.length + 8 * l.length <= cap -> (oM L c l acc = none -> ∀ ρ, Q ρ .err) -> (∀ o, oM L c l acc = some o -> o.length <= acc.length + 8 * l.length -> (∀ a ∈ o, a ∈ U) -> ∀ ca res, Q (NH T lcas others (some (.bytes c)) (some (.list (zb o))) ca res) .next) ->
  uW KC (NH T lcas others (some (.bytes c)) (some (.list (zb acc))) ca res) (sT (s0 (iB oS 1))) (sB (s0 (iB oS 1))) (zb l) Q := by
 induction l with
 | nil => exact λ hA hlen h0 h1 => s5 (h1 _ rfl (aV _ _) hA _ _)
 | cons a l ih =>
  intro acc ca res hA hlen h0 h1
  have ha : a ∈ U := hU a (.head _)
  have hx : ∀ x ∈ [a], x ∈ U := λ x hx => ae.mp hx ▸ ha
  have ih := @ih λ p hp => hU p (.tail _ hp)
  refine rp (.one rfl) ?_
  show Wp KC (NH T lcas others (some (.bytes c)) (some (.list (zb acc))) (some (.bytes a)) res) (_ :: _ :: []) _
  have hcl := (H.run0 c [a] hc hx (by decide : 1 <= 100)).mono (by decide : 6 <= 7)
  have hbn := λ m => H.len c [a] m hc hx (by decide : 1 <= 100)
  have e : oM L c (a :: l) acc = (L 0 c [a]).bind λ m => oM L c l (acc ++ m) := rfl
  rw [e] at h0 h1
  generalize L 0 c [a] = o at hcl hbn h0 h1
  refine wc (zU rfl rfl (oy (mO.of rfl (en rfl)) (oy (mO.of rfl (en rfl)) (oy (mO.of rfl (t7 (mO.of rfl (en rfl)))) (oy (mO.of rfl (en rfl)) .nil)))) (.cons (I8 rfl rfl rfl) .nil) hcl (pG o)) (λ v hv => ?_) λ hv => ?_
  ·cases o with
   | none => cases hv
   | some m =>
    cases hv
    obtain ⟨hm, hmU⟩ := hbn m rfl
    have hl2 : (acc ++ m).length + 8 * l.length <= acc.length + 8 * (a :: l).length := by
     rw [aA, cu, hJ, cP, ce (8 * l.length)]
     exact a6 (bj hm _) _
    have hz : zb acc ++ zb m = zb (acc ++ m) := bw.symm
    refine mQ (Bf rfl rfl rfl (l := zb acc) (r := zb m) rfl (mO.of rfl (en rfl)) ?_) (mK ?_)
    ·rw [hz, am]
     exact ac (aV _ _) (ac hl2 hlen)
    ·rw [hz]
     exact ih (acc := acc ++ m) (res := some (.list (zb m))) (λ x hx => (aX.mp hx).elim (hA x) (hmU x)) (ac hl2 hlen) h0 λ o ho hl => h1 o ho (ac hl hl2)
  ·cases o with
   | some l => cases hv
   | none => exact h0 rfl _
theorem E5 (H : xY T.F T.S T.sh U L) {others : Option PV} (hU : ∀ a ∈ l, a ∈ U) : ∀ {lcas : List Bs} {cmt nl ca res : Option PV}, (∀ a ∈ lcas, a ∈ U) -> lcas.length * 8 ^ l.length <= cap -> (oz L l lcas = none -> ∀ ρ, Q ρ .err) -> (∀ o, oz L l lcas = some o -> ∀ cmt nl ca res, Q (NH T o others cmt nl ca res) .next) -> uW KC (NH T lcas others cmt nl ca res) (sT (s0 oS)) (sB (s0 oS)) (zb l) Q := by
 induction l with
 | nil => exact λ hA hlen h0 h1 => s5 (h1 _ rfl _ _ _ _)
 | cons c l ih =>
  intro lcas cmt nl ca res hA hlen h0 h1
  have ih := @ih λ p hp => hU p (.tail _ hp)
  rw [cu, lT, hV (8 ^ l.length) 8, <- Nat.mul_assoc] at hlen
  have hle : 8 * lcas.length <= cap := ac (hV 8 _ ▸ Nat.le_mul_of_pos_right _ (Nat.pow_pos (by decide))) hlen
  have e : oz L (c :: l) lcas = (oM L c lcas []).bind λ o => oz L l o := rfl
  rw [e] at h0 h1
  refine rp (.one rfl) ?_
  show Wp KC _ (_ :: _ :: _ :: []) _
  refine mQ (tJ (λ _ _ => rfl) rfl (.own rfl (tv nJ.nil (by decide)))) ?_
  refine wq rfl (mY (en rfl)) (EI (Q := tQ KC _ (Au _ _)) H (acc := []) (hU c (.head _)) hA nofun ((cF _).symm ▸ hle) (λ h ρ => h0 (by rw [h]; rfl) ρ) λ o ho hl ho' ca res => ?_)
  rw [ho] at h0 h1
  refine mW (mO.of rfl (sH (i := none) (j := none) (en rfl) .none .none)) (mK ?_)
  exact ih (lcas := o) ho' (ac (Nat.mul_le_mul_right _ (ac hl (by rw [List.length_nil, cF, hV]; exact aQ _))) hlen) h0 h1
theorem Jy (H : xY T.F T.S T.sh U L) (hU : ∀ c ∈ T.ids, c ∈ U) (hlen : T.ids.length <= 7) : tx 8 "find_octopus_base" [.par T.F, .stp T.S, pE T.sh, .list (zb T.ids)] [] (LM (y9 L T.ids)) := by
 refine xk (k := 7) (by decide) rfl ?_
 show Wp KC [("lookup_parents", some (.par T.F)), ("lookup_stamp", some (.stp T.S)), ("shallows", some (pE T.sh)), ("commit_ids", some (.list (zb T.ids))), ("lcas", none), ("others", none), ("cmt", none), ("next_lcas", none), ("ca", none), ("res", none)] (_ :: _ :: _ :: _ :: _ :: _ :: []) _
 refine mV (x := !!(zb T.ids).isEmpty) (pc (nv (λ _ _ => rfl) (en rfl) qr)) (λ h => ?_) (λ h => mK ?_)
 ·have e : T.ids = [] := dr.mp (fN.mp ((jg _).symm.trans h))
  rw [e]
  exact nA (mO.of rfl (nK nJ.nil (by decide))) rfl
 have hne : T.ids ≠ [] := λ e => by rw [e] at h; cases h
 refine mV (x := decide (T.ids.length <= 2)) (mM (nH rfl (en rfl)) mt ((show decide ((T.ids.length : Int) <= 2) = decide (T.ids.length <= 2) from decide_eq_decide.mpr eh) ▸ Of)) (λ h2 => ?_) (λ h2 => mK ?_)
 ·rw [y9, if_pos (of_decide_eq_true h2)]
  exact zR (t9 rfl rfl (oy (mO.of rfl (en rfl)) (oy (mO.of rfl (en rfl)) (oy (I8 rfl rfl rfl) (oy (mO.of rfl (en rfl)) .nil)))) (Cn H hU (ac hlen (by decide))) (pG _)) (by cases zm L T.ids <;> rfl)
 rw [y9, if_neg (of_decide_eq_false h2)]
 have hh : T.ids.headD [] ∈ U := by
  cases e : T.ids with
  | nil => exact absurd e hne
  | cons a l => exact hU a (e ▸ .head _)
 refine mW (mO.of rfl (t7 (mO.of rfl (mT (en rfl) mt (H3 hne))))) (mW (mO.of rfl (tm (f := PV.bytes) (en rfl))) ?_)
 refine wq rfl (mY (en rfl)) (E5 (T := T) H (l := T.ids.drop 1) (lcas := [T.ids.headD []]) (λ a ha => hU a (gh ha)) (λ x hx => ae.mp hx ▸ hh) ?_ (λ h ρ => by rw [h]; rfl) λ o ho cmt nl ca res => ?_)
 ·rw [fM]
  exact ac (cW 1 (gE (by decide) (Nat.sub_le_sub_right hlen 1))) (by decide : 1 * 8 ^ (7 - 1) <= 1048576)
 ·rw [ho]
  exact nA (mO.of rfl (en rfl)) rfl
end
noncomputable def rA : Option (List Bs) -> BU
 | some l => .list l
 | none => .none
noncomputable def CV : Option Bool -> BU
 | some b => .bool b
 | none => .none
noncomputable def wG (S : Bs -> Option Int) (sh : Option Bool) (L : rQ) (kind : Nat) (row : List Bs) : BU :=
 if kind = 0 then rA (zm L row) else if kind = 1 then CV (Cp S sh L (row.getD 0 []) (row.getD 1 [])) else if kind = 2 then rA (v5 L row) else rA (y9 L row)
noncomputable abbrev KT : Ky := KF "_law_told" 8
noncomputable def Rs.an : Rs -> PV
 | .ok v => v
 | .err => .none
section
variable {T : QS} {U : List Bs} {L : rQ} {Q : En -> Fl -> Prop} {ρ : En} {e : Expr} {rest hs : List Stmt} {p p1 p2 p3 q q2 : Pos} {n k : Nat} {r : Rs} {f : Str} {vs : List PV} {es : List Expr}
theorem GM (h : qe KT ρ e r) : Wp KT ρ (.Return (some e) p :: rest) (Na KT [.Return (some (.Constant .none n q)) q2] (tQ KT [] (Bl (.ok r.an)))) := by
 refine zR h ?_
 cases r with
 | ok v => rfl
 | err => exact Ct (mO.of rfl pJ) rfl
theorem vm {rest2 : List Stmt} (h : qe KT ρ e r) : Wp KT ρ (.Return (some e) p :: rest) (tQ KT rest2 (Na KT [.Return (some (.Constant .none n q)) q2] (tQ KT [] (Bl (.ok r.an))))) := by
 refine zR h ?_
 cases r with
 | ok v => rfl
 | err => exact Ct (mO.of rfl pJ) rfl
theorem Hd (H : xY T.F T.S T.sh U L) (kind : Nat) (hU : ∀ c ∈ T.ids, c ∈ U) (hlen : T.ids.length <= 7) (hne : kind = 1 -> ∃ a b, T.ids = [a, b]) : tx 9 "_law_told" [.int kind, .list (zb T.ids), .par T.F, .stp T.S, pE T.sh] [] (.ok (wG T.S T.sh L kind T.ids).pv) := by
 refine xk (k := 8) (by decide) rfl ?_
 have l100 : T.ids.length <= 100 := ac hlen (by decide)
 show Wp KT [("kind", some (.int kind)), ("row", some (.list (zb T.ids))), ("kin_of", some (.par T.F)), ("time_of", some (.stp T.S)), ("shut", some (pE T.sh))] (_ :: []) _
 have eO : ∀ o : Option (List Bs), (rA o).pv = (LM o).an := λ o => by cases o <;> rfl
 refine qj (C1 rfl rfl ?_)
 unfold wG
 refine mV (x := kind == 0) (mM (en rfl) mt (nR (b := 0))) (λ h => ?_) (λ h => mK ?_)
 ·rw [if_pos (be h), eO]
  exact vm (t9 rfl rfl (oy (mO.of rfl (en rfl)) (oy (mO.of rfl (en rfl)) (oy (I8 rfl rfl rfl) (oy (mO.of rfl (en rfl)) .nil)))) ((Cn H hU l100).mono (by decide : 7 <= 8)) (pG _))
 rw [if_neg (ne_of_beq_false h)]
 refine mV (x := kind == 1) (mM (en rfl) mt (nR (b := 1))) (λ h => ?_) (λ h => mK ?_)
 ·rw [if_pos (be h)]
  obtain ⟨a, b, hab⟩ := hne (be h)
  rw [hab] at hU |-
  have eB : ∀ o : Option Bool, (CV o).pv = (Nr o).an := λ o => by cases o <;> rfl
  rw [eB]
  exact vm (t9 rfl rfl (oy (mO.of rfl (en rfl)) (oy (mO.of rfl (en rfl)) (oy (I8 rfl rfl rfl) (oy (mO.of rfl (mT (en rfl) mt (qX (a := .bytes a)))) (oy (mO.of rfl (mT (en rfl) mt (Ai (b := .bytes b)))) .nil))))) ((Nh H (hU a (.head _)) (hU b (.tail _ (.head _)))).mono (by decide : 7 <= 8)) (GV _))
 rw [if_neg (ne_of_beq_false h)]
 refine mV (x := kind == 2) (mM (en rfl) mt (nR (b := 2))) (λ h => ?_) (λ h => mK ?_)
 ·rw [if_pos (be h), eO]
  exact vm (t9 rfl rfl (oy (mO.of rfl (en rfl)) (oy (mO.of rfl (en rfl)) (oy (I8 rfl rfl rfl) (oy (mO.of rfl (en rfl)) .nil)))) (Jf H hU l100) (pG _))
 rw [if_neg (ne_of_beq_false h), eO]
 exact GM (t9 rfl rfl (oy (mO.of rfl (en rfl)) (oy (mO.of rfl (en rfl)) (oy (I8 rfl rfl rfl) (oy (mO.of rfl (en rfl)) .nil)))) (Jy H hU hlen) (pG _))
end
section
variable {P : LP} {fl i : Nat} {s : Cs × List It} {p x c : Bs} {y : It} {l : List Bs} {t : LS} {pr : Int} {wl : List It} {cs : Cs}
noncomputable def F4 (P : LP) (p : Bs) : Bool := (P.S p).any λ d => decide (P.mn <= d)
noncomputable def par (P : LP) (c : Bs) : List Bs := ((P.F c).getD []).filter (F4 P)
noncomputable def key (P : LP) (c : Bs) : It := (-(vW P.S c), c)
noncomputable def nN (P : LP) (fl : Nat) (s : Cs × List It) (p : Bs) : Cs × List It := if look s.1 p &&& fl = fl then s else (pb s.1 p (look s.1 p ||| fl), pD (key P p) s.2)
theorem Ku : sv P.S P.mn fl s p = if F4 P p then nN P fl s p else s := by
 delta sv nN F4 key vW
 by_cases hb : look s.1 p &&& fl = fl
 ·rw [if_pos (beq_iff_eq.mpr hb), if_pos hb, ite_self]
 ·rw [if_neg λ h => hb (be h), if_neg hb]
  cases P.S p with
  | none => rfl
  | some d =>
   show (if d < P.mn then s else _) = if decide (P.mn <= d) = true then _ else s
   by_cases hd : d < P.mn
   ·rw [if_pos hd, if_neg λ h => Int.not_le.mpr hd (of_decide_eq_true h)]
   ·rw [if_neg hd, if_pos (decide_eq_true (dE.mp hd))]; rfl
theorem Bz : l.foldl (sv P.S P.mn fl) s = (l.filter (F4 P)).foldl (nN P fl) s := by
 induction l generalizing s with
 | nil => rfl
 | cons p l ih =>
  rw [bA, Ku, cw, ih]
  cases F4 P p <;> rfl
noncomputable abbrev uD (P : LP) (fl : Nat) (s : LS) (ps : List Bs) : LS := ⟨(ps.foldl (nN P fl) (s.cs, s.wl)).1, (ps.foldl (nN P fl) (s.cs, s.wl)).2, s.cands⟩
theorem uP (hw : t.wl = (pr, c) :: wl) : n9 P.F P.S P.mn t = uD P (wO t.cs c) (nr t pr c wl) (par P c) := by
 rw [BG hw]
 delta vJ par
 cases P.F c with
 | none => rfl
 | some ps =>
  show rI _ _ _ _ _ = _
  unfold rI
  rw [Bz]; rfl
theorem tu {k j : Bs} {v : Nat} : look (pb cs k v) j = if j = k then v else look cs j := by
 unfold look
 rw [pg]
 split <;> rfl
theorem EX {a b : Nat} (h : a &&& b = b) : a ||| b = a := cR λ i => by
 rw [<- h, aZ, aK]
 cases a.testBit i <;> cases b.testBit i <;> rfl
theorem Ds : look (nN P fl s p).1 x = if x = p then look s.1 x ||| fl else look s.1 x := by
 unfold nN
 split
 ·split
  ·subst x; exact (EX (by assumption)).symm
  ·rfl
 ·rw [tu]
  split
  ·subst x; rfl
  ·rfl
theorem LQ : look (l.foldl (nN P fl) s).1 x = if x ∈ l then look s.1 x ||| fl else look s.1 x := by
 induction l generalizing s with
 | nil => exact (if_neg a9).symm
 | cons p l ih =>
  rw [bA, ih, Ds]
  by_cases h1 : x = p
  ·rw [if_pos h1, if_pos (ag.mpr (.inl h1)), Nat.or_assoc, Nat.or_self, ite_self]
  ·rw [if_neg h1]
   by_cases h2 : x ∈ l
   ·rw [if_pos h2, if_pos (.tail _ h2)]
   ·rw [if_neg h2, if_neg λ h => (ag.mp h).elim h1 h2]
theorem Am (h : y ∈ s.2) : y ∈ (l.foldl (nN P fl) s).2 := by
 induction l generalizing s with
 | nil => exact h
 | cons p l ih =>
  refine ih ?_
  unfold nN
  split
  ·exact h
  ·exact (pu _ _).mem_iff.mpr (.tail _ h)
theorem La (hn : ¬ look s.1 p &&& fl = fl) (h : p ∈ l) : key P p ∈ (l.foldl (nN P fl) s).2 := by
 induction l generalizing s with
 | nil => cases h
 | cons q l ih =>
  by_cases hq : p = q
  ·subst hq
   refine Am (l := l) ?_
   unfold nN
   rw [if_neg hn]
   exact (pu _ _).mem_iff.mpr (.head _)
  ·exact ih (by rw [Ds, if_neg hq]; exact hn) ((ag.mp h).resolve_left hq)
theorem wQ {k j : Bs} {v : Nat} (h : (cs.lookup j).isSome = true) : ((pb cs k v).lookup j).isSome = true := by
 rw [pg]
 split
 ·rfl
 ·exact h
theorem yb (h : (s.1.lookup x).isSome = true) : ((l.foldl (nN P fl) s).1.lookup x).isSome = true := by
 induction l generalizing s with
 | nil => exact h
 | cons p l ih =>
  refine ih ?_
  unfold nN
  split
  ·exact h
  ·exact wQ h
theorem AE (h : y ∈ (l.foldl (nN P fl) s).2) : y ∈ s.2 \/ ∃ p ∈ l, y = key P p /\ ((l.foldl (nN P fl) s).1.lookup p).isSome = true := by
 induction l generalizing s with
 | nil => exact .inl h
 | cons p l ih =>
  rcases ih h with h1 | ⟨q, h1, h2⟩
  ·by_cases hb : look s.1 p &&& fl = fl
   ·exact .inl ((show nN P fl s p = s from if_pos hb) ▸ h1)
   ·have e : nN P fl s p = (pb s.1 p (look s.1 p ||| fl), pD (key P p) s.2) := if_neg hb
    rw [e] at h1
    rcases ag.mp ((pu _ _).mem_iff.mp h1) with h1 | h1
    ·refine .inr ⟨p, .head _, h1, yb (l := l) ?_⟩
     rw [e, pg, if_pos rfl]; rfl
    ·exact .inl h1
  ·exact .inr ⟨q, .tail _ h1, h2⟩
theorem uv (h : pw s.2) : pw (l.foldl (nN P fl) s).2 := by
 induction l generalizing s with
 | nil => exact h
 | cons p l ih =>
  refine ih ?_
  unfold nN
  split
  ·exact h
  ·exact tf _ h
theorem u4 : ∀ v < 8, ((v == 3) = (v.testBit 0 && (v.testBit 1 && !v.testBit 2))) /\ (if v == 3 then v ||| 4 else v) < 8 /\ (if v == 3 then v ||| 4 else v).testBit 0 = v.testBit 0 /\ (if v == 3 then v ||| 4 else v).testBit 1 = v.testBit 1 /\ (if v == 3 then v ||| 4 else v).testBit 2 = (v.testBit 2 || (v.testBit 0 && v.testBit 1)) := by decide
theorem ul (f : Nat) : f &&& 7 < 8 := ar Nat.and_le_right (by decide)
theorem qi (f : Nat) (h : i < 3) : (f &&& 7).testBit i = f.testBit i := by
 rw [aK, show (7 : Nat).testBit i = true from (by decide : ∀ i < 3, (7 : Nat).testBit i = true) i h, db]
theorem Nf (f : Nat) : ((f &&& 7) == 3) = (f.testBit 0 && (f.testBit 1 && !f.testBit 2)) := by
 rw [(u4 _ (ul f)).1, qi f (by decide), qi f (by decide), qi f (by decide)]
theorem BZ : wO cs c < 8 := (u4 _ (ul _)).2.1
theorem BL : (wO cs c).testBit 0 = (look cs c).testBit 0 := (u4 _ (ul _)).2.2.1.trans (qi _ (by decide))
theorem Ac : (wO cs c).testBit 1 = (look cs c).testBit 1 := (u4 _ (ul _)).2.2.2.1.trans (qi _ (by decide))
theorem G4 : (wO cs c).testBit 2 = ((look cs c).testBit 2 || ((look cs c).testBit 0 && (look cs c).testBit 1)) := (u4 _ (ul _)).2.2.2.2.trans (by rw [qi _ (by decide), qi _ (by decide), qi _ (by decide)])
theorem IA : (wO cs c).testBit 3 = false := jp BZ
theorem D9 (f n : Nat) : ((f &&& 2 ^ n) == 2 ^ n) = f.testBit n := by
 rw [bI, beq_iff_eq]
 refine ⟨λ h => ?_, λ h => cR λ i => ?_⟩
 ·have e := congrArg (λ m => m.testBit n) h
  rw [show (f &&& 2 ^ n).testBit n = f.testBit n by rw [aK, i4, db]] at e
  exact e.trans i4
 ·rw [aK, bQ]
  by_cases hi : n = i
  ·subst hi; rw [h]; rfl
  ·rw [decide_eq_false hi, bS]
theorem NI (f : Nat) : ((f &&& 8) == 8) = f.testBit 3 := D9 f 3
theorem Nz (f : Nat) : ((f &&& 4) == 4) = f.testBit 2 := D9 f 2
noncomputable abbrev bt (s : LS) (x : Bs) (i : Nat) : Bool := (look s.cs x).testBit i
noncomputable def BW (s : LS) (c : Bs) : Bool := bt s c 0 && (bt s c 1 && !bt s c 2)
theorem wL : nr t pr c wl = if BW t c = true then (if bt t c 3 = true then ⟨t.cs, wl, t.cands⟩ else ⟨pb t.cs c (look t.cs c ||| 8), wl, t.cands ++ [(-pr, c)]⟩) else ⟨t.cs, wl, t.cands⟩ := by
 delta nr BW
 rw [Nf, NI]
theorem z8 {k : Bs} {n : Nat} : (look (pb cs k (look cs k ||| 2 ^ n)) x).testBit i = ((look cs x).testBit i || (decide (x = k) && decide (i = n))) := by
 rw [tu]
 by_cases h : x = k
 ·subst h
  rw [if_pos rfl, aZ, bQ, decide_eq_true rfl, cE, show decide (i = n) = decide (n = i) from decide_eq_decide.mpr eq_comm]
 ·rw [if_neg h, decide_eq_false h, d9, a7]
theorem wH : bt (nr t pr c wl) x i = (bt t x i || (decide (x = c) && decide (i = 3) && BW t c)) := by
 rw [wL]
 cases h : BW t c with
 | false => rw [bS, a7]; rfl
 | true =>
  rw [if_pos rfl, db]
  cases h8 : bt t c 3 with
  | false => exact z8 (n := 3)
  | true =>
   show bt t x i = _
   by_cases hx : x = c
   ·by_cases hi : i = 3
    ·rw [hx, hi, h8]; rfl
    ·rw [decide_eq_false hi, bS, a7]
   ·rw [decide_eq_false hx, d9, a7]
theorem C6 : (nr t pr c wl).cands = if BW t c = true /\ bt t c 3 = false then t.cands ++ [(-pr, c)] else t.cands := by
 rw [wL]
 cases BW t c with
 | false => rw [if_neg nofun, if_neg nofun]
 | true => cases bt t c 3 <;> rfl
theorem FQ (h : (t.cs.lookup x).isSome = true) : ((nr t pr c wl).cs.lookup x).isSome = true := by
 unfold nr
 split
 ·split
  ·exact h
  ·exact wQ h
 ·exact h
end
noncomputable def xn (f : Nat) : Nat := cond (f.testBit 0) 0 1 + cond (f.testBit 1) 0 1 + cond (f.testBit 2) 0 1 + cond (f.testBit 3) 0 1
noncomputable def uo (U : List Bs) (cs : Cs) : Nat := (U.map λ u => xn (look cs u)).sum
noncomputable def qP (U : List Bs) (s : LS) : Nat := s.wl.length + s.cs.length + s.cands.length + 2 * uo U s.cs
section
variable {P : LP} {U l : List Bs} {fl f g i : Nat} {p c : Bs} {cs : Cs} {wl cands : List It} {s : LS} {pr : Int}
theorem GW (a b : Bool) : cond (a || b) 0 1 <= cond a 0 1 := by cases a <;> cases b <;> decide
theorem Ks : xn (f ||| g) <= xn f := by
 unfold xn
 rw [aZ, aZ, aZ, aZ]
 exact bG (bG (bG (GW _ _) (GW _ _)) (GW _ _)) (GW _ _)
theorem Kg (hi : i < 4) (hg : g.testBit i = true) (hf : f.testBit i = false) : xn (f ||| g) < xn f := by
 have q : cond (f.testBit i || g.testBit i) 0 1 < cond (f.testBit i) 0 1 := by rw [hf, hg]; decide
 unfold xn
 rw [aZ, aZ, aZ, aZ]
 have r := λ j => GW (f.testBit j) (g.testBit j)
 rcases i with _ | _ | _ | _ | i
 ·exact bZ (bZ (bZ q (r 1)) (r 2)) (r 3)
 ·exact bZ (bZ (dP (r 0) q) (r 2)) (r 3)
 ·exact bZ (dP (bG (r 0) (r 1)) q) (r 3)
 ·exact dP (bG (bG (r 0) (r 1)) (r 2)) q
 ·exact absurd hi (cC (cV 4 i))
theorem L3 {a b : Bs -> Nat} (h : ∀ u, a u <= b u) : (U.map a).sum <= (U.map b).sum := by
 induction U with
 | nil => exact aQ _
 | cons u U ih => exact bG (h u) ih
theorem LX {a b : Bs -> Nat} (h : ∀ u, a u <= b u) (hp : a p < b p) (hm : p ∈ U) : (U.map a).sum < (U.map b).sum := by
 induction U with
 | nil => cases hm
 | cons u U ih =>
  cases hm with
  | head => exact bZ hp (L3 h)
  | tail _ hm => exact dP (h u) (ih hm)
theorem GD (u : Bs) : xn (look (pb cs p (look cs p ||| g)) u) <= xn (look cs u) := by
 rw [tu]
 split
 ·subst u; exact Ks
 ·exact aQ _
theorem Ao (hp : p ∈ U) (hi : i < 4) (hg : g.testBit i = true) (hf : (look cs p).testBit i = false) : uo U (pb cs p (look cs p ||| g)) < uo U cs :=
 LX GD (p := p) (by rw [tu, if_pos rfl]; exact Kg hi hg hf) hp
theorem E1 {k : Bs} {v : Nat} (h : (cs.lookup k).isSome = true) : (pb cs k v).length = cs.length := by
 induction cs with
 | nil => cases h
 | cons x r ih =>
  show gj (if x.1 == k then (x.1, v) :: r else x :: pb r k v) = _
  split
  ·rfl
  ·rename_i ha
   refine congrArg ee (ih ?_)
   rw [au, beq_eq_false_iff_ne.mpr λ e => ha (beq_iff_eq.mpr e.symm)] at h
   exact h
theorem KJ {a b : Nat} (hb : b < 8) (h : ¬ a &&& b = b) : ∃ i, i < 4 /\ b.testBit i = true /\ a.testBit i = false := by
 refine bf λ hn => h (cR λ i => ?_)
 rw [aK]
 cases h1 : b.testBit i with
 | false => exact bS _
 | true =>
  cases h2 : a.testBit i with
  | true => rfl
  | false => exact absurd ⟨i, eG λ hi => (by rw [jp (aP hb (gE (n := 2) (i := 3) (by decide) (cU hi)))] at h1; cases h1), h1, h2⟩ hn
theorem IX (hfl : fl < 8) (h : ∀ p ∈ l, p ∈ U) : qP U (uD P fl ⟨cs, wl, cands⟩ l) <= qP U ⟨cs, wl, cands⟩ := by
 induction l generalizing cs wl with
 | nil => exact aQ _
 | cons p l ih =>
  have hl := λ q hq => h q (.tail _ hq)
  by_cases hb : look cs p &&& fl = fl
  ·have e : nN P fl (cs, wl) p = (cs, wl) := if_pos hb
   unfold uD
   rw [bA, e]
   exact ih hl
  ·have e : nN P fl (cs, wl) p = (pb cs p (look cs p ||| fl), pD (key P p) wl) := if_neg hb
   unfold uD
   rw [bA, e]
   refine ac (ih hl) ?_
   refine mL λ gk => ?_
   obtain ⟨i, h1, h2, h3⟩ := KJ hfl hb
   refine gk ?_
   have h4 := Ao (h p (.head _)) h1 h2 h3
   have h6 := sU (k := p) (v := look cs p ||| fl) (cs := cs)
   show (pD (key P p) wl).length + (pb cs p (look cs p ||| fl)).length + cands.length + 2 * uo U (pb cs p (look cs p ||| fl)) <= wl.length + cs.length + cands.length + 2 * uo U cs
   rw [Bu]
   clear ih hl h h1 h2 h3 e hb hfl
   lia
theorem yf (hc : c ∈ U) (hk : (s.cs.lookup c).isSome = true) (hw : s.wl = (pr, c) :: wl) : qP U (nr s pr c wl) + 1 <= qP U s := by
 have hl : s.wl.length = wl.length + 1 := congrArg _ hw
 have e : qP U ⟨s.cs, wl, s.cands⟩ + 1 = qP U s := by
  unfold qP
  rw [hl, bv, bv _ _ 1, bv _ _ 1]
 rw [wL, <- e]
 refine bX ?_
 split
 ·split
  ·exact aQ _
  ·have h4 := Ao hc (by decide : 3 < 4) (by decide : (8 : Nat).testBit 3 = true) (eq_false_of_ne_true (by assumption))
   show wl.length + (pb s.cs c (look s.cs c ||| 8)).length + (s.cands ++ [(-pr, c)]).length + 2 * uo U (pb s.cs c (look s.cs c ||| 8)) <= wl.length + s.cs.length + s.cands.length + 2 * uo U s.cs
   rw [E1 hk, aA]
   show _ + (_ + 1) + _ <= _
   clear hl e hk hw hc
   lia
 ·exact aQ _
end
inductive yi {α : Type} (R : α -> α -> Prop) : α -> α -> Prop
 | refl (a : α) : yi R a a
 | step {a p b : α} : R a p -> yi R p b -> yi R a b
section
variable {α : Type} {R S : α -> α -> Prop} {a b c p : α}
theorem yi.trans (h : yi R a b) (g : yi R b c) : yi R a c := by
 induction h with
 | refl => exact g
 | step hp _ ih => exact .step hp (ih g)
theorem yi.snoc (h : yi R a b) (hp : R b p) : yi R a p := h.trans (.step hp (.refl _))
theorem yi.last (h : yi R a b) : a = b \/ ∃ z, yi R a z /\ R z b := by
 induction h with
 | refl => exact .inl rfl
 | step hp _ ih =>
  rcases ih with rfl | ⟨z, h1, h2⟩
  ·exact .inr ⟨_, .refl _, hp⟩
  ·exact .inr ⟨z, .step hp h1, h2⟩
theorem yi.mono (f : ∀ {a b}, R a b -> S a b) (h : yi R a b) : yi S a b := by
 induction h with
 | refl => exact .refl _
 | step hp _ ih => exact .step (f hp) ih
end
noncomputable abbrev sX (R : Bs -> List Bs) : Bs -> Bs -> Prop := yi λ a p => p ∈ R a
noncomputable abbrev Ef (R : Bs -> List Bs) (A : Bs -> Prop) : Bs -> Bs -> Prop := yi λ a p => p ∈ R a /\ A p
section
variable (P : LP) (U : List Bs)
noncomputable def ah (k z : Bs) : Prop := pF (key P z) (key P k) = true
noncomputable def zT (k : Bs) : Prop := ∃ y, k ∈ par P y /\ ah P k y /\ Ef (par P) (ah P k) P.c1 y /\ ∃ o ∈ P.c2s, Ef (par P) (ah P k) o y /\ ((∀ o' ∈ P.c2s, o' = o) \/ ah P k o)
noncomputable def MB (y : Bs) : Prop := sX (par P) P.c1 y /\ ∃ o ∈ P.c2s, sX (par P) o y
structure qR : Prop where
 closed : ∀ c ∈ U, ∀ ps, P.F c = some ps -> ∀ p ∈ ps, p ∈ U
 acyc : ∀ a b, sX (par P) a b -> a ∉ par P b
 c1 : P.c1 ∈ U
 c2s : ∀ c ∈ P.c2s, c ∈ U
 nodup : U.Nodup
 len : U.length <= 8
 c2len : P.c2s.length <= 100
 shut : P.sh = some true \/ ∀ c ∈ U, (P.S c).isSome = true -> ∃ ps, P.F c = some ps /\ ∀ p ∈ ps, (P.S p).isSome = true
noncomputable abbrev Goes (s : LS) (x : Bs) (i : Nat) : Prop := bt s x i = true -> ∀ p ∈ par P x, bt s p i = true
noncomputable abbrev G8 (s : LS) (o : Bs) (i : Nat) : Prop := (∀ x, bt s x i = true -> x = o) \/ ∀ p ∈ par P o, bt s p i = true
structure Kn (s : LS) (x : Bs) : Prop where
 u : x ∈ U
 key : (s.cs.lookup x).isSome = true
structure JM (s : LS) (x : Bs) : Prop extends Kn U s x where
 b0 : bt s x 0 = true
 b1 : bt s x 1 = true
 b3 : bt s x 3 = true
 np : ¬ zT P x
structure AA (s : LS) : Prop where
 wl : ∀ y ∈ s.wl, y = key P y.2 /\ Kn U s y.2 /\ (P.sh = some true \/ (P.S y.2).isSome = true)
 sorted : pw s.wl
 r0 : ∀ x, bt s x 0 = true -> sX (par P) P.c1 x
 r1 : ∀ x, bt s x 1 = true -> ∃ o ∈ P.c2s, sX (par P) o x
 d : ∀ x, bt s x 2 = true -> (bt s x 0 = true /\ bt s x 1 = true) /\ ∃ y, x ∈ par P y /\ MB P y
 g0 : ∀ x, key P x ∉ s.wl -> Goes P s x 0
 g1 : ∀ x, key P x ∉ s.wl -> Goes P s x 1
 on : ∀ x, key P x ∉ s.wl -> bt s x 0 = true -> bt s x 1 = true -> ∀ p ∈ par P x, bt s p 2 = true
 lc : ∀ x, key P x ∉ s.wl -> BW s x = true -> bt s x 3 = true
 s0 : bt s P.c1 0 = true
 s1 : ∀ o ∈ P.c2s, bt s o 1 = true
 f0 : G8 P s P.c1 0
 f1 : ∀ o ∈ P.c2s, (∀ o' ∈ P.c2s, o' = o) -> G8 P s o 1
 ca : ∀ y ∈ s.cands, y = (vW P.S y.2, y.2) /\ JM P U s y.2
 cb : ∀ x, bt s x 3 = true -> (vW P.S x, x) ∈ s.cands
 cn : (s.cands.map (·.2)).Nodup
 m : qP U s <= 1000
structure OT (s s' : LS) (c : Bs) (wl : List It) : Prop where
 bit : ∀ x i, i < 3 -> bt s' x i = (bt s x i || (decide (x ∈ par P c) && (wO s.cs c).testBit i))
 b3 : ∀ x, bt s' x 3 = (bt s x 3 || (decide (x = c) && BW s c))
 keys : ∀ x, (s.cs.lookup x).isSome = true -> (s'.cs.lookup x).isSome = true
 new : ∀ x ∈ par P c, key P x ∉ s'.wl -> ∀ i, i < 3 -> (wO s.cs c).testBit i = true -> bt s x i = true
 left : ∀ y ∈ s'.wl, y ∈ wl \/ ∃ p ∈ par P c, y = key P p /\ (s'.cs.lookup p).isSome = true
 wlm : ∀ y ∈ wl, y ∈ s'.wl
 sort : pw wl -> pw s'.wl
end
section
variable {P : LP} {U : List Bs} {s s' : LS} {pr : Int} {c k x y o : Bs} {wl : List It} {i : Nat} {A : Bs -> Prop} {a b : Bool} {q : Prop} [Decidable q]
theorem Nu (h : a = true) : (a || b) = true := by rw [h]; rfl
theorem L2 (h : q) (hb : b = true) : (a || (decide q && b)) = true := by rw [decide_eq_true h, hb]; exact cr _
theorem OE (h : (a || (decide q && b)) = true) : a = true \/ (q /\ b = true) := by
 rw [bq, av, decide_eq_true_iff] at h
 exact h
theorem LW (hw : s.wl = (pr, c) :: wl) : OT P s (n9 P.F P.S P.mn s) c wl := by
 rw [uP hw]
 constructor
 case bit =>
  intro x i hi
  show (look _ x).testBit i = _
  rw [LQ]
  have e : (look (nr s pr c wl).cs x).testBit i = bt s x i := wH.trans (by rw [decide_eq_false (aE hi), bS, d9, a7])
  split
  ·rw [aZ, decide_eq_true (by assumption), e]; rfl
  ·rw [decide_eq_false (by assumption), e]; exact (a7 _).symm
 case b3 =>
  intro x
  show (look _ x).testBit 3 = _
  have e : (look (nr s pr c wl).cs x).testBit 3 = (bt s x 3 || (decide (x = c) && BW s c)) := wH.trans (by rw [show decide (3 = 3) = true from rfl, db])
  rw [LQ]
  split
  ·rw [aZ, IA, a7, e]
  ·exact e
 case keys => exact λ x h => yb (FQ h)
 case new =>
  intro x hx hn i hi hb
  have hsub : look (nr s pr c wl).cs x &&& wO s.cs c = wO s.cs c := bf λ h => hn (La (s := ((nr s pr c wl).cs, (nr s pr c wl).wl)) h hx)
  rw [<- hsub, aK, av] at hb
  have e : bt (nr s pr c wl) x i = true := hb.1
  rw [wH, decide_eq_false (aE hi), bS, d9, a7] at e
  exact e
 case left =>
  intro y hy
  have := AE (s := ((nr s pr c wl).cs, (nr s pr c wl).wl)) hy
  rw [qN] at this
  exact this.imp id (by rintro ⟨p, h1, h2, h3⟩; exact ⟨p, h1, h2, by rw [<- qN s pr c wl] at h3; simpa only [qN] using h3⟩)
 case wlm => exact λ y hy => Am (s := ((nr s pr c wl).cs, (nr s pr c wl).wl)) (by rw [qN]; exact hy)
 case sort => exact λ h => uv (s := ((nr s pr c wl).cs, (nr s pr c wl).wl)) (by rw [qN]; exact h)
end
section
variable {P : LP} {U : List Bs} {s s' : LS} {pr : Int} {c k x y o : Bs} {wl : List It} {i : Nat} {A : Bs -> Prop}
theorem N2 (hA : ∀ z, A z -> Goes P s z i) (h : Ef (par P) A x y) (hx : bt s x i = true) (hp : ∀ p ∈ par P x, bt s p i = true) : bt s y i = true := by
 induction h with
 | refl => exact hx
 | step h _ ih => exact ih (hp _ h.1) (hA _ h.2 (hp _ h.1))
theorem Js (h : key P x = key P y) : x = y := (gV.mp h).2
theorem uk (I : AA P U s) (hw : s.wl = (pr, c) :: wl) : (pr, c) = key P c /\ Kn U s c /\ (P.sh = some true \/ (P.S c).isSome = true) := I.wl (pr, c) (hw ▸ .head _)
theorem DX (G : qR P U) (hf : G8 P s o i) (hc : bt s c i = true) (hy : c ∈ par P y) (hr : sX (par P) o y) : ∀ p ∈ par P o, bt s p i = true :=
 hf.elim (λ h => absurd (h c hc ▸ hy) (G.acyc _ _ hr)) id
theorem Dd (G : qR P U) (I : AA P U s) (hw : s.wl = (pr, c) :: wl) (h0 : bt s c 0 = true) (h1 : bt s c 1 = true) (h2 : bt s c 2 = false) : ¬ zT P c := by
 rintro ⟨y, hy, hay, p1, o, ho, p2, hor⟩
 have hA : ∀ z, ah P c z -> key P z ∉ s.wl := λ z hz hm => by
  have hs := I.sorted
  rw [hw] at hs hm
  rw [(uk I hw).1] at hs hm
  rcases ag.mp hm with hm | hm
  ·have e : pF (key P z) (key P c) = true := hz
   rw [hm] at e
   exact Bool.noConfusion (e.symm.trans (o6 e))
  ·exact Bool.noConfusion (hz.symm.trans ((bg.mp hs).1 _ hm))
 have b0 : bt s y 0 = true := N2 (λ z hz => I.g0 z (hA z hz)) p1 I.s0 (DX G I.f0 h0 hy (p1.mono (·.1)))
 have b1 : bt s y 1 = true := N2 (λ z hz => I.g1 z (hA z hz)) p2 (I.s1 o ho) (hor.elim (λ h => DX G (I.f1 o ho h) h1 hy (p2.mono (·.1))) λ h => I.g1 o (hA o h) (I.s1 o ho))
 exact Bool.noConfusion (h2.symm.trans (I.on y (hA y hay) b0 b1 c hy))
theorem yL (hb : ∀ x, bt s' x i = (bt s x i || (decide (x ∈ par P c) && bt s c i))) (hf : G8 P s o i) : G8 P s' o i := by
 rcases hf with h | h
 ·cases hc : bt s c i with
  | true => exact .inr λ p hp => (hb p).trans (L2 (h c hc ▸ hp) hc)
  | false => exact .inl λ x hx => h x (by rw [hb, hc, bS, a7] at hx; exact hx)
 ·exact .inr λ p hp => (hb p).trans (Nu (h p hp))
theorem x9 (I : OT P s s' c wl) (hi : i < 3) (hf : (wO s.cs c).testBit i = bt s c i) (hold : ∀ x, key P x ∉ s'.wl -> x ≠ c -> key P x ∉ s.wl) (same : bt s' x i = bt s x i) (hg : key P x ∉ s.wl -> Goes P s x i) (hx : key P x ∉ s'.wl) : Goes P s' x i := λ h p hp => by
 rw [same] at h
 rw [I.bit p i hi]
 by_cases hxc : x = c
 ·subst hxc
  exact L2 hp (hf.trans h)
 ·exact Nu (hg (hold x hx hxc) h p hp)
theorem zG : BW s c = true ↔ bt s c 0 = true /\ bt s c 1 = true /\ bt s c 2 = false := by
 unfold BW
 rw [av, av, aN]
theorem LJ (G : qR P U) (hc : c ∈ U) (h : x ∈ par P c) : x ∈ U /\ (P.S x).isSome = true := by
 unfold par at h
 have hm := bF.mp h
 constructor
 ·have := hm.1
  cases hF : P.F c with
  | none => rw [hF] at this; cases this
  | some ps => rw [hF] at this; exact G.closed c hc ps hF x this
 ·have := hm.2
  unfold F4 at this
  cases hs : P.S x with
  | none => rw [hs] at this; cases this
  | some d => rfl
theorem yn (G : qR P U) (I : AA P U s) (hw : s.wl = (pr, c) :: wl) : qP U (n9 P.F P.S P.mn s) < qP U s := by
 have hc := (uk I hw).2.1
 rw [uP hw]
 refine ar (IX BZ λ p hp => (LJ G hc.u hp).1) ?_
 exact yf hc.u hc.key hw
theorem Ce (hw : s.wl = (pr, c) :: wl) : (n9 P.F P.S P.mn s).cands = if BW s c = true /\ bt s c 3 = false then s.cands ++ [(-pr, c)] else s.cands := by
 rw [uP hw]; exact C6
theorem K7 (G : qR P U) (I : AA P U s) (hw : s.wl = (pr, c) :: wl) (T : OT P s s' c wl) (hm : qP U s' < qP U s) (hcands : s'.cands = if BW s c = true /\ bt s c 3 = false then s.cands ++ [(-pr, c)] else s.cands) : AA P U s' := by
 obtain ⟨hkc, hc, _⟩ := uk I hw
 have hold : ∀ x, key P x ∉ s'.wl -> x ≠ c -> key P x ∉ s.wl := λ x h hx hm => by
  rw [hw] at hm
  rcases ag.mp hm with hm | hm
  ·exact hx (Js (hm.trans hkc))
  ·exact h (T.wlm _ hm)
 have b0 : ∀ x, bt s' x 0 = (bt s x 0 || (decide (x ∈ par P c) && bt s c 0)) := λ x => (T.bit x 0 (by decide)).trans (by rw [BL])
 have b1 : ∀ x, bt s' x 1 = (bt s x 1 || (decide (x ∈ par P c) && bt s c 1)) := λ x => (T.bit x 1 (by decide)).trans (by rw [Ac])
 have b2 : ∀ x, bt s' x 2 = (bt s x 2 || (decide (x ∈ par P c) && (bt s c 2 || (bt s c 0 && bt s c 1)))) := λ x => (T.bit x 2 (by decide)).trans (by rw [G4])
 have m3 : ∀ x i, i < 3 -> bt s x i = true -> bt s' x i = true := λ x i hi h => (T.bit x i hi).trans (Nu h)
 have same : ∀ x i, i < 3 -> key P x ∉ s'.wl -> bt s' x i = bt s x i := λ x i hi h => by
  rw [T.bit x i hi]
  cases hb : bt s x i with
  | true => rfl
  | false =>
   refine (b7 _).trans (kc.mpr λ h' => ?_)
   rw [av, decide_eq_true_iff] at h'
   exact Bool.noConfusion (hb.symm.trans (T.new x h'.1 h i hi h'.2))
 have kn : ∀ x, Kn U s x -> Kn U s' x := λ x h => ⟨h.u, T.keys x h.key⟩
 have ca : ∀ x, JM P U s x -> JM P U s' x := λ x h => ⟨kn x h.toKn, m3 x 0 (by decide) h.b0, m3 x 1 (by decide) h.b1, (T.b3 x).trans (Nu h.b3), h.np⟩
 have hst : (-pr, c) = (vW P.S c, c) := by
  rw [show pr = -(vW P.S c) from (gV.mp hkc).1, Int.neg_neg]
 constructor
 case wl =>
  intro y hy
  rcases T.left y hy with h | ⟨p, h1, rfl, h3⟩
  ·obtain ⟨a, b, d⟩ := I.wl y (hw ▸ .tail _ h)
   exact ⟨a, kn _ b, d⟩
  ·obtain ⟨a, b⟩ := LJ G hc.u h1
   exact ⟨rfl, ⟨a, h3⟩, .inr b⟩
 case sorted => exact T.sort (bg.mp (hw ▸ I.sorted)).2
 case r0 =>
  intro x h
  rw [b0] at h
  exact (OE h).elim (I.r0 x) λ h => (I.r0 c h.2).snoc h.1
 case r1 =>
  intro x h
  rw [b1] at h
  rcases OE h with h | ⟨h1, h2⟩
  ·exact I.r1 x h
  ·obtain ⟨o, ho, hr⟩ := I.r1 c h2
   exact ⟨o, ho, hr.snoc h1⟩
 case d =>
  intro x h
  rw [b2] at h
  rcases OE h with h | ⟨h1, h2⟩
  ·exact ⟨⟨m3 x 0 (by decide) (I.d x h).1.1, m3 x 1 (by decide) (I.d x h).1.2⟩, (I.d x h).2⟩
  ·rw [bq, av] at h2
   have h3 : bt s c 0 = true /\ bt s c 1 = true := h2.elim (λ h => (I.d c h).1) id
   exact ⟨⟨(b0 x).trans (L2 h1 h3.1), (b1 x).trans (L2 h1 h3.2)⟩, c, h1, I.r0 c h3.1, I.r1 c h3.2⟩
 case g0 => exact λ x hx => x9 T (by decide) BL hold (same x 0 (by decide) hx) (I.g0 x) hx
 case g1 => exact λ x hx => x9 T (by decide) Ac hold (same x 1 (by decide) hx) (I.g1 x) hx
 case on =>
  intro x hx h0 h1 p hp
  rw [same x 0 (by decide) hx] at h0
  rw [same x 1 (by decide) hx] at h1
  rw [b2]
  by_cases hxc : x = c
  ·subst hxc
   exact L2 hp (by rw [h0, h1]; exact cr _)
  ·exact Nu (I.on x (hold x hx hxc) h0 h1 p hp)
 case lc =>
  intro x hx h
  have e : BW s' x = BW s x := by unfold BW; rw [same x 0 (by decide) hx, same x 1 (by decide) hx, same x 2 (by decide) hx]
  rw [e] at h
  rw [T.b3]
  by_cases hxc : x = c
  ·subst hxc; exact L2 rfl h
  ·exact Nu (I.lc x (hold x hx hxc) h)
 case s0 => exact m3 _ 0 (by decide) I.s0
 case s1 => exact λ o ho => m3 _ 1 (by decide) (I.s1 o ho)
 case f0 => exact yL b0 I.f0
 case f1 => exact λ o ho h => yL b1 (I.f1 o ho h)
 case ca =>
  intro y hy
  rw [hcands] at hy
  split at hy
  ·rename_i hcond
   rcases aX.mp hy with hy | hy
   ·exact ⟨(I.ca y hy).1, ca _ (I.ca y hy).2⟩
   ·rw [ae.mp hy]
    obtain ⟨c0, c1, c2⟩ := zG.mp hcond.1
    exact ⟨hst, kn c hc, m3 c 0 (by decide) c0, m3 c 1 (by decide) c1, (T.b3 c).trans (L2 rfl hcond.1), Dd G I hw c0 c1 c2⟩
  ·exact ⟨(I.ca y hy).1, ca _ (I.ca y hy).2⟩
 case cb =>
  intro x hx
  rw [hcands]
  rw [T.b3] at hx
  by_cases h3 : bt s x 3 = true
  ·have := I.cb x h3
   split
   ·exact aC _ this
   ·exact this
  ·obtain ⟨rfl, hx⟩ := (OE hx).resolve_left h3
   rw [if_pos ⟨hx, eq_false_of_ne_true h3⟩, <- hst]
   exact aq _ (.head _)
 case cn =>
  rw [hcands]
  split
  ·rename_i hcond
   rw [bw, cT]
   refine ⟨I.cn, bR _ _, λ a ha b hb e => ?_⟩
   obtain ⟨y, hy, rfl⟩ := bp.mp ha
   have := (I.ca y hy).2.b3
   rw [e.trans (ae.mp hb), hcond.2] at this
   cases this
  ·exact I.cn
 case m => exact ac (a5 hm) I.m
theorem HY (G : qR P U) (I : AA P U s) (hw : s.wl = (pr, c) :: wl) : AA P U (n9 P.F P.S P.mn s) := K7 G I hw (LW hw) (yn G I hw) (Ce hw)
end
section
variable {P : LP} {U l : List Bs} {S : Bs -> Option Int} {s s' : LS} {pr : Int} {c x : Bs} {wl : List It} {i n : Nat} {y : It} {cs : Cs}
theorem Ch : bt (l.foldl (qm S) s) x i = (bt s x i || (decide (x ∈ l) && decide (i = 1))) := by
 induction l generalizing s with
 | nil => exact (a7 _).symm
 | cons a l ih =>
  rw [bA, ih, show bt (qm S s a) x i = (bt s x i || (decide (x = a) && decide (i = 1))) from z8 (n := 1), eI, <- Bool.and_or_distrib_right, <- lh]
  exact congrArg (λ q => bt s x i || (q && decide (i = 1))) (decide_eq_decide.mpr ag.symm)
theorem IM : y ∈ (l.foldl (qm P.S) s).wl ↔ y ∈ s.wl \/ ∃ c ∈ l, y = key P c := by
 induction l generalizing s with
 | nil => exact ⟨.inl, λ h => h.elim id (by rintro ⟨_, h, _⟩; exact nomatch h)⟩
 | cons a l ih =>
  rw [bA, ih, show y ∈ (qm P.S s a).wl ↔ y = key P a \/ y ∈ s.wl from (pu _ _).mem_iff.trans ag]
  constructor
  ·rintro ((h | h) | ⟨c, h1, h2⟩)
   ·exact .inr ⟨a, .head _, h⟩
   ·exact .inl h
   ·exact .inr ⟨c, .tail _ h1, h2⟩
  ·rintro (h | ⟨c, h1, h2⟩)
   ·exact .inl (.inr h)
   ·rcases ag.mp h1 with rfl | h1
    ·exact .inl (.inl h2)
    ·exact .inr ⟨c, h1, h2⟩
theorem Cm (h : pw s.wl) : pw (l.foldl (qm S) s).wl := by
 induction l generalizing s with
 | nil => exact h
 | cons a l ih => exact ih (tf _ h)
theorem yg (h : (s.cs.lookup x).isSome = true \/ x ∈ l) : ((l.foldl (qm S) s).cs.lookup x).isSome = true := by
 induction l generalizing s with
 | nil => exact h.resolve_right a9
 | cons a l ih =>
  refine ih ?_
  rcases h with h | h
  ·exact .inl (wQ h)
  ·rcases ag.mp h with rfl | h
   ·exact .inl (by show ((pb _ _ _).lookup x).isSome = true; rw [pg, if_pos rfl]; rfl)
   ·exact .inr h
theorem BF : (l.foldl (qm S) s).cands = s.cands := by
 induction l generalizing s with
 | nil => rfl
 | cons a l ih => exact ih
theorem tL : bt (pR P) x i = ((decide (x = P.c1) && decide (i = 0)) || (decide (x ∈ P.c2s) && decide (i = 1))) := by
 have h := z8 (cs := []) (k := P.c1) (x := x) (i := i) (n := 0)
 rw [show look [] P.c1 ||| 2 ^ 0 = 1 by rw [show look [] P.c1 = 0 from rfl]; rfl, show look [] x = 0 from rfl, a8, b7] at h
 unfold pR
 rw [Ch, show bt (u6 P) x i = _ from h]
theorem xm : y ∈ (pR P).wl ↔ y = key P P.c1 \/ ∃ c ∈ P.c2s, y = key P c := IM.trans (or_congr_left ae)
theorem NT (f : Nat) : xn f <= 4 := by
 unfold xn
 cases f.testBit 0 <;> cases f.testBit 1 <;> cases f.testBit 2 <;> cases f.testBit 3 <;> decide
theorem L8 : uo U cs <= 4 * U.length := by
 unfold uo
 induction U with
 | nil => exact aQ _
 | cons u U ih => exact ac (bG (NT _) ih) (aT (ce _ _))
theorem GT (G : qR P U) (h1 : oh P P.c1) (h2 : ∀ c ∈ P.c2s, oh P c) : AA P U (pR P) := by
 have b0 : ∀ x, bt (pR P) x 0 = decide (x = P.c1) := λ x => tL.trans (by rw [show decide (0 = 0) = true from rfl, show decide (0 = 1) = false from rfl, db, bS, a7])
 have b1 : ∀ x, bt (pR P) x 1 = decide (x ∈ P.c2s) := λ x => tL.trans (by rw [show decide (1 = 1) = true from rfl, show decide (1 = 0) = false from rfl, db, bS, b7])
 have b2 : ∀ x i, ¬ bt (pR P) x (i + 2) = true := λ x i h => by
  rw [tL, decide_eq_false (by omega : ¬ i + 2 = 0), decide_eq_false (by omega : ¬ i + 2 = 1), bS, bS] at h
  cases h
 have n0 : ∀ x, key P x ∉ (pR P).wl -> ¬ bt (pR P) x 0 = true := λ x hx h => hx (xm.mpr (.inl (congrArg _ (of_decide_eq_true ((b0 x).symm.trans h)))))
 have n1 : ∀ x, key P x ∉ (pR P).wl -> ¬ bt (pR P) x 1 = true := λ x hx h => hx (xm.mpr (.inr ⟨x, of_decide_eq_true ((b1 x).symm.trans h), rfl⟩))
 have hca : (pR P).cands = [] := BF
 constructor
 case wl =>
  intro y hy
  rcases xm.mp hy with rfl | ⟨c, hc, rfl⟩
  ·exact ⟨rfl, ⟨G.c1, yg (.inl (by show ((pb [] P.c1 1).lookup P.c1).isSome = true; rw [pg, if_pos rfl]; rfl))⟩, h1.symm⟩
  ·exact ⟨rfl, ⟨G.c2s c hc, yg (.inr hc)⟩, (h2 c hc).symm⟩
 case sorted => exact Cm (bR _ _)
 case r0 => exact λ x h => of_decide_eq_true ((b0 x).symm.trans h) ▸ .refl _
 case r1 => exact λ x h => ⟨x, of_decide_eq_true ((b1 x).symm.trans h), .refl _⟩
 case d => exact λ x h => absurd h (b2 x 0)
 case g0 => exact λ x hx h => absurd h (n0 x hx)
 case g1 => exact λ x hx h => absurd h (n1 x hx)
 case on => exact λ x hx h => absurd h (n0 x hx)
 case lc => exact λ x hx h => absurd (zG.mp h).1 (n0 x hx)
 case s0 => exact (b0 _).trans (decide_eq_true rfl)
 case s1 => exact λ o ho => (b1 o).trans (decide_eq_true ho)
 case f0 => exact .inl λ x h => of_decide_eq_true ((b0 x).symm.trans h)
 case f1 => exact λ o ho hall => .inl λ x h => hall x (of_decide_eq_true ((b1 x).symm.trans h))
 case ca => exact hca ▸ nofun
 case cb => exact λ x h => absurd h (b2 x 1)
 case cn => exact hca ▸ .nil
 case m =>
  have ⟨n1, n2⟩ := BB (S := P.S) (l := P.c2s) (s := u6 P)
  have n3 := L8 (U := U) (cs := (pR P).cs)
  have h : ∀ a b d e f : Nat, a = 1 + f -> b <= 1 + f -> d <= 4 * e -> e <= 8 -> f <= 100 -> a + b + 0 + 2 * d <= 1000 := by lia
  unfold qP
  rw [hca]
  exact h _ _ _ _ _ n1 n2 n3 G.len G.c2len
theorem Es (hg : sP s = true) : ∃ pr c wl, s.wl = (pr, c) :: wl := by
 cases hw : s.wl with
 | nil =>
  unfold sP at hg
  rw [hw] at hg
  cases hg
 | cons x wl => exact ⟨x.1, x.2, wl, rfl⟩
theorem Cz (G : qR P U) (I : AA P U s) (hg : sP s = true) : AA P U (n9 P.F P.S P.mn s) /\ qP U (n9 P.F P.S P.mn s) < qP U s := by
 obtain ⟨pr, c, wl, hw⟩ := Es hg
 exact ⟨HY G I hw, yn G I hw⟩
theorem Fq (G : qR P U) (I : AA P U s) (h : qP U s <= n) : sP (uc sP (n9 P.F P.S P.mn) n s) = false := by
 induction n generalizing s with
 | zero => exact eq_false_of_ne_true λ hg => absurd (Cz G I hg).2 (cC (ac h (bM _)))
 | succ n ih =>
  show sP (if sP s then uc sP (n9 P.F P.S P.mn) n (n9 P.F P.S P.mn s) else s) = _
  split
  ·obtain ⟨h1, h2⟩ := Cz G I (by assumption)
   exact ih h1 (br (aP h2 h))
  ·exact eq_false_of_ne_true (by assumption)
theorem yZ : s.wl.length <= qP U s /\ s.cs.length <= qP U s /\ s.cands.length <= qP U s :=
 ⟨ac (ac (aV _ _) (aV _ _)) (aV _ _), ac (ac (cV _ _) (aV _ _)) (aV _ _), ac (cV _ _) (aV _ _)⟩
theorem Mj (G : qR P U) (hc : c ∈ U) (h : P.sh = some true \/ (P.S c).isSome = true) : (P.F c = none -> P.sh = some true) /\ ∀ ps, P.F c = some ps -> ∀ p ∈ ps, P.S p = none -> P.sh = some true := by
 have hh := G.shut.elim .inl λ g => h.imp_right λ h => g c hc h
 refine ⟨λ hF => hh.elim id λ ⟨ps, h1, _⟩ => ?_, λ ps hF p hp hS => hh.elim id λ ⟨ps', h1, h2⟩ => ?_⟩
 ·rw [hF] at h1; cases h1
 ·rw [hF] at h1
  cases h1
  have := h2 p hp
  rw [hS] at this; cases this
theorem DU (G : qR P U) (h1 : oh P P.c1) (h2 : ∀ c ∈ P.c2s, oh P c) : N5 P 1000 (AA P U) := by
 have I0 := GT G h1 h2
 have few : ∀ s, AA P U s -> s.cands.length <= 8 := λ s I => by
  have h := cG I.cn (l₂ := U) λ x hx => by
   obtain ⟨y, hy, rfl⟩ := bp.mp hx
   exact (I.ca y hy).2.u
  rw [am] at h
  exact ac h G.len
 refine ⟨I0, λ s I hg => (Cz G I hg).1, λ s pr c wl I hg hw => ?_, λ s I x hx => (I.ca x hx).2.key, λ s I => ar (few s I) (by decide), Fq G I0 I0.m⟩
 obtain ⟨_, hc, hs⟩ := uk I hw
 have hmk := yf hc.u hc.key hw
 have hm : qP U (nr s pr c wl) < 1000 := aP hmk I.m
 have hwl := (yZ (U := U) (s := s)).1
 rw [hw] at hwl
 obtain ⟨hF, hS⟩ := Mj G hc.u hs
 refine ⟨hc.key, aP hwl (ac I.m (by decide)), ar (bX (ac yZ.2.1 I.m)) (by decide), ar (few s I) (by decide), hF, λ ps hps => ⟨hS ps hps, λ d l hdl => ?_⟩⟩
 unfold rI
 rw [Bz]
 have hq : qP U (uD P (wO s.cs c) (nr s pr c wl) (d.filter (F4 P))) <= qP U (nr s pr c wl) := IX BZ λ p hp => G.closed c hc.u ps hps p (hdl ▸ aC _ (bF.mp hp).1)
 have h3 := yZ (U := U) (s := uD P (wO s.cs c) (nr s pr c wl) (d.filter (F4 P)))
 have lt := ar hq hm
 exact ⟨aH (ar h3.1 lt) (by decide), aH (ar h3.2.1 lt) (by decide)⟩
end
noncomputable def kk (ks : Nat -> Int) (p : Array Nat) (i : Nat) : Int := ks (p.getD i 0)
noncomputable abbrev ty (ks : Nat -> Int) (i j : Nat) : Bool := decide (ks i < ks j)
noncomputable def Ri (ks : Nat -> Int) (p : Array Nat) (e : Nat) : Prop := ∀ i, i < e -> kk ks p i <= kk ks p (i + 1)
noncomputable def Fa (ks : Nat -> Int) (p : Array Nat) (e : Nat) : Prop := ∀ i, i < e -> kk ks p (i + 1) <= kk ks p i
inductive AR (ks : Nat -> Int) (p : Array Nat) (L : Nat) : Nat -> Prop
 | mk (e : Nat) (h : e + 1 <= L) (up : Ri ks p e) (last : e + 1 = L \/ kk ks p (e + 1) < kk ks p e) : AR ks p L (e + 1)
inductive DR (ks : Nat -> Int) (z L : Nat) : Array Nat × Nat × Nat -> Prop
 | mk (p : Array Nat) (e q a : Nat) (hs : p.size = z) (he : e + 1 <= L) (hd : Fa ks p e) (hq : a + q = e) (hf : ∀ i, a <= i -> i <= e -> kk ks p i = kk ks p e) : DR ks z L (p, e + 1, q)
inductive UR (ks : Nat -> Int) (z N : Nat) : Nat × Array Nat -> Prop
 | mk (p : Array Nat) (e : Nat) (hs : p.size = z) (h : e + 1 <= N) (up : Ri ks p e) : UR ks z N (e + 1, p)
noncomputable def PR (ks : Nat -> Int) (p : Array Nat) (e m : Nat) : Prop := m <= e + 1 /\ (∀ i, i < m -> kk ks p i <= kk ks p (e + 1)) /\ ∀ i, m <= i -> i <= e -> kk ks p (e + 1) < kk ks p i
section
variable {ks : Nat -> Int} {p p' : Array Nat} {m n e k i j N L z a q f l r : Nat} {α β : Type}
theorem rM {lt : Nat -> Nat -> Bool} {t : KasT α} {f : α -> KasT β} : o8 lt (t.bind f) = o8 lt (f (o8 lt t)) := by
 induction t with
 | ret a => rfl
 | ask i j k ih => exact ih _
theorem Ri.le (h : Ri ks p e) (hij : i <= j) (hj : j <= e) : kk ks p i <= kk ks p j := by
 induction j with
 | zero => exact me.mp hij ▸ d5 _
 | succ j ih =>
  rcases jb hij with h1 | rfl
  ·exact ew (ih h1 (cU hj)) (h j hj)
  ·exact d5 _
theorem Ri.succ (h : Ri ks p e) (hl : kk ks p e <= kk ks p (e + 1)) : Ri ks p (e + 1) := λ i hi => (j1 (br hi)).elim (h i) λ q => by rw [q]; exact hl
theorem Fa.succ (h : Fa ks p e) (hl : kk ks p (e + 1) <= kk ks p e) : Fa ks p (e + 1) := λ i hi => (j1 (br hi)).elim (h i) λ q => by rw [q]; exact hl
theorem Bx (h : p[i]? = p'[j]?) : kk ks p i = kk ks p' j := by
 unfold kk
 rw [cB, cB, h]
theorem C8 (hj : e + 1 <= p.size) (k : Nat) : kk ks (gB p a (e + 1)) k = if a <= k /\ k <= e then kk ks p (a + e - k) else kk ks p k := by
 have h := getElem?_mirror_all (i := a) hj k
 by_cases hc : a <= k /\ k <= e
 ·rw [if_pos ⟨hc.1, hZ hc.2⟩] at h
  rw [if_pos hc]
  exact Bx h
 ·rw [if_neg λ q => hc ⟨q.1, br q.2⟩] at h
  rw [if_neg hc]
  exact Bx h
theorem Hq (h1 : a <= k) (h2 : k <= e) : a <= a + e - k /\ a + e - k <= e := ⟨jJ (a6 h2 a), Nat.sub_le_of_le_add (by rw [ce]; exact a6 h1 e)⟩
theorem zd (hj : e + 1 <= p.size) (h : ∀ k, a <= k -> k <= e -> kk ks p k = kk ks p e) (k : Nat) : kk ks (gB p a (e + 1)) k = kk ks p k := by
 rw [C8 hj]
 split
 ·obtain ⟨h1, h2⟩ := ‹a <= k /\ k <= e›
  rw [h k h1 h2]
  exact h _ (Hq h1 h2).1 (Hq h1 h2).2
 ·rfl
theorem uU : (gB p i j).size = p.size := mirror_size _ _ _ _
theorem Dy (hf : e + 1 + f = L) (h : Ri ks p e) : AR ks p L (o8 (ty ks) (jY p f (e + 1))) := by
 induction f generalizing e with
 | zero => exact ⟨e, aT hf, h, .inl hf⟩
 | succ f ih =>
  show AR ks p L (o8 (ty ks) (if decide (kk ks p (e + 1) < kk ks p e) = true then .ret (e + 1) else jY p f (e + 1 + 1)))
  by_cases hc : kk ks p (e + 1) < kk ks p e
  ·rw [if_pos (decide_eq_true hc)]
   exact ⟨e, hf ▸ aV _ _, h, .inr hc⟩
  ·rw [if_neg (λ q => hc (of_decide_eq_true q))]
   exact ih ((bv (e + 1) 1 f).trans hf) (h.succ (dE.mp hc))
theorem H6 (hL : L <= z) : ∀ {p e q a}, e + 1 + f = L -> p.size = z -> Fa ks p e -> a + q = e -> (∀ i, a <= i -> i <= e -> kk ks p i = kk ks p e) -> DR ks z L (o8 (ty ks) (ge f p (e + 1) q)) := by
 induction f with
 | zero => exact λ hf hs hd hq hfl => ⟨_, _, _, _, hs, aT hf, hd, hq, hfl⟩
 | succ f ih =>
  intro p e q a hf hs hd hq hfl
  have hf' := (bv (e + 1) 1 f).trans hf
  have hn : e + 1 <= L := hf ▸ aV _ _
  show DR ks z L (o8 (ty ks) (if decide (kk ks p (e + 1) < kk ks p e) = true then (if q > 0 then ge f (gB p (e + 1 - (q + 1)) (e + 1)) (e + 1 + 1) 0 else ge f p (e + 1 + 1) 0) else .ask (p.getD e 0) (p.getD (e + 1) 0) λ d => if d = true then .ret (p, e + 1, q) else ge f p (e + 1 + 1) (q + 1)))
  by_cases hc : kk ks p (e + 1) < kk ks p e
  ·rw [if_pos (decide_eq_true hc)]
   have go : ∀ p1 : Array Nat, p1.size = z -> (∀ k, kk ks p1 k = kk ks p k) -> DR ks z L (o8 (ty ks) (ge f p1 (e + 1 + 1) 0)) := λ p1 hs1 hk => by
    refine ih hf' hs1 (Fa.succ (λ i hi => ?_) ?_) (lV _) λ i h1 h2 => by rw [dF h2 h1]
    ·rw [hk, hk]; exact hd i hi
    ·rw [hk, hk]; exact c9 hc
   split
   ·refine go _ (uU.trans hs) ?_
    rw [show e + 1 - (q + 1) = a by rw [<- hq, cP, fu]]
    exact zd (hs ▸ ac hn hL) hfl
   ·exact go _ hs λ _ => rfl
  ·rw [if_neg λ q => hc (of_decide_eq_true q)]
   show DR ks z L (o8 (ty ks) (if decide (kk ks p e < kk ks p (e + 1)) = true then .ret (p, e + 1, q) else ge f p (e + 1 + 1) (q + 1)))
   by_cases hg : kk ks p e < kk ks p (e + 1)
   ·rw [if_pos (decide_eq_true hg)]
    exact ⟨_, _, _, _, hs, hn, hd, hq, hfl⟩
   ·rw [if_neg λ q => hg (of_decide_eq_true q)]
    have heq : kk ks p (e + 1) = kk ks p e := dX (dE.mp hg) (dE.mp hc)
    refine ih (a := a) hf' hs (hd.succ (lW heq)) (congrArg ee hq) λ i h1 h2 => ?_
    rw [heq]
    rcases jb h2 with h2 | rfl
    ·exact hfl i h1 h2
    ·exact heq
theorem N1 (h : i < e) : 0 + e - i = 0 + e - (i + 1) + 1 /\ 0 + e - (i + 1) < e := by
 rw [cF]
 exact ⟨(Nat.succ_pred_eq_of_pos (km h)).symm, iK (ar (bM i) h) (b9 i)⟩
theorem yN (hn : e + 1 <= N) (hN : N <= z) (hs : p.size = z) (hd : Fa ks p e) : UR ks z N (o8 (ty ks) (iI (e + 1) N p)) := by
 have hup : Ri ks (gB p 0 (e + 1)) e := λ i hi => by
  have hz : e + 1 <= p.size := hs ▸ ac hn hN
  rw [C8 hz, C8 hz, if_pos ⟨bM _, a5 hi⟩, if_pos ⟨bM _, hi⟩, (N1 hi).1]
  exact hd _ (N1 hi).2
 unfold iI
 rw [rM]
 have A := Dy (cX hn) hup
 revert A
 generalize o8 (ty ks) (jY (gB p 0 (e + 1)) (N - (e + 1)) (e + 1)) = m
 rintro ⟨e', h, up, _⟩
 exact ⟨_, _, uU.trans hs, h, up⟩
theorem ut (hn : e + 1 + 1 <= N) (hN : N <= z) (hs : p.size = z) (hd : Fa ks p (e + 1)) : UR ks z N (o8 (ty ks) (ir (e + 1) N p)) := by
 unfold ir
 rw [rM]
 have D := H6 hN (cX hn) hs hd (lV _) λ i h1 h2 => by rw [dF h2 h1]
 revert D
 generalize o8 (ty ks) (ge (N - (e + 1 + 1)) p (e + 1 + 1) 0) = r
 rintro ⟨p1, e1, q, a, hs1, he, hd1, hq, hf⟩
 show UR ks z N (o8 (ty ks) (if q > 0 then iI (e1 + 1) N (gB p1 (e1 + 1 - (q + 1)) (e1 + 1)) else iI (e1 + 1) N p1))
 split
 ·have hk := zd (hs1 ▸ ac he hN) hf
  rw [show e1 + 1 - (q + 1) = a by rw [<- hq, cP, fu]]
  exact yN he hN (uU.trans hs1) λ i hi => by rw [hk, hk]; exact hd1 i hi
 ·exact yN he hN hs1 hd1
theorem Fu (h1 : 1 <= N) (hN : N <= z) (hs : p.size = z) : UR ks z N (o8 (ty ks) (jO N p)) := by
 unfold jO
 rw [rM]
 have A := Dy (ks := ks) (p := p) (e := 0) (cX h1) nofun
 revert A
 generalize o8 (ty ks) (jY p (N - 1) 1) = n
 rintro ⟨e, h, up, last⟩
 by_cases hne : e + 1 = N
 ·rw [if_pos (beq_iff_eq.mpr hne)]
  exact ⟨_, _, hs, h, up⟩
 ·rw [if_neg λ q => hne (be q)]
  have hlt := last.resolve_left hne
  have h2 : e + 1 + 1 <= N := dB h hne
  split
  ·show UR ks z N (o8 (ty ks) (if decide (kk ks p 0 < kk ks p e) = true then .ret (e + 1, p) else ir (e + 1) N (gB p 0 (e + 1))))
   by_cases hr : kk ks p 0 < kk ks p e
   ·rw [if_pos (decide_eq_true hr)]
    exact ⟨_, _, hs, h, up⟩
   ·rw [if_neg λ q => hr (of_decide_eq_true q)]
    have hall : ∀ k, 0 <= k -> k <= e -> kk ks p k = kk ks p e := λ k h0 hk => dX (up.le hk (aQ _)) (ew (dE.mp hr) (up.le h0 hk))
    have hk := zd (hs ▸ ac h hN) hall
    refine ut h2 hN (uU.trans hs) (Fa.succ (λ i hi => ?_) ?_)
    ·rw [hk, hk, hall _ (bM _) hi, hall i (bM _) (a5 hi)]; exact d5 _
    ·rw [hk, hk]; exact c9 hlt
  ·cases e with
   | zero => exact ut h2 hN hs (Fa.succ nofun (c9 hlt))
   | succ e => exact absurd (fQ (b9 e)) (by assumption)
theorem L6 (h : l < r) : l <= (l + r) / 2 /\ (l + r) / 2 < r :=
 ⟨(Nat.le_div_iff_mul_le il).mpr (ma l ▸ a6 (a5 h) l), (Nat.div_lt_iff_lt_mul il).mpr (ma r ▸ Nat.add_lt_add_right h r)⟩
theorem Fh (hup : Ri ks p e) : ∀ {l r}, l <= r -> r <= e + 1 -> r <= l + f -> (∀ i, i < l -> kk ks p i <= kk ks p (e + 1)) -> (∀ i, r <= i -> i <= e -> kk ks p (e + 1) < kk ks p i) -> PR ks p e (o8 (ty ks) (f9 p (e + 1) f l r)) := by
 induction f with
 | zero => exact λ h1 h2 h3 hlo hhi => ⟨ac h1 h2, hlo, λ i h => hhi i (ac h3 h)⟩
 | succ f ih =>
  intro l r h1 h2 h3 hlo hhi
  unfold f9
  by_cases hge : l >= r
  ·rw [if_pos hge]
   exact ⟨ac h1 h2, hlo, λ i h => hhi i (ac hge h)⟩
  ·rw [if_neg hge]
   obtain ⟨m1, m2⟩ := L6 (eG hge)
   show PR ks p e (o8 (ty ks) (if decide (kk ks p (e + 1) < kk ks p ((l + r) / 2)) = true then f9 p (e + 1) f l ((l + r) / 2) else f9 p (e + 1) f ((l + r) / 2 + 1) r))
   generalize (l + r) / 2 = x at m1 m2
   by_cases hlt : kk ks p (e + 1) < kk ks p x
   ·rw [if_pos (decide_eq_true hlt)]
    exact ih m1 (ac (a5 m2) h2) (br (aP m2 h3)) hlo λ i b1 b2 => j9 hlt (hup.le b1 b2)
   ·rw [if_neg λ q => hlt (of_decide_eq_true q)]
    exact ih m2 h2 (ac h3 (by rw [bv]; exact bX (bj m1 f))) (λ i b1 => ew (hup.le (br b1) (br (aP m2 h2))) (dE.mp hlt)) hhi
theorem F8 (hs : e + 1 < p.size) (hup : Ri ks p e) (H : PR ks p e m) : Ri ks (bubble p (e + 1) (e + 1 - m)) (e + 1) := λ i hi => by
 obtain ⟨a1, a2, a3⟩ := H
 have hb : ∀ i, kk ks (bubble p (e + 1) (e + 1 - m)) i = if i = m then kk ks p (e + 1) else if m < i /\ i <= e + 1 then kk ks p (i - 1) else kk ks p i := λ i => by
  have h := getElem?_bubble hs (e + 1 - m) (dz _ _) i
  rw [ij a1] at h
  split
  ·rw [if_pos (by assumption)] at h; exact Bx h
  ·rw [if_neg (by assumption)] at h
   split
   ·rw [if_pos (by assumption)] at h; exact Bx h
   ·rw [if_neg (by assumption)] at h; exact Bx h
 rw [hb, hb]
 rcases Nat.lt_trichotomy i m with h | rfl | h
 ·rw [if_neg (aE h), if_neg λ q => Nat.lt_asymm h q.1]
  by_cases h2 : i + 1 = m
  ·rw [if_pos h2]; exact a2 i h
  ·rw [if_neg h2, if_neg λ q => fR q.1 h]
   exact hup i (dA (aP (dB h h2) a1))
 ·rw [if_pos rfl, if_neg (fP i), if_pos ⟨de i, hi⟩]
  exact c9 (a3 i (aQ _) (br hi))
 ·rw [if_neg (cO h), if_pos ⟨h, a5 hi⟩, if_neg (cO (aL h)), if_pos ⟨aL h, hi⟩]
  cases i with
  | zero => cases h
  | succ i => exact hup i (dA hi)
theorem KY : ∀ {p e}, e + 1 + f = z -> p.size = z -> Ri ks p e -> (o8 (ty ks) (i9 f p (e + 1))).size = z /\ ∀ i, i + 1 < z -> kk ks (o8 (ty ks) (i9 f p (e + 1))) i <= kk ks (o8 (ty ks) (i9 f p (e + 1))) (i + 1) := by
 induction f with
 | zero => exact λ hf hs h => ⟨hs, λ i hi => h i (by rw [<- hf] at hi; exact dA hi)⟩
 | succ f ih =>
  intro p e hf hs hup
  have P := Fh (f := e + 1) hup (bM _) (aQ _) (aT (cF _).symm) nofun λ i h1 h2 => absurd h1 (fR (hZ h2))
  rw [show i9 (f + 1) p (e + 1) = (f9 p (e + 1) (e + 1) 0 (e + 1)).bind λ l => i9 f (bubble p (e + 1) (e + 1 - l)) (e + 1 + 1) from rfl, rM]
  exact ih ((bv (e + 1) 1 f).trans hf) ((bubble_size _ _ _).trans hs) (F8 (by rw [hs, <- hf]; exact ja (b9 f)) hup P)
theorem Ho (hn : 1 <= n) : (o8 (ty ks) (fI n)).size = n /\ ∀ i, i + 1 < n -> kk ks (o8 (ty ks) (fI n)) i <= kk ks (o8 (ty ks) (fI n)) (i + 1) := by
 unfold fI
 rw [rM]
 have C := Fu (ks := ks) (p := eV (az n)) hn (aQ n) (aG.trans bh)
 revert C
 generalize o8 (ty ks) (jO n (eV (az n))) = r
 rintro ⟨p, e, hs, h, up⟩
 by_cases hm : e + 1 < n
 ·rw [if_pos hm, show max (e + 1, p).1 1 = e + 1 from Nat.max_eq_left (bX (bM _))]
  exact KY (cX h) hs up
 ·rw [if_neg hm]
  exact ⟨hs, λ i hi => up i (dA (aP hi (bJ hm)))⟩
theorem GX (n : Nat) : (uF n (ty ks)).Pairwise λ i j => ks i <= ks j := by
 unfold uF
 split
 ·match n, ‹n < 2› with
  | 0, _ => exact .nil
  | 1, _ => exact bR _ _
 ·have hn : 1 <= n := cU (bJ ‹_›)
  obtain ⟨hs, hup⟩ := Ho (ks := ks) hn
  generalize o8 (ty ks) (fI n) = p at hs hup
  rw [iM]
  intro i j hi hj hij
  have hR : Ri ks p (n - 1) := λ i hi => hup i (by rw [<- gS hn]; exact fQ hi)
  have h2 : j < n := hs ▸ hj
  have := hR.le (a5 hij) (Nat.le_sub_one_of_lt h2)
  unfold kk at this
  rw [cB, cB, fy (hs.symm ▸ aH hij h2), fy (hs.symm ▸ h2)] at this
  exact this
end
theorem y4 (l : List It) : (qU l).Pairwise λ a b => a.1 <= b.1 := by
 unfold qU
 rw [cf]
 exact GX (ks := λ i => (l.getD i (0, [])).1) l.length
theorem qJ (l : List It) : (qU l).Perm l := by
 unfold qU
 refine (qL.map λ i => l.getD i (0, [])).trans (mw.of_eq (kv ?_ λ i h1 h2 => ?_))
 ·rw [am, bh]
 ·rw [fO, gQ, ao, aF h2]; rfl
structure Cb (P : LP) (out : List Bs) : Prop where
 nodup : out.Nodup
 com : ∀ k ∈ out, MB P k
 top : ∀ t, MB P t -> (∀ y, MB P y -> t ∉ par P y) -> t ∈ out
 pass : ∀ k ∈ out, ¬ zT P k
 free : ∀ a ∈ out, ∀ b ∈ out, b ∉ par P a
 sorted : out.Pairwise λ a b => vW P.S a <= vW P.S b
section
variable {P : LP} {U : List Bs} {s : LS} {k : Bs} {cs : Cs} {x : It} {l r : List It}
theorem J1 : x ∈ l.foldl (qA cs) r ↔ x ∈ r \/ (x ∈ l /\ (look cs x.2).testBit 2 = false) := by
 induction l generalizing r with
 | nil => exact ⟨.inl, λ h => h.elim id λ h => nomatch h.1⟩
 | cons y l ih =>
  have e : x ∈ qA cs r y ↔ x ∈ r \/ (x = y /\ (look cs y.2).testBit 2 = false) := by
   unfold qA
   rw [Nz]
   cases hd : (look cs y.2).testBit 2 with
   | true => exact ⟨.inl, λ h => h.elim id λ h => nomatch h.2⟩
   | false =>
    by_cases hm : y ∈ r
    ·rw [decide_eq_true hm]
     exact ⟨.inl, λ h => h.elim id λ h => h.1 ▸ hm⟩
    ·rw [decide_eq_false hm]
     exact aX.trans (or_congr_right (ae.trans ⟨λ h => ⟨h, rfl⟩, λ h => h.1⟩))
  rw [bA, ih, e, or_assoc]
  refine or_congr_right ⟨λ h => h.elim (λ h => ⟨ag.mpr (.inl h.1), h.1 ▸ h.2⟩) λ h => ⟨.tail _ h.1, h.2⟩, λ h => ?_⟩
  rcases ag.mp h.1 with rfl | h1
  ·exact .inl ⟨rfl, h.2⟩
  ·exact .inr ⟨h1, h.2⟩
theorem wM : x ∈ uZ cs l ↔ x ∈ l /\ (look cs x.2).testBit 2 = false := J1.trans ⟨λ h => h.elim nofun id, .inr⟩
theorem CM (h : r.Nodup) : (l.foldl (qA cs) r).Nodup := by
 induction l generalizing r with
 | nil => exact h
 | cons y l ih =>
  refine ih ?_
  unfold qA
  split
  ·rename_i hc
   rw [av, aN, aN, decide_eq_false_iff_not] at hc
   rw [cT]
   exact ⟨h, bR _ _, λ a ha b hb e => hc.2 (ae.mp hb ▸ e ▸ ha)⟩
  ·exact h
theorem sG (I : AA P U s) : k ∈ xW s ↔ bt s k 3 = true /\ bt s k 2 = false := by
 unfold xW
 rw [bp]
 constructor
 ·rintro ⟨x, hx, rfl⟩
  obtain ⟨h1, h2⟩ := wM.mp ((qJ _).mem_iff.mp hx)
  exact ⟨(I.ca x h1).2.b3, h2⟩
 ·rintro ⟨h1, h2⟩
  exact ⟨(vW P.S k, k), (qJ _).mem_iff.mpr (wM.mpr ⟨I.cb k h1, h2⟩), rfl⟩
theorem KZ (I : AA P U s) (hg : sP s = false) (h : bt s k 2 = false) : key P k ∉ s.wl := λ hm => by
 unfold sP at hg
 have h1 := List.any_eq_false.mp hg _ hm
 have h2 := (I.wl _ hm).2.1.key
 have h : (look s.cs (key P k).2).testBit 2 = false := h
 rw [<- Nz] at h
 unfold look at h
 cases hl : s.cs.lookup (key P k).2 with
 | none => rw [hl] at h2; cases h2
 | some v =>
  rw [hl] at h1 h
  exact h1 ((aN _).mpr h)
theorem Km (I : AA P U s) (off : ∀ k, bt s k 2 = false -> key P k ∉ s.wl) {t : Bs} (ht : MB P t) (htop : ∀ y, MB P y -> t ∉ par P y) : t ∈ xW s := by
 have t2 : bt s t 2 = false := eq_false_of_ne_true λ h => by
  obtain ⟨_, y, h1, h2⟩ := I.d t h
  exact htop y h2 h1
 have nd : ∀ a, sX (par P) a t -> bt s a 2 = false := λ a hr => eq_false_of_ne_true λ h => by
  obtain ⟨⟨h0, h1⟩, _⟩ := I.d a h
  rcases hr.last with rfl | ⟨z, g1, g2⟩
  ·rw [t2] at h; cases h
  ·exact htop z ⟨(I.r0 a h0).trans g1, (I.r1 a h1).imp λ o ho => ⟨ho.1, ho.2.trans g1⟩⟩ g2
 have go : ∀ i, (∀ x, key P x ∉ s.wl -> Goes P s x i) -> ∀ {a b}, sX (par P) a b -> b = t -> bt s a i = true -> bt s b i = true := by
  intro i hi a b hr
  induction hr with
  | refl a => exact λ _ h => h
  | step hp hr' ih => exact λ hb h => ih hb (hi _ (off _ (nd _ (hb ▸ .step hp hr'))) h _ hp)
 obtain ⟨o, ho, hro⟩ := ht.2
 exact (sG I).mpr ⟨I.lc t (off t t2) (zG.mpr ⟨go 0 I.g0 ht.1 rfl I.s0, go 1 I.g1 hro rfl (I.s1 o ho), t2⟩), t2⟩
theorem Gm (I : AA P U s) (hg : sP s = false) : Cb P (xW s) := by
 have off : ∀ k, bt s k 2 = false -> key P k ∉ s.wl := λ k => KZ I hg
 have ca : ∀ k ∈ xW s, JM P U s k := λ k hk => (I.ca _ (I.cb k ((sG I).mp hk).1)).2
 have st : ∀ x ∈ uZ s.cs s.cands, x = (vW P.S x.2, x.2) := λ x hx => (I.ca x (wM.mp hx).1).1
 refine ⟨?_, λ k hk => ⟨I.r0 k (ca k hk).b0, I.r1 k (ca k hk).b1⟩, λ t => Km I off, λ k hk => (ca k hk).np, λ a ha b hb hp => ?_, ?_⟩
 ·have h : ((uZ s.cs s.cands).map (·.2)).Nodup := by
   rw [bc, cf]
   exact (bc.mp (CM (l := s.cands) k6)).imp_of_mem λ {a b} ha hb hne e => hne ((st a ha).trans (e ▸ (st b hb).symm))
  exact ((qJ _).map (·.2)).nodup_iff.mpr h
 ·have := I.on a (off a ((sG I).mp ha).2) (ca a ha).b0 (ca a ha).b1 b hp
  rw [((sG I).mp hb).2] at this
  cases this
 ·unfold xW
  rw [cf]
  refine (y4 (uZ s.cs s.cands)).imp_of_mem λ {a b} ha hb h => ?_
  rw [st a ((qJ _).mem_iff.mp ha), st b ((qJ _).mem_iff.mp hb)] at h
  exact h
theorem E7 (G : qR P U) (h1 : oh P P.c1) (h2 : ∀ c ∈ P.c2s, oh P c) : Cb P (qq P 1000) /\ (qq P 1000).length <= 8 /\ ∀ c ∈ qq P 1000, c ∈ U := by
 have W := DU G h1 h2
 have I := JP (n := 1000) W.step W.init
 have S := Gm I W.stop
 have hin : ∀ c ∈ qq P 1000, c ∈ U := λ c hc => (I.ca _ (I.cb c ((sG I).mp hc).1)).2.u
 exact ⟨S, ac (cG S.nodup hin) G.len, hin⟩
end
noncomputable def I4 (F : Bs -> Option (List Bs)) (S : Bs -> Option Int) (sh : Option Bool) : rQ := λ mn c1 c2s =>
 if ((c1 :: c2s).all λ c => (S c).isSome || sh == some true) then some (qq ⟨F, S, mn, sh, c1, c2s⟩ 1000) else none
theorem CQ {P : LP} : (((P.c1 :: P.c2s).all λ c => (P.S c).isSome || P.sh == some true) = true) ↔ (oh P P.c1 /\ ∀ c ∈ P.c2s, oh P c) := by
 have one : ∀ c, ((P.S c).isSome || P.sh == some true) = true ↔ oh P c := λ c => by
  unfold oh
  rw [bq, beq_iff_eq]
 rw [aU]
 exact ⟨λ h => ⟨(one _).mp (h _ (.head _)), λ c hc => (one c).mp (h c (.tail _ hc))⟩, λ h c hc => (one c).mpr ((ag.mp hc).elim (λ e => e ▸ h.1) (h.2 c))⟩
theorem DF {P : LP} {U : List Bs} (G : qR P U) : Hg P (LM (I4 P.F P.S P.sh P.mn P.c1 P.c2s)) := by
 refine ⟨ac G.c2len (by decide), λ h1 h2 => ⟨1000, _, DU G h1 h2, ?_⟩, λ hn => ?_⟩
 ·rw [I4, if_pos (CQ.mpr ⟨h1, h2⟩)]; rfl
 ·rw [I4, if_neg λ h => hn (CQ.mp h)]; rfl
noncomputable abbrev rd (rs : List Nat) (k e : Nat) : Bool := (rs.getD k 0).testBit e
noncomputable abbrev mR (rs : List Nat) : Nat -> Nat -> Prop := yi λ a p => rd rs a p = true
noncomputable abbrev yG (rs : List Nat) (w : Nat) : Nat -> Nat -> Prop := yi λ a p => rd rs a p = true /\ w.testBit p = true
noncomputable abbrev xo (rs : List Nat) : Prop := ∀ k j, rd rs k j = true -> j < k
section
variable {rs : List Nat} {a b f w i j k m : Nat}
theorem nU (hd : xo rs) (h : mR rs a b) : b <= a := by
 induction h with
 | refl => exact aQ _
 | step hp _ ih => exact ac ih (a5 (hd _ _ hp))
theorem vq (h : (downN f rs w).testBit j = true) : ∃ i, f.testBit i = true /\ yG rs w i j :=
 FL (S := λ j => ∃ i, f.testBit i = true /\ yG rs w i j) (λ j hj => ⟨j, hj, .refl _⟩) ((by rintro k j ⟨i, h1, h2⟩ h3 h4; exact ⟨i, h1, h2.snoc ⟨h3, h4⟩⟩)) h
theorem wx (hd : xo rs) (hi : f.testBit i = true) (h : yG rs w i j) : (downN f rs w).testBit j = true := by
 replace hi := FX (rs := rs) (w := w) hi
 induction h with
 | refl => exact hi
 | step h _ ih => exact ih (zc hd hi h.1 h.2)
theorem rS : (2 ^ a).testBit j = true ↔ j = a := by
 rw [bQ, decide_eq_true_iff]
 exact eq_comm
theorem HZ (hij : i < j) (hi : m.testBit i = true) : (m - 1).testBit j = m.testBit j := by
 have h2 : 0 < m % 2 ^ j := fq λ e => by
  have h1 : (m % 2 ^ j).testBit i = true := by rw [Nat.testBit_mod_two_pow, hi, decide_eq_true hij]; rfl
  rw [e, a8] at h1
  cases h1
 have h3 : (m - 1) / 2 ^ j = m / 2 ^ j := by
  have e := iy m (2 ^ j)
  have l := fY m (kY j)
  generalize m % 2 ^ j = r at h2 e l
  generalize m / 2 ^ j = q at e
  rw [<- e]
  refine mL λ gk => ?_
  obtain ⟨r, rfl⟩ := eK (cO h2)
  refine gk ?_
  show (2 ^ j * q + r) / 2 ^ j = q
  rw [ce, Nat.add_mul_div_left _ _ (kY j), Nat.div_eq_of_lt (fF l), cF]
 rw [eb, h3, <- eb]
theorem Jc (h : m &&& (m - 1) = 0) (hi : m.testBit i = true) (hj : m.testBit j = true) : i = j := by
 have key : ∀ i j, m.testBit i = true -> m.testBit j = true -> ¬ i < j := λ i j hi hj hij => by
  have e := congrArg (λ n => n.testBit j) h
  rw [aK, HZ hij hi, hj, a8] at e
  cases e
 exact dF (bJ (key j i hj hi)) (bJ (key i j hi hj))
theorem oB (h : ∀ i, ¬ m.testBit i = true) : m = 0 := cR λ i => by rw [eq_false_of_ne_true (h i), a8]
theorem zy (h : (nextN f rs).testBit j = true) : ∃ k, f.testBit k = true /\ rd rs k j = true := by
 rw [yF, cA] at h
 refine mL λ gk => ?_
 obtain ⟨k, _, h2⟩ := h
 refine gk ?_
 rw [av] at h2
 exact ⟨k, h2⟩
theorem Nc (h : rd rs k j = true) : k < rs.length := eG λ hl => by
 rw [rd, ao, bn hl, show (none.getD 0 : Nat) = 0 from rfl, a8] at h
 cases h
theorem Dh (hk : f.testBit k = true) (hr : rd rs k j = true) : (nextN f rs).testBit j = true := by
 rw [yF, cA]
 exact ⟨k, aM.mpr (Nc hr), by rw [hk]; exact hr⟩
end
structure ro where
 nm : List Bs
 st : List Int
 pr : Nat
 kin : Nat -> List Nat
 rs : List Nat
 bl : List Nat
 F : Bs -> Option (List Bs)
 S : Bs -> Option Int
 sc : Int
 sh : Option Bool
 whole : Bool
noncomputable abbrev ro.n (M : ro) (k : Nat) : Bs := M.nm.getD k []
noncomputable abbrev ro.s (M : ro) (k : Nat) : Int := M.st.getD k 0
noncomputable abbrev ro.In (M : ro) (k : Nat) : Prop := M.pr.testBit k = true
structure pS (M : ro) : Prop where
 nlen : M.nm.length = 8
 nnd : M.nm.Nodup
 slen : M.st.length = 8
 s0 : ∀ k, 0 <= M.s k
 rlen : M.rs.length = 8
 blen : M.bl.length = 8
 prlt : ∀ k, M.In k -> k < 8
 kinlt : ∀ k, ∀ e ∈ M.kin k, e < k
 roads : ∀ k e, rd M.rs k e = true ↔ M.In k /\ e ∈ M.kin k /\ M.In e
 below : ∀ k, k < 8 -> ∀ j, (M.bl.getD k 0).testBit j = true ↔ mR M.rs k j
 Fin : ∀ k, M.In k -> ∃ l : List Nat, M.F (M.n k) = some (l.map M.n) /\ ∀ e, e ∈ l ↔ e ∈ M.kin k
 Fnd : ∀ x l, M.F x = some l -> l.Nodup
 Fout : ∀ x, (∀ k, M.In k -> x ≠ M.n k) -> M.F x = none
 Sin : ∀ k, M.In k -> M.S (M.n k) = some (M.sc * M.s k)
 Sout : ∀ x, (∀ k, M.In k -> x ≠ M.n k) -> M.S x = none
 sc : 0 < M.sc
 whole : M.whole = true ↔ ∀ k, M.In k -> ∀ e ∈ M.kin k, M.In e
 shF : M.whole = false -> M.sh = some true
 shT : M.whole = true -> M.sh ≠ some true
section
variable {M : ro} (H : pS M) {i j k e : Nat} {x : Bs}
include H
theorem Jl (hi : i < 8) : M.nm[i]? = some (M.n i) := oJ (H.nlen.symm ▸ hi)
theorem rJ (hi : i < 8) (hj : j < 8) (h : M.n i = M.n j) : i = j :=
 (gY (H.nlen.symm ▸ hi) H.nnd).mp (by rw [Jl H hi, Jl H hj, h])
theorem AP (hi : i < 8) : M.n i ∈ M.nm := cQ (Jl H hi)
theorem Bk (h : x ∈ M.nm) : ∃ i, i < 8 /\ x = M.n i := by
 refine mL λ gk => ?_
 obtain ⟨i, hi⟩ := gm h
 refine gk ?_
 have h8 : i < 8 := H.nlen ▸ (bH.mp hi).1
 exact ⟨i, h8, bN (hi.symm.trans (Jl H h8))⟩
theorem ou : xo M.rs := λ k e h => H.kinlt k e ((H.roads k e).mp h).2.1
theorem HM (hk : k < 8) (h : M.pr.testBit k = false) : ∀ j, M.In j -> M.n k ≠ M.n j := λ j hj e => by
 rw [rJ H hk (H.prlt j hj) e, hj] at h
 cases h
theorem xK (hk : k < 8) (h : M.pr.testBit k = false) : M.S (M.n k) = none := H.Sout _ (HM H hk h)
theorem LV (hk : k < 8) (h : M.pr.testBit k = false) : M.F (M.n k) = none := H.Fout _ (HM H hk h)
theorem u9 (h : M.In k) : vW M.S (M.n k) = M.sc * M.s k := by
 unfold vW
 rw [H.Sin k h]; rfl
theorem G9 {l : List Bs} (h : M.F x = some l) : ∃ (k : Nat) (l' : List Nat), M.In k /\ x = M.n k /\ l = l'.map M.n /\ ∀ e, e ∈ l' ↔ e ∈ M.kin k := by
 refine mL λ gk => ?_
 obtain ⟨k, hk, rfl⟩ : ∃ k, M.In k /\ x = M.n k := bf λ hn => by
  rw [H.Fout x λ k hk e => hn ⟨k, hk, e⟩] at h
  cases h
 obtain ⟨l', h1, h2⟩ := H.Fin k hk
 refine gk ?_
 exact ⟨k, l', hk, rfl, bN (h.symm.trans h1), h2⟩
theorem L4 (h : (M.S x).isSome = true) : ∃ k, M.In k /\ x = M.n k := bf λ hn => by
 rw [H.Sout x λ k hk e => hn ⟨k, hk, e⟩] at h
 cases h
end
structure BQ (M : ro) (P : LP) (R : List Nat) : Prop where
 F : P.F = M.F
 S : P.S = M.S
 sh : P.sh = M.sh
 rlen : R.length = 8
 sub : ∀ k e, rd R k e = true -> rd M.rs k e = true
 par : ∀ k p, k < 8 -> (p ∈ par P (M.n k) ↔ ∃ e, p = M.n e /\ rd R k e = true)
section
variable {M : ro} (H : pS M) {P : LP} {R : List Nat} (V : BQ M P R) {a b i j k e i0 : Nat} {x y p : Bs} {tl : List Nat}
include H V
theorem A2 : xo R := λ k e h => ou H k e (V.sub k e h)
theorem As (h : rd R k e = true) : M.In k /\ M.In e :=
 have := (H.roads k e).mp (V.sub k e h)
 ⟨this.1, this.2.2⟩
theorem II (h : p ∈ par P x) : ∃ k e, x = M.n k /\ p = M.n e /\ rd R k e = true := by
 have h' := h
 unfold par at h'
 rw [V.F] at h'
 cases hF : M.F x with
 | none => rw [hF] at h'; cases h'
 | some l =>
  refine mL λ gk => ?_
  obtain ⟨k, _, hk, rfl, _, _⟩ := G9 H hF
  obtain ⟨e, he, hr⟩ := (V.par k p (H.prlt k hk)).mp h
  refine gk ?_
  exact ⟨k, e, rfl, he, hr⟩
theorem Ad (ha : a < 8) (h : sX (par P) (M.n a) y) : ∃ b, b < 8 /\ y = M.n b /\ mR R a b := by
 generalize hx : M.n a = x at h
 induction h generalizing a with
 | refl => exact ⟨a, ha, hx.symm, .refl _⟩
 | step hp _ ih =>
  subst hx
  refine mL λ gk => ?_
  obtain ⟨e, rfl, hr⟩ := (V.par a _ ha).mp hp
  obtain ⟨b, h1, h2, h3⟩ := ih (aH (A2 H V a e hr) ha) rfl
  refine gk ?_
  exact ⟨b, h1, h2, .step hr h3⟩
theorem xg (ha : a < 8) (h : mR R a b) : sX (par P) (M.n a) (M.n b) := by
 induction h with
 | refl => exact .refl _
 | step hr _ ih => exact .step ((V.par _ _ ha).mpr ⟨_, rfl, hr⟩) (ih (aH (A2 H V _ _ hr) ha))
theorem yB (ha : a < 8) (hb : b < 8) : sX (par P) (M.n a) (M.n b) ↔ mR R a b := by
 refine ⟨λ h => ?_, xg H V ha⟩
 refine mL λ gk => ?_
 obtain ⟨c, h1, h2, h3⟩ := Ad H V ha h
 refine gk ?_
 exact rJ H hb h1 h2 ▸ h3
theorem wR (h1 : P.c1 = M.n i0) (h2 : P.c2s = tl.map M.n) (hi0 : i0 < 8) (htl : ∀ k ∈ tl, k < 8) (hlen : tl.length <= 100) : qR P M.nm := by
 constructor
 case closed =>
  intro c hc ps hF p hp
  rw [V.F] at hF
  obtain ⟨k, l, hk, rfl, rfl, hm⟩ := G9 H hF
  obtain ⟨e, he, rfl⟩ := bp.mp hp
  exact AP H (aH (H.kinlt k e ((hm e).mp he)) (H.prlt k hk))
 case acyc =>
  intro a b hr hp
  obtain ⟨k, e, rfl, rfl, hre⟩ := II H V hp
  obtain ⟨hk, he⟩ := As H V hre
  exact cC (nU (A2 H V) ((yB H V (H.prlt e he) (H.prlt k hk)).mp hr)) (A2 H V _ _ hre)
 case c1 => exact h1 ▸ AP H hi0
 case c2s =>
  intro c hc
  rw [h2] at hc
  obtain ⟨k, hk, rfl⟩ := bp.mp hc
  exact AP H (htl k hk)
 case nodup => exact H.nnd
 case len => exact aT H.nlen
 case c2len => rw [h2, am]; exact hlen
 case shut =>
  rw [V.sh, V.S, V.F]
  cases hw : M.whole with
  | false => exact .inl (H.shF hw)
  | true =>
   refine .inr λ c hc hs => ?_
   refine mL λ gk => ?_
   obtain ⟨k, hk, rfl⟩ := L4 H hs
   obtain ⟨l, hl, hm⟩ := H.Fin k hk
   refine gk ?_
   refine ⟨_, hl, λ p hp => ?_⟩
   obtain ⟨e, he, rfl⟩ := bp.mp hp
   rw [H.Sin e (H.whole.mp hw k hk e ((hm e).mp he))]; rfl
omit V in
theorem s7 (hk : k < 8) : (nj M.nm M.st).getD k (0, []) = (-(M.s k), M.n k) := by
 unfold nj
 rw [H.nlen, ao, cj, jL hk]; rfl
theorem MT (hj : M.In j) (hk : M.In k) : pF (key P (M.n j)) (key P (M.n k)) = pF ((nj M.nm M.st).getD j (0, [])) ((nj M.nm M.st).getD k (0, [])) := by
 rw [s7 H (H.prlt j hj), s7 H (H.prlt k hk)]
 unfold key
 rw [V.S, u9 H hj, u9 H hk]
 generalize M.s j = a
 generalize M.s k = b
 have h0 := H.sc
 generalize M.sc = c at h0
 have e1 : (-(c * a) == -(c * b)) = (-a == -b) := by
  rw [bI, beq_iff_eq, beq_iff_eq, mh, mh]
  exact ⟨fA (eY h0), congrArg _⟩
 have e2 : decide (-(c * a) < -(c * b)) = decide (-a < -b) := by
  rw [decide_eq_decide, j8, j8]
  exact ⟨λ h => iX h (c9 h0), λ h => iP h h0⟩
 unfold pF
 dsimp only
 rw [e1, e2]
theorem EP (h1 : P.c1 = M.n i0) (h2 : P.c2s = tl.map M.n) (hi0 : i0 < 8) (htl : ∀ k ∈ tl, k < 8) (hk : k < 8) (h : nY k (2 ^ i0) (setN tl) R (nj M.nm M.st) = true) : zT P (M.n k) := by
 unfold nY at h
 dsimp only at h
 obtain ⟨y, hb, hyk⟩ := zy h
 rw [aK, aK, av, av] at hb
 obtain ⟨⟨b1, b2⟩, b3⟩ := hb
 obtain ⟨hpy, hpk⟩ := As H V hyk
 have hw : ∀ j, M.In j -> (sJ (nj M.nm M.st) ((nj M.nm M.st).getD k (0, []))).testBit j = true -> ah P (M.n k) (M.n j) := λ j hj hwj => by
  rw [wE, av] at hwj
  exact (MT H V hj hpk).trans hwj.2
 generalize sJ (nj M.nm M.st) ((nj M.nm M.st).getD k (0, [])) = w at b1 b2 b3 hw
 have path : ∀ {a b}, yG R w a b -> a < 8 -> Ef (par P) (ah P (M.n k)) (M.n a) (M.n b) := λ {a b} hp => by
  induction hp with
  | refl => exact λ _ => .refl _
  | step hr _ ih => exact λ ha => .step ⟨(V.par _ _ ha).mpr ⟨_, rfl, hr.1⟩, hw _ (As H V hr.1).2 hr.2⟩ (ih (aH (A2 H V _ _ hr.1) ha))
 refine mL λ gk => ?_
 obtain ⟨i, hi, p1⟩ := vq b2
 cases rS.mp hi
 obtain ⟨o, ho, p2⟩ := vq b3
 refine gk ?_
 have hot : o ∈ tl /\ ((∀ o' ∈ tl, o' = o) \/ w.testBit o = true) := by
  split at ho
  ·rw [aK, av, nu, decide_eq_true_iff] at ho
   exact ⟨ho.1, .inr ho.2⟩
  ·rename_i hm
   have hb : ∀ {o}, (setN tl).testBit o = true ↔ o ∈ tl := by intro o; rw [nu, decide_eq_true_iff]
   have hm0 : setN tl &&& (setN tl - 1) = 0 := bf λ q => hm (bne_iff_ne.mpr q)
   exact ⟨hb.mp ho, .inl λ o' hmem => Jc hm0 (hb.mpr hmem) ho⟩
 have hpo : M.In o := by
  cases p2 with
  | refl => exact hpy
  | step hr _ => exact (As H V hr.1).1
 refine ⟨M.n y, (V.par y _ (H.prlt y hpy)).mpr ⟨k, rfl, hyk⟩, hw y hpy b1, h1 ▸ path p1 hi0, M.n o, h2 ▸ bp.mpr ⟨o, hot.1, rfl⟩, path p2 (htl o hot.1), hot.2.imp (λ h o' ho' => ?_) (hw o hpo)⟩
 rw [h2] at ho'
 obtain ⟨x, hx, rfl⟩ := bp.mp ho'
 rw [h x hx]
end
noncomputable def rX (R : List Nat) (i0 : Nat) (tl : List Nat) (k : Nat) : Prop := mR R i0 k /\ ∃ o ∈ tl, mR R o k
structure rl (M : ro) (R : List Nat) (i0 : Nat) (tl sp : List Nat) : Prop where
 lt : ∀ k ∈ sp, k < 8
 nodup : sp.Nodup
 com : ∀ k ∈ sp, rX R i0 tl k
 top : ∀ t, t < 8 -> rX R i0 tl t -> (∀ y, rX R i0 tl y -> rd R y t = false) -> t ∈ sp
 pass : ∀ k ∈ sp, nY k (2 ^ i0) (setN tl) R (nj M.nm M.st) = false
 free : ∀ a ∈ sp, ∀ b ∈ sp, rd R a b = false
 sorted : sp.Pairwise λ a b => vW M.S (M.n a) <= vW M.S (M.n b)
noncomputable def ro.L (M : ro) : rQ := I4 M.F M.S M.sh
noncomputable def there (M : ro) (ids : List Nat) : Bool := ids.all λ k => M.pr.testBit k || !M.whole
section
variable {M : ro} (H : pS M) {P : LP} {R tl sp ids : List Nat} {late a b k e i0 : Nat} {mn : Int} {out : List Bs} {p : Bs}
include H
theorem IV (h : ∀ x ∈ out, x ∈ M.nm) : ∃ sp : List Nat, (∀ k ∈ sp, k < 8) /\ out = sp.map M.n := by
 induction out with
 | nil => exact ⟨[], nofun, rfl⟩
 | cons x l ih =>
  obtain ⟨i, hi, rfl⟩ := Bk H (h x (.head _))
  obtain ⟨sp, h1, rfl⟩ := ih λ y hy => h y (.tail _ hy)
  exact ⟨i :: sp, λ k hk => (ag.mp hk).elim (λ e => e ▸ hi) (h1 k), rfl⟩
theorem vD (hsp : ∀ k ∈ sp, k < 8) (hk : k < 8) (h : M.n k ∈ sp.map M.n) : k ∈ sp := by
 obtain ⟨j, hj, e⟩ := bp.mp h
 exact rJ H (hsp j hj) hk e ▸ hj
theorem Li (V : BQ M P R) (h1 : P.c1 = M.n i0) (h2 : P.c2s = tl.map M.n) (hi0 : i0 < 8) (htl : ∀ k ∈ tl, k < 8) (hin : ∀ c ∈ out, c ∈ M.nm) (L : Cb P out) : ∃ sp, out = sp.map M.n /\ rl M R i0 tl sp := by
 obtain ⟨sp, hsp, rfl⟩ := IV H hin
 have com_of : ∀ {y : Bs}, MB P y -> ∃ b, b < 8 /\ y = M.n b /\ rX R i0 tl b := λ {y} ⟨r1, o, ho, r2⟩ => by
  rw [h1] at r1
  rw [h2] at ho
  refine mL λ gk => ?_
  obtain ⟨x, hx, rfl⟩ := bp.mp ho
  obtain ⟨b, b1, rfl, b3⟩ := Ad H V hi0 r1
  refine gk ?_
  exact ⟨b, b1, rfl, b3, x, hx, (yB H V (htl x hx) b1).mp r2⟩
 have mem : ∀ {k}, k ∈ sp -> M.n k ∈ sp.map M.n := λ hk => bp.mpr ⟨_, hk, rfl⟩
 refine ⟨sp, rfl, hsp, ?_, λ k hk => ?_, λ t ht hc htop => ?_, λ k hk => ?_, λ x hx y hy => ?_, ?_⟩
 ·exact (bc.mpr ((cf.mp (bc.mp L.nodup)).imp λ h e => h (congrArg _ e)))
 ·obtain ⟨b, hb, e, hc⟩ := com_of (L.com (M.n k) (mem hk))
  rw [rJ H (hsp k hk) hb e]; exact hc
 ·obtain ⟨r1, o, ho, r2⟩ := hc
  refine vD H hsp ht (L.top (M.n t) ⟨h1 ▸ xg H V hi0 r1, M.n o, h2 ▸ bp.mpr ⟨o, ho, rfl⟩, xg H V (htl o ho) r2⟩ λ y hy hp => ?_)
  obtain ⟨b, hb, rfl, hcb⟩ := com_of hy
  obtain ⟨e, he, hr⟩ := (V.par b _ hb).mp hp
  rw [<- rJ H ht (H.prlt e (As H V hr).2) he, htop b hcb] at hr
  cases hr
 ·exact eq_false_of_ne_true λ hp => L.pass (M.n k) (mem hk) (EP H V h1 h2 hi0 htl (hsp k hk) hp)
 ·exact eq_false_of_ne_true λ hr => L.free (M.n x) (mem hx) (M.n y) (mem hy) ((V.par x _ (hsp x hx)).mpr ⟨y, rfl, hr⟩)
 ·have := L.sorted
  rw [cf, V.S] at this
  exact this
theorem AW (hF : P.F = M.F) (hS : P.S = M.S) (hsh : P.sh = M.sh) (hR : R.length = 8) {q : Nat -> Bool} (hq : ∀ k e, rd R k e = true ↔ rd M.rs k e = true /\ q e = true) (hm : ∀ e, M.In e -> (P.mn <= M.sc * M.s e ↔ q e = true)) : BQ M P R := by
 refine ⟨hF, hS, hsh, hR, λ k e h => ((hq k e).mp h).1, λ k p hk => ?_⟩
 have one : ∀ e, F4 P (M.n e) = true -> e < 8 -> M.In e := λ e h he => bf λ hn => by
  delta F4 at h
  rw [hS, xK H he (eq_false_of_ne_true hn)] at h
  cases h
 have two : ∀ e, M.In e -> (F4 P (M.n e) = true ↔ q e = true) := λ e he => by
  delta F4
  rw [hS, H.Sin e he, <- hm e he]
  exact decide_eq_true_iff
 delta par
 rw [hF]
 by_cases hp : M.In k
 ·obtain ⟨l, hl, hm⟩ := H.Fin k hp
  rw [hl]
  show p ∈ (l.map M.n).filter (F4 P) ↔ _
  rw [bF, bp]
  constructor
  ·rintro ⟨⟨e, he, rfl⟩, hok⟩
   have hi := one e hok (aH (H.kinlt k e ((hm e).mp he)) hk)
   exact ⟨e, rfl, (hq k e).mpr ⟨(H.roads k e).mpr ⟨hp, (hm e).mp he, hi⟩, (two e hi).mp hok⟩⟩
  ·rintro ⟨e, rfl, hr⟩
   refine mL λ gk => ?_
   obtain ⟨h1, h2⟩ := (hq k e).mp hr
   obtain ⟨_, h3, h4⟩ := (H.roads k e).mp h1
   refine gk ?_
   exact ⟨⟨e, (hm e).mpr h3, rfl⟩, (two e h4).mpr h2⟩
 ·rw [LV H hk (eq_false_of_ne_true hp)]
  exact ⟨nofun, (by rintro ⟨e, _, hr⟩; exact absurd ((H.roads k e).mp ((hq k e).mp hr).1).1 hp)⟩
theorem r9 (hmn : P.mn = 0) (hF : P.F = M.F) (hS : P.S = M.S) (hsh : P.sh = M.sh) : BQ M P M.rs :=
 AW H (q := λ _ => true) hF hS hsh H.rlen (λ k e => ⟨λ h => ⟨h, rfl⟩, λ h => h.1⟩) λ e _ => ⟨λ _ => rfl, λ _ => hmn ▸ Int.mul_nonneg (c9 H.sc) (H.s0 e)⟩
omit H in
theorem wd : rd (qd M.rs late) k e = (rd M.rs k e && late.testBit e) := by
 delta rd qd
 rw [ao, ao, cj]
 cases M.rs[k]? with
 | none => exact (a8 _).trans (by rw [show (none.getD 0 : Nat) = 0 from rfl, a8]; rfl)
 | some x => exact aK _ _ _
theorem s6 (hmn : P.mn = M.sc * M.s a) (hF : P.F = M.F) (hS : P.S = M.S) (hsh : P.sh = M.sh) : BQ M P (qd M.rs (oP M.st a)) :=
 AW H (q := (oP M.st a).testBit) hF hS hsh ((am _).trans H.rlen) (λ k e => by rw [wd, av]) λ e he => by
  rw [hmn, FM, H.slen, decide_eq_true (H.prlt e he), cE, decide_eq_true_iff]
  exact ⟨λ h => iY h H.sc, λ h => Int.mul_le_mul_of_nonneg_left h (c9 H.sc)⟩
theorem Hl (hk : k < 8) : ((M.S (M.n k)).isSome || M.sh == some true) = (M.pr.testBit k || !M.whole) := by
 cases hw : M.whole with
 | false => rw [H.shF hw]; exact (cr _).trans (cr _).symm
 | true =>
  rw [beq_eq_false_iff_ne.mpr (H.shT hw), a7, gK, a7]
  cases hp : M.pr.testBit k with
  | true => rw [H.Sin k hp]; rfl
  | false => rw [xK H hk hp]; rfl
theorem ET (hi : ∀ k ∈ ids, k < 8) : ((ids.map M.n).all λ c => (M.S c).isSome || M.sh == some true) = there M ids := by
 delta there
 rw [lK]
 induction ids with
 | nil => rfl
 | cons a l ih =>
  show (((M.S (M.n a)).isSome || M.sh == some true) && _) = _
  rw [Hl H (hi a (.head _))]
  exact congrArg _ (ih λ k hk => hi k (.tail _ hk))
theorem w8 (V : BQ M ⟨M.F, M.S, mn, M.sh, M.n i0, tl.map M.n⟩ R) (hi0 : i0 < 8) (htl : ∀ k ∈ tl, k < 8) (hlen : tl.length <= 100) :
  (there M (i0 :: tl) = false -> M.L mn (M.n i0) (tl.map M.n) = none) /\ (there M (i0 :: tl) = true -> ∃ sp, M.L mn (M.n i0) (tl.map M.n) = some (sp.map M.n) /\ rl M R i0 tl sp) := by
 have e' : ((M.n i0 :: tl.map M.n).all λ c => (M.S c).isSome || M.sh == some true) = there M (i0 :: tl) := ET H (ids := i0 :: tl) λ k hk => (ag.mp hk).elim (λ e => e ▸ hi0) (htl k)
 delta ro.L I4
 refine ⟨λ h => if_neg (by rw [e', h]; exact nofun), λ h => ?_⟩
 refine mL λ gk => ?_
 obtain ⟨s1, s2⟩ := CQ (P := ⟨M.F, M.S, mn, M.sh, M.n i0, tl.map M.n⟩) |>.mp (e'.trans h)
 obtain ⟨g1, _, g2⟩ := E7 (wR H V rfl rfl hi0 htl hlen) s1 s2
 obtain ⟨sp, h1, h2⟩ := Li H V rfl rfl hi0 htl g2 g1
 refine gk ?_
 exact ⟨sp, (if_pos (e'.trans h)).trans (congrArg some h1), h2⟩
theorem r8 (hi0 : i0 < 8) (htl : ∀ k ∈ tl, k < 8) (hlen : tl.length <= 100) :
  (there M (i0 :: tl) = false -> M.L 0 (M.n i0) (tl.map M.n) = none) /\ (there M (i0 :: tl) = true -> ∃ sp, M.L 0 (M.n i0) (tl.map M.n) = some (sp.map M.n) /\ rl M M.rs i0 tl sp) :=
 w8 H (r9 H rfl rfl rfl rfl) hi0 htl hlen
theorem vV (ha : a < 8) (hb : b < 8) :
  (there M [a, b] = false -> M.L (M.sc * M.s a) (M.n a) [M.n b] = none) /\ (there M [a, b] = true -> ∃ sp, M.L (M.sc * M.s a) (M.n a) [M.n b] = some (sp.map M.n) /\ rl M (qd M.rs (oP M.st a)) a [b] sp) :=
 w8 H (tl := [b]) (s6 H rfl rfl rfl rfl) ha (λ k hk => ae.mp hk ▸ hb) (by decide : 1 <= 100)
end
section
variable {M : ro} (H : pS M) {R tl sp ids : List Nat} {a b k t x y i0 both : Nat} {C : Nat -> Prop}
omit H in
theorem z7 : (M.whole && !(zl (wa M.pr ids)).isEmpty) = !there M ids := by
 rw [List.isEmpty_map]
 delta there wa
 cases hw : M.whole with
 | false =>
  exact congrArg not (show true = ids.all λ k => M.pr.testBit k || true from (aU.mpr λ k _ => cr _).symm)
 | true =>
  induction ids with
  | nil => rfl
  | cons a l ih =>
   rw [cw, cm]
   cases M.pr.testBit a with
   | true => exact ih
   | false => rfl
omit H in
theorem Az : setN [b] = 2 ^ b := Nat.zero_or _
omit H in
theorem Me {R : Nat -> Nat -> Prop} {l : List Nat} (h : l.Pairwise R) : ∀ x ∈ l.zip (l.drop 1), R x.1 x.2 /\ x.1 ∈ l /\ x.2 ∈ l := by
 induction l with
 | nil => exact nofun
 | cons a l ih =>
  cases l with
  | nil => exact nofun
  | cons b l =>
   intro x hx
   have hx : x ∈ (a, b) :: (b :: l).zip l := hx
   obtain ⟨h1, h2⟩ := bg.mp h
   rcases ag.mp hx with rfl | hx
   ·exact ⟨h1 b (.head _), .head _, .tail _ (.head _)⟩
   ·obtain ⟨a1, a2, a3⟩ := ih h2 x hx
    exact ⟨a1, .tail _ a2, .tail _ a3⟩
omit H in
theorem y8 (hC : ∀ k, both.testBit k = true ↔ C k) : (w6 both R).testBit t = true ↔ C t /\ ∀ y, C y -> rd R y t = false := by
 delta w6
 rw [pC, av, aN, hC]
 refine and_congr_right λ _ => ⟨λ h2 y hy => eq_false_of_ne_true λ hr => ?_, λ h2 => eq_false_of_ne_true λ hn => ?_⟩
 ·rw [Dh ((hC y).mpr hy) hr] at h2; cases h2
 ·obtain ⟨y, hy, hr⟩ := zy hn
  rw [h2 y ((hC y).mp hy)] at hr; cases hr
omit H in
theorem D6 (hn : sp.Nodup) (hm : a ∈ sp) (hall : ∀ k ∈ sp, k = a) : sp = [a] := by
 cases sp with
 | nil => cases hm
 | cons x l =>
  cases hall x (.head _)
  cases l with
  | nil => rfl
  | cons y l => exact absurd (hall y (.tail _ (.head _)) ▸ .head _) (cH.mp hn).1
omit H in
theorem Hk (hR : xo R) (hl : R.length = 8) (ha : a < 8) (hba : mR R b a) (hboth : ∀ k, rX R a [b] k -> both.testBit k = true) (hal : rR a b both R (nj M.nm M.st) = true) (X : rl M R a [b] sp) : sp = [a] := by
 have hm : a ∈ sp := X.top a ha ⟨.refl _, b, .head _, hba⟩ λ y hy => eq_false_of_ne_true λ hr => cC (nU hR hy.1) (hR y a hr)
 have hall : ∀ k ∈ sp, k = a := λ k hk => by
  have h2 := aU.mp hal k (aM.mpr (hl.symm ▸ X.lt k hk))
  have hp := X.pass k hk
  rw [Az] at hp
  rw [hboth k (X.com k hk), hp, a7, gK, a7] at h2
  exact be h2
 exact D6 X.nodup hm hall
include H
theorem mZ (ha : a < 8) : (M.bl.getD a 0).testBit k = true ↔ mR M.rs a k := H.below a ha k
theorem KS (hi0 : i0 < 8) (htl : ∀ k ∈ tl, k < 8) (k : Nat) : (M.bl.getD i0 0 &&& t6 M.bl tl).testBit k = true ↔ rX M.rs i0 tl k := by
 rw [aK, av, mZ H hi0, C0, cA]
 exact and_congr_right λ _ => exists_congr λ o => and_congr_right λ ho => mZ H (htl o ho)
theorem NP (h : ¬ M.In a) (hr : mR M.rs x a) : x = a := hr.last.resolve_right (by rintro ⟨z, _, hr⟩; exact h ((H.roads z a).mp hr).2.2)
theorem Ia (X : rl M M.rs i0 tl sp) (ha : a ∈ sp) (hb : b ∈ sp) (hab : a ≠ b) : M.In a := bf λ hn => by
 have cb := (X.com b hb).1
 rw [NP H hn (X.com a ha).1] at cb
 cases cb with
 | refl => exact hab rfl
 | step hr _ => exact hn ((H.roads _ _).mp hr).1
theorem Id (hi0 : i0 < 8) (htl : ∀ k ∈ tl, k < 8) (X : rl M M.rs i0 tl sp) : Dj ⟨i0, tl, sp, M.bl, M.rs, nj M.nm M.st⟩ := by
 have hcom := KS H hi0 htl
 refine ⟨X.nodup, λ k hk => (hcom k).mpr (X.com k hk), λ k hk _ => X.pass k hk, λ x hx => ?_, oB λ t ht => ?_, oB λ t ht => ?_⟩
 ·obtain ⟨⟨hne, hs⟩, h1, h2⟩ := Me ((bc.mp X.nodup).and X.sorted) x hx
  show ¬ ((nj M.nm M.st).getD x.1 (0, [])).1 < ((nj M.nm M.st).getD x.2 (0, [])).1
  rw [s7 H (X.lt _ h1), s7 H (X.lt _ h2)]
  rw [u9 H (Ia H X h1 h2 hne), u9 H (Ia H X h2 h1 λ e => hne e.symm)] at hs
  exact dE.mpr (Int.neg_le_neg (iY hs H.sc))
 ·rw [pC, nu, av, aN, decide_eq_false_iff_not] at ht
  obtain ⟨hc, htop⟩ := (y8 hcom).mp ht.1
  exact ht.2 (X.top t (ar (nU (ou H) hc.1) hi0) hc htop)
 ·rw [aK, av, nu, decide_eq_true_iff] at ht
  obtain ⟨y, hy, hr⟩ := zy ht.2
  rw [nu, decide_eq_true_iff] at hy
  rw [X.free y hy t ht.1] at hr
  cases hr
theorem A9 (hsp : ∀ k ∈ sp, k < 8) (ha : a < 8) (h : sp.map M.n = [M.n a]) : sp = [a] := by
 match sp, h with
 | [x], h =>
  injection h with h1
  exact congrArg (λ x => [x]) (rJ H (hsp x (.head _)) ha h1)
 | [], h => cases h
 | x :: y :: l, h => injection h with _ h; cases h
theorem CW (ha : a < 8) (hb : b < 8) (hab : a ≠ b) (hth : there M [a, b] = true) : ∃ t, Cp M.S M.sh M.L (M.n a) (M.n b) = some t /\ qf a b t M.st M.bl M.rs (nj M.nm M.st) = true := by
 delta Cp
 rw [if_neg λ e => hab (rJ H ha hb e)]
 by_cases hpa : M.In a
 ·rw [H.Sin a hpa]
  obtain ⟨sp, hL, X⟩ := (vV H ha hb).2 hth
  show ∃ t, (M.L (M.sc * M.s a) (M.n a) [M.n b]).map (λ l => l == [M.n a]) = some t /\ _
  rw [hL]
  refine ⟨_, rfl, ?_⟩
  have hr : ∀ {x y}, rd (qd M.rs (oP M.st a)) x y = true -> rd M.rs x y = true /\ (oP M.st a).testBit y = true := λ h => by rw [wd, av] at h; exact h
  have hl : (qd M.rs (oP M.st a)).length = 8 := (am _).trans H.rlen
  by_cases ht : sp = [a]
  ·subst ht
   refine mL λ gk => ?_
   obtain ⟨o, ho, hro⟩ := (X.com a (.head _)).2
   cases ae.mp ho
   refine gk ?_
   show qf a b (e7 M.n [a] == [M.n a]) M.st M.bl M.rs _ = true
   rw [show (e7 M.n [a] == [M.n a]) = true from beq_self_eq_true _]
   delta qf
   rw [(mZ H hb).mpr (hro.mono λ h => (hr h).1)]; rfl
  ·show qf a b (e7 M.n sp == [M.n a]) M.st M.bl M.rs _ = true
   rw [beq_eq_false_iff_ne.mpr λ e => ht (A9 H X.lt ha e)]
   delta qf
   dsimp only
   generalize oP M.st a = w at *
   generalize qd M.rs w = lean at *
   have hR : xo lean := λ k j h => ou H k j (hr h).1
   have tp : ∀ {x y}, mR lean x y -> yG lean w x y := λ h => h.mono λ h => ⟨h, (hr h).2⟩
   split
   ·rename_i h
    rw [b7, aN] at h
    rw [h]; rfl
   ·rw [bq, aN, aN]
    refine bf λ hn => ht ?_
    rw [not_or, g9, g9] at hn
    refine Hk hR hl ha ?_ (λ k hk => ?_) hn.2 X
    ·have := hn.1
     rw [aK, av] at this
     refine mL λ gk => ?_
     obtain ⟨i, hi, hp⟩ := vq this.2
     cases rS.mp hi
     refine gk ?_
     exact hp.mono (·.1)
    ·refine mL λ gk => ?_
     obtain ⟨h1, o, ho, h2⟩ := hk
     cases ae.mp ho
     refine gk ?_
     rw [aK, wx hR (rS.mpr rfl) (tp h1), wx hR (rS.mpr rfl) (tp h2)]; rfl
 ·rw [xK H ha (eq_false_of_ne_true hpa)]
  have hw : M.whole = false := by
   have := aU.mp hth a (.head _)
   rw [eq_false_of_ne_true hpa, b7, aN] at this
   exact this
  rw [H.shF hw]
  refine ⟨false, rfl, ?_⟩
  delta qf
  rw [eq_false_of_ne_true λ h => hab (NP H hpa ((mZ H hb).mp h)).symm]; rfl
omit H in
theorem Cg (h : there M ids = false) : M.whole = true := by
 cases hw : M.whole with
 | true => rfl
 | false =>
  delta there at h
  rw [hw] at h
  exact Bool.noConfusion (h.symm.trans (aU.mpr λ k _ => cr _))
theorem Jz (ha : a < 8) (hb : b < 8) (hab : a ≠ b) (hth : there M [a, b] = false) : Cp M.S M.sh M.L (M.n a) (M.n b) = none := by
 delta Cp
 rw [if_neg λ e => hab (rJ H ha hb e)]
 by_cases hpa : M.In a
 ·rw [H.Sin a hpa]
  show (M.L (M.sc * M.s a) (M.n a) [M.n b]).map _ = none
  rw [(vV H ha hb).1 hth]; rfl
 ·rw [xK H ha (eq_false_of_ne_true hpa)]
  exact if_neg (H.shT (Cg hth))
end
noncomputable def xu (M : ro) (ids : List Nat) (a : Nat) : Bool := ids.all λ b => a == b || !(M.L 0 (M.n a) [M.n b] == some [M.n a])
section
variable {m : Nat} {l : List Bs} {p q : Nat × Bs}
theorem xj (h : p ∈ nM m l) : m <= p.1 /\ p.2 ∈ l := by
 induction l generalizing m with
 | nil => cases h
 | cons a l ih =>
  rcases ag.mp h with rfl | h
  ·exact ⟨aQ _, .head _⟩
  ·exact ⟨cU (ih h).1, .tail _ (ih h).2⟩
theorem FF (hn : l.Nodup) (hp : p ∈ nM m l) (hq : q ∈ nM m l) : p.1 = q.1 ↔ p.2 = q.2 := by
 induction l generalizing m with
 | nil => cases hp
 | cons a l ih =>
  obtain ⟨h1, h2⟩ := cH.mp hn
  have far : ∀ {q}, q ∈ nM (m + 1) l -> (m ≠ q.1 /\ a ≠ q.2) := λ h => ⟨aE (xj h).1, λ e => h1 (e ▸ (xj h).2)⟩
  rcases ag.mp hp with rfl | hp
  ·rcases ag.mp hq with rfl | hq
   ·exact ⟨λ _ => rfl, λ _ => rfl⟩
   ·exact ⟨λ e => absurd e (far hq).1, λ e => absurd e (far hq).2⟩
  ·rcases ag.mp hq with rfl | hq
   ·exact ⟨λ e => absurd e.symm (far hp).1, λ e => absurd e.symm (far hp).2⟩
   ·exact ih h2 hp hq
end
section
variable {M : ro} (H : pS M) {ids l : List Nat} {a b i m : Nat} {acc : List Bs} {ps : List (Nat × Bs)}
theorem oV : there M (a :: l) = true ↔ (M.pr.testBit a || !M.whole) = true /\ there M l = true := bL
include H
theorem Jb (hi : ∀ k ∈ ids, k < 8) (hn : ids.Nodup) : (ids.map M.n).Nodup :=
 bc.mpr (cf.mpr ((bc.mp hn).imp_of_mem λ ha hb hne e => hne (rJ H (hi _ ha) (hi _ hb) e)))
theorem GB (ha : a < 8) (hb : b < 8) (hab : a ≠ b) : zm M.L [M.n a, M.n b] = M.L 0 (M.n a) [M.n b] := if_neg λ h => hab (rJ H ha hb (ae.mp h))
theorem pq (ha : a < 8) (hb : b < 8) :
  (there M [a, b] = false -> M.L 0 (M.n a) [M.n b] = none) /\ (there M [a, b] = true -> ∃ sp, M.L 0 (M.n a) [M.n b] = some (sp.map M.n) /\ rl M M.rs a [b] sp) :=
 r8 H (tl := [b]) ha (λ k hk => ae.mp hk ▸ hb) (by decide : 1 <= 100)
theorem HS (hi : ∀ k ∈ a :: l, k < 8) (hth : there M (a :: l) = true) (hix : ∀ p ∈ nM m (l.map M.n), (i = p.1 ↔ M.n a = p.2)) : ni M.L i (M.n a) (nM m (l.map M.n)) = some (xu M l a) := by
 induction l generalizing m with
 | nil => rfl
 | cons b l ih =>
  obtain ⟨t1, t2⟩ := oV.mp hth
  obtain ⟨t2, t3⟩ := oV.mp t2
  have ih := ih (m := m + 1) (λ k hk => hi k ((ag.mp hk).elim (λ e => e ▸ .head _) λ h => .tail _ (.tail _ h))) (oV.mpr ⟨t1, t3⟩) λ p hp => hix p (.tail _ hp)
  have hab := hix (m, M.n b) (.head _)
  show (if i = m then ni M.L i (M.n a) (nM (m + 1) (l.map M.n)) else (zm M.L [M.n a, M.n b]).bind λ m' => if m' == [M.n a] then some false else ni M.L i (M.n a) (nM (m + 1) (l.map M.n))) = some ((a == b || !(M.L 0 (M.n a) [M.n b] == some [M.n a])) && xu M l a)
  rw [ih]
  by_cases h : a = b
  ·rw [if_pos (hab.mpr (congrArg _ h)), beq_iff_eq.mpr h]; rfl
  ·have ha := hi a (.head _)
   have hb := hi b (.tail _ (.head _))
   rw [if_neg λ e => h (rJ H ha hb (hab.mp e)), GB H ha hb h, beq_eq_false_iff_ne.mpr h]
   refine mL λ gk => ?_
   obtain ⟨sp, hs, _⟩ := (pq H ha hb).2 (oV.mpr ⟨t1, oV.mpr ⟨t2, rfl⟩⟩)
   refine gk ?_
   rw [hs]
   show (if (sp.map M.n == [M.n a]) = true then _ else _) = some (!(sp.map M.n == [M.n a]) && _)
   cases sp.map M.n == [M.n a] <;> rfl
theorem HU (hi : ∀ k ∈ a :: l, k < 8) (hth : (M.pr.testBit a || !M.whole) = false) (hix : ∀ p ∈ nM m (l.map M.n), (i = p.1 ↔ M.n a = p.2)) (hne : ∃ b ∈ l, a ≠ b) : ni M.L i (M.n a) (nM m (l.map M.n)) = none := by
 induction l generalizing m with
 | nil => exact nomatch hne
 | cons b l ih =>
  have hab := hix (m, M.n b) (.head _)
  show (if i = m then ni M.L i (M.n a) (nM (m + 1) (l.map M.n)) else (zm M.L [M.n a, M.n b]).bind λ m' => if m' == [M.n a] then some false else ni M.L i (M.n a) (nM (m + 1) (l.map M.n))) = none
  by_cases h : a = b
  ·rw [if_pos (hab.mpr (congrArg _ h))]
   obtain ⟨c, hc, hac⟩ := hne
   exact ih (λ k hk => hi k ((ag.mp hk).elim (λ e => e ▸ .head _) λ h => .tail _ (.tail _ h))) (λ p hp => hix p (.tail _ hp)) ⟨c, (ag.mp hc).resolve_left λ e => hac (h.trans e.symm), hac⟩
  ·have ha := hi a (.head _)
   have hb := hi b (.tail _ (.head _))
   rw [if_neg λ e => h (rJ H ha hb (hab.mp e)), GB H ha hb h, (pq H ha hb).1 (by unfold there; rw [cm, hth]; rfl)]; rfl
theorem HG (g : Nat -> Bool) (h : ∀ p ∈ nM m (l.map M.n), p ∈ ps) (hg : ∀ i, ∀ a ∈ l, (i, M.n a) ∈ ps -> ni M.L i (M.n a) ps = some (g a)) : pK M.L ps (nM m (l.map M.n)) acc = some (acc ++ (l.filter g).map M.n) := by
 induction l generalizing m acc with
 | nil => exact congrArg some (cI _).symm
 | cons a l ih =>
  show (ni M.L m (M.n a) ps).bind (λ t => pK M.L ps (nM (m + 1) (l.map M.n)) (if t then acc ++ [M.n a] else acc)) = _
  rw [hg m a (.head _) (h (m, M.n a) (.head _)), cw]
  show pK M.L ps (nM (m + 1) (l.map M.n)) _ = _
  rw [ih (λ p hp => h p (.tail _ hp)) λ i a ha => hg i a (.tail _ ha)]
  cases g a with
  | true => exact congrArg some (bU ..)
  | false => rfl
theorem IG (hr : a ∈ l) (h : ∀ i, ni M.L i (M.n a) ps = none \/ (i, M.n a) ∉ nM m (l.map M.n)) : pK M.L ps (nM m (l.map M.n)) acc = none := by
 induction l generalizing m acc with
 | nil => cases hr
 | cons b l ih =>
  show (ni M.L m (M.n b) ps).bind (λ t => pK M.L ps (nM (m + 1) (l.map M.n)) (if t then acc ++ [M.n b] else acc)) = none
  cases ho : ni M.L m (M.n b) ps with
  | none => rfl
  | some t =>
   refine ih ((ag.mp hr).resolve_left λ e => ?_) λ i => (h i).imp id λ hn hm => hn (.tail _ hm)
   rcases h m with h | h
   ·rw [e, ho] at h; cases h
   ·exact h (e ▸ .head _)
theorem GE (h2 : 2 <= ids.length) : v5 M.L (ids.map M.n) = pK M.L (nM 0 (ids.map M.n)) (nM 0 (ids.map M.n)) [] := if_neg (by rw [am]; exact fR h2)
theorem Ly (hi : ∀ k ∈ ids, k < 8) (hn : ids.Nodup) (h : (i, M.n a) ∈ nM 0 (ids.map M.n)) : ∀ p ∈ nM 0 (ids.map M.n), (i = p.1 ↔ M.n a = p.2) := λ _ hp => FF (Jb H hi hn) h hp
theorem Gq (hi : ∀ k ∈ ids, k < 8) (hn : ids.Nodup) (h2 : 2 <= ids.length) (hth : there M ids = true) : v5 M.L (ids.map M.n) = some ((ids.filter (xu M ids)).map M.n) := by
 rw [GE H h2]
 refine HG H _ (λ p hp => hp) λ i a ha hm => HS H (λ k hk => ?_) (oV.mpr ⟨aU.mp hth a ha, hth⟩) (Ly H hi hn hm)
 exact (ag.mp hk).elim (λ e => e ▸ hi a ha) (hi k)
theorem Gs (hi : ∀ k ∈ ids, k < 8) (hn : ids.Nodup) (h2 : 2 <= ids.length) (hth : there M ids = false) : v5 M.L (ids.map M.n) = none := by
 rw [GE H h2]
 obtain ⟨a, ha, hf⟩ := j6.mp hth
 refine IG H ha λ i => Classical.byCases (λ hm => .inl (HU H (λ k hk => ?_) (eq_false_of_ne_true hf) (Ly H hi hn hm) ?_)) .inr
 ·exact (ag.mp hk).elim (λ e => e ▸ hi a ha) (hi k)
 ·match ids, h2, hn with
  | x :: y :: l, _, hn =>
   by_cases h : a = x
   ·exact ⟨y, .tail _ (.head _), λ e => (cH.mp hn).1 (h ▸ e ▸ .head _)⟩
   ·exact ⟨x, .head _, h⟩
theorem JS (hi : ∀ k ∈ ids, k < 8) (hth : there M ids = true) : B8 ⟨ids, (ids.filter (xu M ids)).map M.n, M.nm, M.bl, M.rs, nj M.nm M.st⟩ := by
 have hmem : ∀ k ∈ ids, (M.n k ∈ (ids.filter (xu M ids)).map M.n ↔ xu M ids k = true) := λ k hk =>
  ⟨λ h => (bF.mp (vD H (λ k hk => hi k (bF.mp hk).1) (hi k hk) h)).2, λ h => bp.mpr ⟨k, bF.mpr ⟨hk, h⟩, rfl⟩⟩
 have two : ∀ {a b}, a ∈ ids -> b ∈ ids -> there M [a, b] = true := λ ha hb => oV.mpr ⟨aU.mp hth _ ha, oV.mpr ⟨aU.mp hth _ hb, rfl⟩⟩
 refine ⟨congrArg (e7 M.n) (gZ λ k hk => ?_), λ a ha hno => ?_, λ a ha hyes b hb => eq_false_of_ne_true λ hal => ?_⟩
 ·rw [bI, decide_eq_true_iff]
  exact (hmem k hk).symm
 ·have hg : xu M ids a = false := eq_false_of_ne_true λ h => hno ((hmem a ha).mpr h)
  refine mL λ gk => ?_
  obtain ⟨b, hb, h⟩ := j6.mp hg
  rw [bq, not_or, aN, g9, beq_iff_eq, beq_iff_eq] at h
  obtain ⟨sp, h1, X⟩ := (pq H (hi a ha) (hi b hb)).2 (two ha hb)
  rw [h.2] at h1
  have hc := X.com a (A9 H X.lt (hi a ha) (bN h1).symm ▸ .head _)
  obtain ⟨o, ho, hr⟩ := hc.2
  cases ae.mp ho
  refine gk ?_
  refine jR (a := b) (bF.mpr ⟨hb, ?_⟩)
  rw [show (M.bl.getD b 0).testBit a = true from (mZ H (hi b hb)).mpr hr, beq_eq_false_iff_ne.mpr λ e => h.1 e.symm]; rfl
 ·obtain ⟨hb1, hb2⟩ := bF.mp hb
  rw [av, aN, beq_eq_false_iff_ne] at hb2
  obtain ⟨sp, h1, X⟩ := (pq H (hi a ha) (hi b hb1)).2 (two ha hb1)
  have e := Hk (ou H) H.rlen (hi a ha) ((mZ H (hi b hb1)).mp hb2.2) (λ k hk => (mZ H (hi a ha)).mpr hk.1) hal X
  have hgb := aU.mp ((hmem a ha).mp hyes) b hb1
  rw [h1, e, beq_eq_false_iff_ne.mpr λ e => hb2.1 e.symm] at hgb
  rw [show (some ([a].map M.n) == some [M.n a]) = true from beq_self_eq_true _] at hgb
  cases hgb
end
noncomputable abbrev OV (M : ro) (k a : Nat) : Prop := ∀ sp, rl M M.rs k [a] sp -> ∀ u ∈ sp, ∀ y, rX M.rs k [a] y -> rd M.rs y u = false
structure D4 (M : ro) (k : Nat) (cur r : List Nat) : Prop where
 com : ∀ t ∈ r, ∃ a ∈ cur, rX M.rs k [a] t
 top : ∀ a ∈ cur, ∀ t, rX M.rs k [a] t -> (∀ y, rX M.rs k [a] y -> rd M.rs y t = false) -> t ∈ r
 perm : (∀ a ∈ cur, OV M k a) -> r.Perm (cur.flatMap (qQ M.bl M.rs k))
 len : r.length <= 8 * cur.length
section
variable {M : ro} (H : pS M) {R tl sp cur : List Nat} {k a t v i0 n : Nat} {acc : List Bs} {Reg : Nat -> Prop}
theorem Fg : rX R k [a] t ↔ mR R k t /\ mR R a t := by
 refine and_congr_right λ _ => ⟨(by rintro ⟨o, ho, h⟩; exact ae.mp ho ▸ h), λ h => ⟨a, .head _, h⟩⟩
theorem sy {n m : Nat} : (pT n m).Nodup := eJ eS List.nodup_range
theorem CX {w : Nat} : (if (2 ^ a &&& (2 ^ a - 1)) != 0 then 2 ^ a &&& w else 2 ^ a) = 2 ^ a := by
 have e : 2 ^ a &&& (2 ^ a - 1) = 0 := oB λ i => by
  rw [aK, bQ, Nat.testBit_two_pow_sub_one]
  by_cases h : a = i
  ·subst h; rw [decide_eq_false (gP a), bS]; exact nofun
  ·rw [decide_eq_false h]; exact nofun
 rw [e]; rfl
theorem FW (hR : xo R) (hi0 : i0 < 8) (h : 8 <= v + n) (hc : rX R i0 tl v) : ∃ t, rX R i0 tl t /\ (∀ y, rX R i0 tl y -> rd R y t = false) /\ mR R t v := by
 induction n generalizing v with
 | zero => exact absurd (ar (nU hR hc.1) hi0) (cC h)
 | succ n ih =>
  by_cases hex : ∃ y, rX R i0 tl y /\ rd R y v = true
  ·refine mL λ gk => ?_
   obtain ⟨y, hy, hr⟩ := hex
   obtain ⟨t, h1, h2, h3⟩ := ih (ac h (by rw [<- cP, bv]; exact bj (hR y v hr) n)) hy
   refine gk ?_
   exact ⟨t, h1, h2, h3.snoc hr⟩
  ·exact ⟨v, hc, λ y hy => eq_false_of_ne_true λ hr => hex ⟨y, hy, hr⟩, .refl _⟩
include H
theorem Cy : (nj M.nm M.st).length = 8 := (am _).trans (bh.trans H.nlen)
theorem xE (hi0 : i0 < 8) (h : rX M.rs i0 tl k) : k < 8 := ar (nU (ou H) h.1) hi0
theorem xT (hk : k < 8) (ha : a < 8) (r1 : ∀ y, mR M.rs k y -> mR M.rs a y -> Reg y) (r2 : ∀ z, mR M.rs k z -> z ≠ k -> Reg z) (r3 : ∀ z, mR M.rs a z -> z ≠ a -> Reg z)
  (mono : ∀ p e, Reg p -> rd M.rs p e = true -> pF ((nj M.nm M.st).getD e (0, [])) ((nj M.nm M.st).getD p (0, [])) = false) : OV M k a := by
 intro sp X u hu y hy
 refine eq_false_of_ne_true λ hr => ?_
 have hd := ou H
 refine mL λ gk => ?_
 obtain ⟨yk, ya⟩ := Fg.mp hy
 refine gk ?_
 have hu8 := X.lt u hu
 have hy8 := xE H hk hy
 have huy : u < y := hd y u hr
 have hp := X.pass u hu
 rw [Az] at hp
 delta nY at hp
 dsimp only at hp
 rw [CX] at hp
 have hb := λ p => wE (rk := nj M.nm M.st) (y := (nj M.nm M.st).getD u (0, [])) (j := p)
 generalize sJ (nj M.nm M.st) ((nj M.nm M.st).getD u (0, [])) = w at hp hb
 have A : ∀ {p}, mR M.rs p y -> (∀ z, mR M.rs p z -> Reg z) -> pF ((nj M.nm M.st).getD u (0, [])) ((nj M.nm M.st).getD p (0, [])) = false := λ {p} h => by
  clear yk ya hy hy8 huy hp
  induction h with
  | refl => exact λ hz => mono _ u (hz _ (.refl _)) hr
  | step h1 _ ih => exact λ hz => ru (ih hr λ z h => hz z (.step h1 h)) (mono _ _ (hz _ (.refl _)) h1)
 have W : ∀ {p}, p < 8 -> mR M.rs p y -> (∀ z, mR M.rs p z -> Reg z) -> w.testBit p = true := λ {p} hp8 h hz => by
  rw [hb, Cy H, decide_eq_true hp8, cE]
  refine bf λ h2 => ?_
  have e := xO (A h hz) (eq_false_of_ne_true h2)
  rw [s7 H hp8, s7 H hu8] at e
  have := rJ H hu8 hp8 (gV.mp e).2
  exact cC (nU hd h) (this ▸ huy)
 have B : ∀ {p}, mR M.rs p y -> p < 8 -> (∀ z, mR M.rs p z -> z ≠ p -> Reg z) -> yG M.rs w p y := λ {p} h => by
  clear A yk ya hy hy8 huy hp hb
  induction h with
  | refl => exact λ _ _ => .refl _
  | step h1 h2 ih =>
   intro hp hz
   have hlt := hd _ _ h1
   have hz' : ∀ z, mR M.rs _ z -> Reg z := λ z h => hz z (.step h1 h) (aE (ar (nU hd h) hlt))
   exact .step ⟨h1, W (aH hlt hp) h2 hz'⟩ (ih hr W (aH hlt hp) λ z h _ => hz' z h)
 have hn := Dh (rs := M.rs) (f := w &&& downN (2 ^ k) M.rs w &&& downN (2 ^ a) M.rs w) (k := y) (j := u) (by
  rw [aK, aK, W hy8 (.refl _) λ z h => r1 z (yk.trans h) (ya.trans h), wx hd (rS.mpr rfl) (B yk hk r2), wx hd (rS.mpr rfl) (B ya ha r3)]; rfl) hr
 rw [hn] at hp
 cases hp
theorem xI (hk : k < 8) (ha : a < 8) : t ∈ qQ M.bl M.rs k a ↔ rX M.rs k [a] t /\ ∀ y, rX M.rs k [a] y -> rd M.rs y t = false := by
 have hC : ∀ v, (M.bl.getD k 0 &&& M.bl.getD a 0).testBit v = true ↔ rX M.rs k [a] v := λ v => by
  rw [aK, av, mZ H hk, mZ H ha, Fg]
 delta qQ pT Bb
 rw [bF, y8 hC, aM, H.rlen]
 exact ⟨λ h => h.2, λ h => ⟨xE H hk h.1, h⟩⟩
theorem GF (hk : k < 8) (h8 : ∀ a ∈ cur, a < 8) (hth : ∀ a ∈ cur, there M [k, a] = true) : ∃ r : List Nat, oM M.L (M.n k) (cur.map M.n) acc = some (acc ++ r.map M.n) /\ D4 M k cur r := by
 induction cur generalizing acc with
 | nil => exact ⟨[], congrArg some (cI _).symm, nofun, nofun, λ _ => .refl _, aQ _⟩
 | cons a cur ih =>
  have ha := h8 a (.head _)
  refine mL λ gk => ?_
  obtain ⟨sp, hL, X⟩ := (pq H hk ha).2 (hth a (.head _))
  obtain ⟨r, h1, S⟩ := ih (acc := acc ++ sp.map M.n) (λ b hb => h8 b (.tail _ hb)) λ b hb => hth b (.tail _ hb)
  refine gk ?_
  refine ⟨sp ++ r, ?_, λ t ht => ?_, λ b hb t hc htop => ?_, λ hex => ?_, ?_⟩
  ·show (M.L 0 (M.n k) [M.n a]).bind (λ l => oM M.L (M.n k) (cur.map M.n) (acc ++ l)) = _
   rw [hL, bw, <- bU]
   exact h1
  ·rcases aX.mp ht with ht | ht
   ·exact ⟨a, .head _, X.com t ht⟩
   ·exact (S.com t ht).imp λ b h => ⟨.tail _ h.1, h.2⟩
  ·rcases ag.mp hb with rfl | hb
   ·exact aC _ (X.top t (xE H hk hc) hc htop)
   ·exact aq _ (S.top b hb t hc htop)
  ·rw [d7]
   refine mw.append ((iD X.nodup sy).mpr λ t => ?_) (S.perm λ b hb => hex b (.tail _ hb))
   rw [xI H hk ha]
   exact ⟨λ ht => ⟨X.com t ht, hex a (.head _) sp X t ht⟩, λ h => X.top t (xE H hk h.1) h.1 h.2⟩
  ·have h6 := cG X.nodup (l₂ := az 8) λ x hx => aM.mpr (X.lt x hx)
   rw [aA, cu, hJ, ce]
   exact bG S.len h6
theorem w3 (hk : k < 8) (h8 : ∀ a ∈ cur, a < 8) (hb : ∃ a ∈ cur, there M [k, a] = false) : oM M.L (M.n k) (cur.map M.n) acc = none := by
 induction cur generalizing acc with
 | nil => exact nomatch hb
 | cons a cur ih =>
  have S := pq H hk (h8 a (.head _))
  show (M.L 0 (M.n k) [M.n a]).bind (λ l => oM M.L (M.n k) (cur.map M.n) (acc ++ l)) = none
  cases hth : there M [k, a] with
  | false => rw [S.1 hth]; rfl
  | true =>
   obtain ⟨sp, hL, _⟩ := S.2 hth
   obtain ⟨b, hb, hf⟩ := hb
   rw [hL]
   exact ih (λ c hc => h8 c (.tail _ hc)) ⟨b, (ag.mp hb).resolve_left λ e => Bool.noConfusion (hf.symm.trans (e ▸ hth)), hf⟩
end
noncomputable def gN (w : Nat) : Nat := [1, 1, 1, 2, 3, 4, 6, 9, 12].getD w 12
theorem zf : ∀ w < 9, 1 <= gN w /\ gN w <= 12 /\ (∀ v ≤ w, gN v <= gN w) /\ ∀ n < 9, 1 <= n -> n + 1 <= w -> n * gN (w - n) <= gN w := by decide
noncomputable def wt (M : ro) (a : Nat) : Nat := (pT 8 (M.bl.getD a 0)).length
noncomputable abbrev AH (M : ro) (l : List Nat) : Nat := (l.map λ a => gN (wt M a)).sum
section
variable {M : ro} (H : pS M) {T due l : List Nat} {k a t v c : Nat} {f : Nat -> Nat} {ps d : List (Nat × Nat)} {s : Ip} {S : Dx}
theorem Fe (h : ∀ a ∈ l, f a <= c) : (l.map f).sum <= l.length * c := by
 induction l with
 | nil => exact bM _
 | cons a l ih =>
  rw [bE, eH, cu, Nat.succ_mul, ce]
  exact bG (ih λ b hb => h b (.tail _ hb)) (h a (.head _))
theorem BE : wt M a < 9 := hZ vk
theorem CC : l.length <= AH M l := by
 induction l with
 | nil => exact aQ _
 | cons a l ih =>
  rw [cu, AH, bE, eH, ce]
  exact bG (zf _ BE).1 ih
include H
theorem zF (ha : a < 8) : v ∈ pT 8 (M.bl.getD a 0) ↔ mR M.rs a v := by
 unfold pT
 rw [bF, aM, mZ H ha]
 exact ⟨λ h => h.2, λ h => ⟨ar (nU (ou H) h) ha, h⟩⟩
theorem BK (ha : a < 8) (hnd : T.Nodup) (hmem : ∀ t ∈ T, mR M.rs a t) (htop : ∀ t ∈ T, ∀ y ∈ T, mR M.rs y t -> y = t) (haT : a ∉ T) (ht : t ∈ T) : wt M t + T.length <= wt M a := by
 have h8 : ∀ {t}, t ∈ T -> t < 8 := λ ht => ar (nU (ou H) (hmem _ ht)) ha
 have hnd2 : (pT 8 (M.bl.getD t 0) ++ (T.erase t ++ [a])).Nodup := by
  refine cT.mpr ⟨sy, cT.mpr ⟨hnd.erase t, bR _ _, λ x hx y hy e => ?_⟩, λ x hx y hy e => ?_⟩
  ·exact haT (ae.mp hy ▸ e ▸ ju hx)
  ·have hx := (zF H (h8 ht)).mp hx
   subst e
   rcases aX.mp hy with hy | hy
   ·obtain ⟨h1, h2⟩ := hnd.mem_erase_iff.mp hy
    exact h1 ((htop x h2 t ht hx).symm)
   ·cases ae.mp hy
    exact haT (dF (nU (ou H) hx) (nU (ou H) (hmem t ht)) ▸ ht)
 have hlen := cG hnd2 (l₂ := pT 8 (M.bl.getD a 0)) λ x hx => by
  rw [zF H ha]
  rcases aX.mp hx with hx | hx
  ·exact (hmem t ht).trans ((zF H (h8 ht)).mp hx)
  ·rcases aX.mp hx with hx | hx
   ·exact hmem x (ju hx)
   ·exact ae.mp hx ▸ .refl _
 rw [aA, aA, List.length_erase_of_mem ht] at hlen
 rw [<- gS (jd ht)]
 exact hlen
theorem A6 (hk : k < 8) (ha : a < 8) : AH M (qQ M.bl M.rs k a) <= gN (wt M a) := by
 have hT : ∀ t, t ∈ qQ M.bl M.rs k a ↔ _ := λ t => xI H hk ha
 have hnd : (qQ M.bl M.rs k a).Nodup := sy
 generalize qQ M.bl M.rs k a = T at hT hnd
 have hmem : ∀ t ∈ T, mR M.rs k t /\ mR M.rs a t := λ t ht => Fg.mp ((hT t).mp ht).1
 have htop : ∀ t ∈ T, ∀ y, mR M.rs k y -> mR M.rs a y -> mR M.rs y t -> y = t := λ t ht y hy1 hy2 hr => hr.last.resolve_right (by
  rintro ⟨z, hz, hzr⟩
  rw [((hT t).mp ht).2 z (Fg.mpr ⟨hy1.trans hz, hy2.trans hz⟩)] at hzr
  cases hzr)
 by_cases haT : a ∈ T
 ·rw [D6 hnd haT λ t ht => (htop t ht a (hmem a haT).1 (.refl _) (hmem t ht).2).symm]
  exact aQ _
 ·cases T with
  | nil => exact bM _
  | cons t0 T =>
   have hw := λ t (ht : t ∈ t0 :: T) => BK H ha hnd (λ t ht => (hmem t ht).2) (λ t ht y hy => htop t ht y (hmem y hy).1 (hmem y hy).2) haT ht
   have h0 := hw t0 (.head _)
   have hl := ac (cV _ _) h0
   have hw0 : 1 <= wt M t0 := jd ((zF H (ar (nU (ou H) (hmem t0 (.head _)).2) ha)).mpr (.refl _))
   refine ac (Fe (c := gN (wt M a - (t0 :: T).length)) λ t ht => (zf _ (ar (dz _ _) BE)).2.2.1 _ (jJ (hw t ht))) ?_
   exact (zf _ BE).2.2.2 _ (ar hl BE) (b9 _) (ac (by rw [ce]; exact bj hw0 _) h0)
theorem BM (hk : k < 8) (h : ∀ a ∈ due, a < 8) : AH M (due.flatMap (qQ M.bl M.rs k)) <= AH M due := by
 induction due with
 | nil => exact aQ _
 | cons a due ih =>
  unfold AH
  rw [d7, bw, kO, bE, eH]
  exact bG (A6 H hk (h a (.head _))) (ih λ b hb => h b (.tail _ hb))
theorem Fd (hl : ∀ p ∈ ps, p.2 < 8) (h1 : ∀ a ∈ s.due, a < 8) (h2 : AH M s.due <= 12) : (∀ a ∈ (ps.foldl (or M.bl M.rs) s).due, a < 8) /\ AH M (ps.foldl (or M.bl M.rs) s).due <= 12 := by
 induction ps generalizing s with
 | nil => exact ⟨h1, h2⟩
 | cons p ps ih =>
  have hk := hl p (.head _)
  refine ih (λ p hp => hl p (.tail _ hp)) (λ a ha => ?_) ?_
  ·unfold or at ha
   dsimp only at ha
   split at ha
   ·obtain ⟨b, hb, hab⟩ := List.mem_flatMap.mp ha
    exact xE H hk ((xI H hk (h1 b hb)).mp hab).1
   ·exact h1 a ha
  ·unfold or
   dsimp only
   split
   ·exact ac (BM H hk h1) h2
   ·exact h2
theorem Ha (hbl : S.bl = M.bl) (hrs : S.rs = M.rs) (hi : ∀ k ∈ S.ids, k < 8) (hd : d ++ ps = nT 0 S.ids) : (qo S d).due.length < 64 /\ ∀ a ∈ (qo S d).due, a < 8 := by
 have h0 : S.ids.headD 0 < 8 := by
  cases e : S.ids with
  | nil => decide
  | cons a l => exact hi a (e ▸ .head _)
 have h := Fd H (s := ⟨S.bl.getD (S.ids.headD 0) 0, 0, 0, 0, [S.ids.headD 0]⟩) (ps := d) (λ p hp => hi _ (yP (hd ▸ aC _ hp))) (λ a ha => ae.mp ha ▸ h0) (zf _ BE).2.1
 rw [<- hbl, <- hrs] at h
 exact ⟨ar (ac CC h.2) (by decide), h.1⟩
end
section
variable {bl rs l l1 l2 : List Nat} {n v p : Nat} {s : Ip} {S : AD} {t : Nat × Bool}
theorem uT : nT n (l1 ++ l2) = nT n l1 ++ nT (n + l1.length) l2 := by
 induction l1 generalizing n with
 | nil => rfl
 | cons x a ih =>
  show (n, x) :: nT (n + 1) (a ++ l2) = (n, x) :: (nT (n + 1) a ++ nT (n + (a.length + 1)) l2)
  rw [ih, bv]; rfl
theorem yJ : ((nT n l).foldl (or bl rs) s).region.testBit v = (s.region.testBit v || l.any λ x => (bl.getD x 0).testBit v) := by
 induction l generalizing n s with
 | nil => exact (a7 _).symm
 | cons x l ih => exact ih.trans (by rw [show (or bl rs s (n, x)).region = s.region ||| bl.getD x 0 from rfl, aZ, eI]; rfl)
theorem Iz : ((nT n l).foldl (or bl rs) s).seeds.testBit v = (s.seeds.testBit v || l.any λ x => decide (x = v)) := by
 induction l generalizing n s with
 | nil => exact (a7 _).symm
 | cons x l ih => exact ih.trans (by rw [show (or bl rs s (n, x)).seeds = s.seeds ||| 2 ^ x from rfl, aZ, bQ, eI]; rfl)
theorem J7 : ((nT n l).foldl (or bl rs) s).both.testBit v = (s.both.testBit v && l.all λ x => (bl.getD x 0).testBit v) := by
 induction l generalizing n s with
 | nil => exact (db _).symm
 | cons x l ih => exact ih.trans (by rw [show (or bl rs s (n, x)).both = s.both &&& bl.getD x 0 from rfl, aK, li]; rfl)
theorem xH (h : s.shared.testBit v = true) : ((nT n l).foldl (or bl rs) s).shared.testBit v = true := by
 induction l generalizing n s with
 | nil => exact h
 | cons x l ih => exact ih (by rw [show (or bl rs s (n, x)).shared = s.shared ||| (s.region &&& bl.getD x 0) from rfl, aZ, h]; rfl)
theorem Fm (h1 : ∃ q ∈ l1, (bl.getD q 0).testBit v = true) (h2 : (bl.getD p 0).testBit v = true) : ((nT n (l1 ++ p :: l2)).foldl (or bl rs) s).shared.testBit v = true := by
 rw [uT, bT]
 refine xH (l := l2) ?_
 show (_ ||| (((nT n l1).foldl (or bl rs) s).region &&& bl.getD p 0)).testBit v = true
 rw [aZ, aK, h2, yJ, cA.mpr h1, cr]
 exact cr _
theorem yr (h : t.2 = true) : (l.foldl (oY S) t).2 = true := by
 induction l generalizing t with
 | nil => exact h
 | cons k l ih => exact ih (by delta oY; dsimp only; rw [h]; rfl)
theorem EE : (l.foldl (oY S) t).1.testBit v = (t.1.testBit v && l.all λ k => (S.bl.getD k 0).testBit v) := by
 induction l generalizing t with
 | nil => exact (db _).symm
 | cons k l ih => exact ih.trans (by delta oY; dsimp only; rw [aK, li]; rfl)
end
theorem CP {a b : List Nat} (h : a.Perm b) : tG a = tG b :=
 vU (((qO _).trans (h.map _)).trans (qO _).symm) (qv _) (qv _)
noncomputable abbrev F1 (M : ro) (ids sp : List Nat) : Dx := ⟨ids, sp, M.bl, M.rs, nj M.nm M.st⟩
noncomputable abbrev tU (M : ro) (kind : Nat) (ids : List Nat) (told : BU) : AD := ⟨kind, ids, told, M.nm, M.st, M.pr, M.bl, M.rs, M.whole⟩
noncomputable abbrev Rg (M : ro) (ids : List Nat) : Nat := ndiff (F1 M ids []).end.region (ndiff (F1 M ids []).end.seeds (F1 M ids []).end.shared)
noncomputable abbrev Oi (M : ro) (ids : List Nat) : Prop := Db M.rs (nj M.nm M.st) (Rg M ids)
structure OI (M : ro) (i0 : Nat) (tl d cur : List Nat) : Prop where
 lt : ∀ a ∈ cur, a < 8
 com : ∀ a ∈ cur, mR M.rs i0 a /\ ∀ x ∈ d, mR M.rs x a
 cov : ∀ v, mR M.rs i0 v -> (∀ x ∈ d, mR M.rs x v) -> ∃ a ∈ cur, mR M.rs a v
 pres : M.whole = true -> ∀ a ∈ cur, M.In a
 perm : Oi M (i0 :: tl) -> cur.Perm (qo (F1 M (i0 :: tl) []) (nT 0 (i0 :: d))).due
 size : cur.length <= 8 ^ d.length
section
variable {M : ro} (H : pS M) {i0 k : Nat} {tl d r cur ids : List Nat}
include H
theorem Cc (hids : ∀ x ∈ ids, x < 8) {v : Nat} (h1 : ∃ p ∈ ids, mR M.rs p v) (h2 : v ∈ ids -> ∃ l1 p l2, ids = l1 ++ p :: l2 /\ mR M.rs p v /\ ∃ q ∈ l1, mR M.rs q v) : (Rg M ids).testBit v = true := by
 have hr : (F1 M ids []).end.region.testBit v = true := by
  delta Dx.end qo
  rw [yJ]
  refine mL λ gk => ?_
  obtain ⟨p, hp, hr⟩ := h1
  refine gk ?_
  rw [cA.mpr ⟨p, hp, (mZ H (hids p hp) (k := v)).mpr hr⟩]
  exact cr _
 rw [Rg, pC, pC, hr]
 cases hse : (F1 M ids []).end.seeds.testBit v with
 | false => rfl
 | true =>
  delta Dx.end qo at hse
  rw [Iz, a8, b7, cA] at hse
  refine mL λ gk => ?_
  obtain ⟨x, hx, e⟩ := hse
  have e := of_decide_eq_true e
  subst e
  obtain ⟨l1, p, l2, e, g1, q, hq, g2⟩ := h2 hx
  refine gk ?_
  have : (F1 M ids []).end.shared.testBit x = true := by
   delta Dx.end qo
   dsimp only
   rw [e]
   exact Fm ⟨q, hq, (mZ H (hids q (e ▸ aC _ hq))).mpr g2⟩ ((mZ H (hids p (e ▸ aq _ (.head _)))).mpr g1)
  rw [this]; rfl
theorem EC (hids : ∀ x ∈ i0 :: tl, x < 8) (hs : tl = d ++ k :: r) (I : OI M i0 tl d cur) (hm : Oi M (i0 :: tl)) {a : Nat} (ha : a ∈ cur) : OV M k a := by
 have hkm : k ∈ tl := hs ▸ aq _ (.head _)
 have hia := (I.com a ha).1
 refine xT H (hids k (.tail _ hkm)) (I.lt a ha) (Reg := λ v => (Rg M (i0 :: tl)).testBit v = true) (λ y h1 h2 => ?_) (λ z hz hne => ?_) (λ z hz hne => ?_) λ p e hp hr => ?_
 ·exact Cc H hids ⟨i0, .head _, hia.trans h2⟩ λ _ => ⟨i0 :: d, k, r, congrArg (i0 :: ·) hs, h1, i0, .head _, hia.trans h2⟩
 ·refine Cc H hids ⟨k, .tail _ hkm, hz⟩ λ hm => ?_
  rw [hs, <- ie] at hm
  rcases aX.mp hm with hm | hm
  ·exact ⟨i0 :: d, k, r, congrArg (i0 :: ·) hs, hz, z, hm, .refl _⟩
  ·refine mL λ gk => ?_
   obtain ⟨m1, m2, e⟩ := jT ((ag.mp hm).resolve_left hne)
   refine gk ?_
   exact ⟨i0 :: d ++ k :: m1, z, m2, (congrArg (i0 :: ·) (hs.trans (congrArg (d ++ k :: ·) e))).trans (congrArg (i0 :: ·) (bU d (k :: m1) (z :: m2)).symm), .refl _, k, aq _ (.head _), hz⟩
 ·have hiz := hia.trans hz
  refine Cc H hids ⟨i0, .head _, hiz⟩ λ hm => ?_
  rcases ag.mp hm with rfl | hm
  ·exact absurd (dF (nU (ou H) hz) (nU (ou H) hia)) hne
  ·refine mL λ gk => ?_
   obtain ⟨m1, m2, e⟩ := jT hm
   refine gk ?_
   exact ⟨i0 :: m1, z, m2, congrArg (i0 :: ·) e, .refl _, i0, .head _, hiz⟩
 ·have h1 : M.In p := ((H.roads p e).mp hr).1
  have := hm p (H.rlen.symm ▸ H.prlt p h1) e (ou H p e hr)
  rw [hp, show (M.rs.getD p 0).testBit e = true from hr] at this
  exact this
end
section
variable {M : ro} (H : pS M) {i0 k kind : Nat} {tl d r cur ids : List Nat} {told : BU}
include H
theorem J4 (hids : ∀ x ∈ i0 :: tl, x < 8) (hs : tl = d ++ k :: r) (I : OI M i0 tl d cur) {r' : List Nat} (S : D4 M k cur r') : OI M i0 tl (d ++ [k]) r' := by
 have hk : k < 8 := hids k (.tail _ (hs ▸ aq _ (.head _)))
 have one : ∀ t ∈ r', ∃ a ∈ cur, mR M.rs k t /\ mR M.rs a t := λ t ht => (S.com t ht).imp λ a h => ⟨h.1, Fg.mp h.2⟩
 refine ⟨λ t ht => ?_, λ t ht => ?_, λ v hv1 hv2 => ?_, λ hw t ht => ?_, λ hm => ?_, ?_⟩
 ·refine mL λ gk => ?_
  obtain ⟨a, ha, hc, _⟩ := one t ht
  refine gk ?_
  exact ar (nU (ou H) hc) hk
 ·refine mL λ gk => ?_
  obtain ⟨a, ha, hc, hr⟩ := one t ht
  obtain ⟨c1, c2⟩ := I.com a ha
  refine gk ?_
  exact ⟨c1.trans hr, λ x hx => (aX.mp hx).elim (λ hx => (c2 x hx).trans hr) λ hx => ae.mp hx ▸ hc⟩
 ·refine mL λ gk => ?_
  obtain ⟨a, ha, hr⟩ := I.cov v hv1 λ x hx => hv2 x (aC _ hx)
  obtain ⟨t, t1, t2, t3⟩ := FW (ou H) hk (cV 8 v) (Fg.mpr ⟨hv2 k (aq _ (.head _)), hr⟩)
  refine gk ?_
  exact ⟨t, S.top a ha t t1 t2, t3⟩
 ·refine mL λ gk => ?_
  obtain ⟨a, ha, _, hr⟩ := one t ht
  refine gk ?_
  rcases hr.last with e | ⟨z, _, hz⟩
  ·exact e ▸ I.pres hw a ha
  ·exact ((H.roads _ _).mp hz).2.2
 ·have e : qo (F1 M (i0 :: tl) []) (nT 0 (i0 :: (d ++ [k]))) = or M.bl M.rs (qo (F1 M (i0 :: tl) []) (nT 0 (i0 :: d))) (0 + (i0 :: d).length, k) := by
   rw [<- ie, uT]
   delta qo
   rw [bT]; rfl
  rw [e]
  delta or
  dsimp only
  rw [if_pos (show 0 < 0 + (i0 :: d).length from j2 (b9 d.length) (cF _).symm)]
  exact (S.perm λ a ha => EC H hids hs I hm ha).trans (mw.flatMap_right _ (I.perm hm))
 ·rw [aA]
  show _ <= 8 ^ (d.length + 1)
  rw [lT, hV]
  exact ac S.len (cW 8 I.size)
theorem E3 (hids : ∀ x ∈ i0 :: tl, x < 8) (hs : tl = d ++ r) (I : OI M i0 tl d cur) (hl : (m6 (tU M kind (i0 :: tl) told) d).2 = false) :
  ((m6 (tU M kind (i0 :: tl) told) tl).2 = true -> oz M.L (r.map M.n) (cur.map M.n) = none) /\ ((m6 (tU M kind (i0 :: tl) told) tl).2 = false -> ∃ cur', oz M.L (r.map M.n) (cur.map M.n) = some (cur'.map M.n) /\ OI M i0 tl tl cur') := by
 induction r generalizing d cur with
 | nil =>
  rw [cI] at hs
  subst hs
  exact ⟨λ h => Bool.noConfusion (hl.symm.trans h), λ _ => ⟨cur, rfl, I⟩⟩
 | cons k r ih =>
  have hk : k < 8 := hids k (.tail _ (hs ▸ aq _ (.head _)))
  have hleft : ∀ v, (m6 (tU M kind (i0 :: tl) told) d).1.testBit v = true ↔ mR M.rs i0 v /\ ∀ x ∈ d, mR M.rs x v := λ v => by
   delta m6
   rw [EE, av, aU]
   exact and_congr (mZ H (hids i0 (.head _))) (forall_congr' λ x => forall_congr' λ hx => mZ H (hids x (.tail _ (hs ▸ aC _ hx))))
  have hfull : m6 (tU M kind (i0 :: tl) told) tl = r.foldl (oY (tU M kind (i0 :: tl) told)) (oY (tU M kind (i0 :: tl) told) (m6 (tU M kind (i0 :: tl) told) d) k) := by
   rw [show m6 (tU M kind (i0 :: tl) told) tl = m6 (tU M kind (i0 :: tl) told) (d ++ k :: r) from congrArg _ hs]
   delta m6; rw [bT]; rfl
  have hone : m6 (tU M kind (i0 :: tl) told) (d ++ [k]) = oY (tU M kind (i0 :: tl) told) (m6 (tU M kind (i0 :: tl) told) d) k := by
   delta m6; rw [bT]; rfl
  have e2 : (oY (tU M kind (i0 :: tl) told) (m6 (tU M kind (i0 :: tl) told) d) k).2 = (M.whole && ((m6 (tU M kind (i0 :: tl) told) d).1 != 0 && !M.pr.testBit k)) := by
   delta oY
   dsimp only
   rw [hl, b7]
  show (_ -> (oM M.L (M.n k) (cur.map M.n) []).bind (λ l => oz M.L (r.map M.n) l) = none) /\ (_ -> ∃ cur', (oM M.L (M.n k) (cur.map M.n) []).bind (λ l => oz M.L (r.map M.n) l) = _ /\ _)
  cases hbad : (M.whole && ((m6 (tU M kind (i0 :: tl) told) d).1 != 0 && !M.pr.testBit k)) with
  | true =>
   refine ⟨λ _ => ?_, λ h => absurd h (by rw [hfull, yr (e2.trans hbad)]; exact nofun)⟩
   rw [av, av, aN] at hbad
   obtain ⟨hw, hne, hpk⟩ := hbad
   obtain ⟨a, ha⟩ : ∃ a, a ∈ cur := bf λ hno => bne_iff_ne.mp hne (oB λ v hv => by
    obtain ⟨h1, h2⟩ := (hleft v).mp hv
    obtain ⟨a, ha, _⟩ := I.cov v h1 h2
    exact hno ⟨a, ha⟩)
   rw [w3 H hk I.lt ⟨a, ha, by delta there; rw [cm, hpk, hw]; rfl⟩]; rfl
  | false =>
   have hth : ∀ a ∈ cur, there M [k, a] = true := λ a ha => by
    delta there
    rw [cm, cm]
    cases hw : M.whole with
    | false => exact (congr (congrArg and (cr _)) (congrArg (· && true) (cr _))).trans rfl
    | true =>
     rw [show M.pr.testBit a = true from I.pres hw a ha]
     rw [hw, cE, bne_iff_ne.mpr (λ e => by
      have := (hleft a).mpr (I.com a ha)
      rw [e, a8] at this
      cases this), cE, dZ] at hbad
     rw [hbad]; rfl
   obtain ⟨r', h1, S⟩ := GF H (acc := []) hk I.lt hth
   rw [h1]
   exact ih (d := d ++ [k]) (hs.trans (bU d [k] r).symm) (J4 H hids hs I S) (by rw [hone]; exact e2.trans hbad)
theorem My (hids : ∀ x ∈ i0 :: tl, x < 8) (hne : tl ≠ []) (hlen : tl.length <= 3) :
  ((m6 (tU M kind (i0 :: tl) told) tl).2 = true -> oz M.L (tl.map M.n) [M.n i0] = none) /\ ((m6 (tU M kind (i0 :: tl) told) tl).2 = false -> ∃ sp, oz M.L (tl.map M.n) [M.n i0] = some (sp.map M.n) /\ (∀ k ∈ sp, k < 8) /\ sp.length <= cap /\ Lx (F1 M (i0 :: tl) sp)) := by
 have hi0 := hids i0 (.head _)
 have hm : ∀ {a}, a ∈ [i0] -> a = i0 := ae.mp
 cases h0 : (M.whole && !M.pr.testBit i0) with
 | true =>
  refine ⟨λ _ => ?_, λ h => absurd h (by delta m6; rw [yr h0]; exact nofun)⟩
  rw [av, aN] at h0
  cases tl with
  | nil => exact absurd rfl hne
  | cons k r =>
   show (oM M.L (M.n k) ([i0].map M.n) []).bind _ = none
   rw [w3 H (hids k (.tail _ (.head _))) (λ a ha => hm ha ▸ hi0) ⟨i0, .head _, by delta there; rw [cm, cm, h0.1, h0.2]; exact bS _⟩]; rfl
 | false =>
  have I0 : OI M i0 tl [] [i0] := by
   refine ⟨λ a ha => hm ha ▸ hi0, λ a ha => ⟨hm ha ▸ .refl _, nofun⟩, λ v hv _ => ⟨i0, .head _, hv⟩, λ hw a ha => ?_, λ _ => .refl _, aQ _⟩
   rw [hw, cE, dZ] at h0
   exact hm ha ▸ h0
  obtain ⟨g1, g2⟩ := E3 H (kind := kind) (told := told) hids rfl I0 h0
  refine ⟨g1, λ hl => ?_⟩
  obtain ⟨sp, hs, I⟩ := g2 hl
  have hboth : ∀ v, (F1 M (i0 :: tl) []).end.both.testBit v = true ↔ mR M.rs i0 v /\ ∀ x ∈ tl, mR M.rs x v := λ v => by
   delta Dx.end qo
   rw [J7, av, aU]
   refine ⟨(by rintro ⟨h1, h2⟩; exact ⟨(mZ H hi0).mp h1, λ x hx => (mZ H (hids x (.tail _ hx))).mp (h2 x (.tail _ hx))⟩), λ q_ => q_.casesOn λ h1 h2 => ⟨(mZ H hi0).mpr h1, λ x hx => (mZ H (hids x hx)).mpr ?_⟩⟩
   exact (ag.mp hx).elim (λ e => e ▸ h1) (h2 x)
  have sm := λ d l h => Ha H (S := F1 M (i0 :: tl) sp) (d := d) (ps := l) rfl rfl hids h
  refine ⟨sp, hs, I.lt, ac I.size (ac (gE (by decide) hlen) (by decide : 8 ^ 3 <= 1048576)), λ k hk => (hboth k).mpr (I.com k hk), λ k hk ht => ?_, sm, λ hm => ?_⟩
  ·obtain ⟨⟨c1, c2⟩, hf⟩ := (y8 hboth).mp ht
   obtain ⟨a, ha, hr⟩ := I.cov k c1 c2
   rcases hr.last with e | ⟨z, hz, hzr⟩
   ·exact e ▸ ha
   ·obtain ⟨a1, a2⟩ := I.com a ha
    rw [hf z ⟨a1.trans hz, λ x hx => (a2 x hx).trans hz⟩] at hzr
    cases hzr
  ·have hp := I.perm hm
   exact ⟨λ k hk => hp.mem_iff.mp hk, hp.length_eq ▸ (sm _ [] (cI _)).1, CP hp⟩
end
section
variable {M : ro} (H : pS M) {i0 kind j : Nat} {tl ids sp : List Nat} {told : BU} {R : List Nat}
theorem IY (X : rl M R i0 tl sp) : sp.length <= 8 := by
 have h6 := cG X.nodup (l₂ := az 8) λ x hx => aM.mpr (X.lt x hx)
 rw [bh] at h6
 exact h6
theorem ND (L : rQ) {a : Bs} {l : List Bs} (hl : l ≠ []) (h : a ∉ l) : zm L (a :: l) = L 0 a l := by
 cases l with
 | nil => exact absurd rfl hl
 | cons b l => exact if_neg h
include H
theorem DE (hi : ∀ k ∈ ids, k < 8) (hlen : ids.length <= 4) : y2 (tU M kind ids told) := ⟨H.nlen, H.slen, H.blen, H.rlen, hi, ac hlen (by decide)⟩
theorem BD (hk1 : kind ≠ 1) (hk2 : kind ≠ 2) (hf : (kind == 3 && decide (2 < (i0 :: tl).length)) = false) (hi : ∀ k ∈ i0 :: tl, k < 8) (hlen : (i0 :: tl).length <= 4) (ht : told = rA (zm M.L ((i0 :: tl).map M.n))) : vS j (tU M kind (i0 :: tl) told) := by
 have htl : ∀ k ∈ tl, k < 8 := λ k hk => hi k (.tail _ hk)
 have hi0 := hi i0 (.head _)
 have R := DE H (kind := kind) (told := told) hi hlen
 have ht2 : (tU M kind (i0 :: tl) told).fold = false := hf
 by_cases hone : tl = [] \/ i0 ∈ tl
 ·refine yM R hk1 (cz _ _) ?_ ?_
  ·rw [ht2]
   rcases hone with rfl | h
   ·rfl
   ·rw [show decide ((i0 :: tl).headD 0 ∈ (i0 :: tl).drop 1) = true from decide_eq_true h]; exact cr _
  ·refine ht.trans ?_
   cases tl with
   | nil => rfl
   | cons b tl => exact congrArg rA (if_pos (bp.mpr ⟨i0, hone.resolve_left nofun, rfl⟩))
 ·rw [not_or] at hone
  obtain ⟨hne, hnot⟩ := hone
  have hmb : zm M.L ((i0 :: tl).map M.n) = M.L 0 (M.n i0) (tl.map M.n) := ND _ (λ e => hne (dr.mp e)) λ h => hnot (vD H htl hi0 h)
  rw [hmb] at ht
  refine rK R (sg hk1 ?_)
  rw [ht2]
  refine vg (cz _ _) ?_ (tY R (cz _ _) λ k left => ?_)
  ·rw [show decide ((i0 :: tl).headD 0 ∈ (i0 :: tl).drop 1) = false from decide_eq_false hnot]
   cases tl with
   | nil => exact absurd rfl hne
   | cons b l => rfl
  have hsp := r8 H hi0 htl (ac (dv _) (ac hlen (by decide)))
  rw [if_neg nofun, show (tU M kind (i0 :: tl) told).lost = !there M (i0 :: tl) from z7]
  cases hth : there M (i0 :: tl) with
  | false =>
   rw [hsp.1 hth] at ht
   exact tO rfl ht
  | true =>
   obtain ⟨sp, hL, X⟩ := hsp.2 hth
   rw [hL] at ht
   exact ue ht (vQ R H.nnd ht X.lt rfl (ac (IY X) (by decide)) hk2 nofun λ _ => FY ⟨i0, tl, sp, M.bl, M.rs, nj M.nm M.st⟩ H.blen H.rlen (Cy H) hi0 htl X.lt (Id H hi0 htl X))
theorem GI {a b : Nat} (ha : a < 8) (hb : b < 8) : vS j (tU M 1 [a, b] (CV (Cp M.S M.sh M.L (M.n a) (M.n b)))) := by
 refine L9 (DE H (λ k hk => ?_) (show 2 <= 4 by decide)) rfl rfl ?_
 ·rcases ag.mp hk with rfl | hk
  ·exact ha
  ·exact ae.mp hk ▸ hb
 rw [show (tU M 1 [a, b] (CV (Cp M.S M.sh M.L (M.n a) (M.n b)))).lost = !there M [a, b] from z7]
 by_cases hab : a = b
 ·subst hab
  rw [if_neg (by rw [beq_self_eq_true]; exact nofun)]
  exact ⟨true, congrArg CV (if_pos rfl), (if_pos rfl).mpr rfl⟩
 ·rw [beq_eq_false_iff_ne.mpr hab]
  cases hth : there M [a, b] with
  | false =>
   rw [if_pos (show (!false && !false) = true from rfl)]
   exact congrArg CV (Jz H ha hb hab hth)
  | true =>
   rw [if_neg (show ¬ (!false && !true) = true from nofun)]
   obtain ⟨t, h3, h4⟩ := CW H ha hb hab hth
   exact ⟨t, congrArg CV h3, (if_neg hab).mpr h4⟩
theorem E8 (hi : ∀ k ∈ i0 :: tl, k < 8) (hlen : (i0 :: tl).length <= 4) (hn : (i0 :: tl).Nodup) : vS j (tU M 2 (i0 :: tl) (rA (v5 M.L ((i0 :: tl).map M.n)))) := by
 have R := DE H (kind := 2) (told := rA (v5 M.L ((i0 :: tl).map M.n))) hi hlen
 cases tl with
 | nil => exact yM R (show (2 : Nat) ≠ 1 by decide) (cz _ _) rfl rfl
 | cons b tl =>
  refine rK R (sg (show (2 : Nat) ≠ 1 by decide) (vg (cz _ _) ?_ (tY R (cz _ _) λ k left => ?_)))
  ·exact (b7 _).trans ((cE _).trans (decide_eq_false (cH.mp hn).1))
  rw [if_neg nofun, show (tU M 2 (i0 :: b :: tl) (rA (v5 M.L ((i0 :: b :: tl).map M.n)))).lost = !there M (i0 :: b :: tl) from z7]
  have h2 : 2 <= (i0 :: b :: tl).length := cV _ _
  cases hth : there M (i0 :: b :: tl) with
  | false => exact tO rfl (congrArg rA (Gs H hi hn h2 hth))
  | true =>
   have e := congrArg rA (Gq H hi hn h2 hth)
   exact ue e (CJ R e rfl (JS H hi hth))
theorem FJ (hi : ∀ k ∈ i0 :: tl, k < 8) (hlen : (i0 :: tl).length <= 4) : vS j (tU M 3 (i0 :: tl) (rA (y9 M.L ((i0 :: tl).map M.n)))) := by
 by_cases hf : (i0 :: tl).length <= 2
 ·refine BD H (by decide) (by decide) ((cE _).trans (decide_eq_false (cC hf))) hi hlen (congrArg rA (if_pos ?_))
  rw [am]; exact hf
 ·have eo : y9 M.L ((i0 :: tl).map M.n) = oz M.L (tl.map M.n) [M.n i0] := if_neg (by rw [am]; exact hf)
  rw [eo]
  have hne : tl ≠ [] := λ e => hf (e ▸ (show 1 <= 2 by decide))
  have R := DE H (kind := 3) (told := rA (oz M.L (tl.map M.n) [M.n i0])) hi hlen
  refine rK R (sg (by decide : (3 : Nat) ≠ 1) ?_)
  rw [show (tU M 3 (i0 :: tl) (rA (oz M.L (tl.map M.n) [M.n i0]))).fold = true from (cE _).trans (decide_eq_true (eG hf))]
  refine vg (cz _ _) ?_ (tY R (cz _ _) λ k left => ?_)
  ·exact (a7 _).trans (decide_eq_false λ h => hf (a5 h))
  rw [if_pos rfl]
  obtain ⟨g1, g2⟩ := My H (kind := 3) (told := rA (oz M.L (tl.map M.n) [M.n i0])) hi hne (js hlen)
  show Wp _ (eR _ (m6 _ tl).2 _ _ _ _) _ _
  cases hl : (m6 (tU M 3 (i0 :: tl) (rA (oz M.L (tl.map M.n) [M.n i0]))) tl).2 with
  | true => exact tO rfl (congrArg rA (g1 hl))
  | false =>
   refine mL λ gk => ?_
   obtain ⟨sp, hs, hsp, hsl, O⟩ := g2 hl
   refine gk ?_
   exact ue (congrArg rA hs) (vQ R H.nnd (congrArg rA hs) hsp rfl hsl (by decide : (3 : Nat) ≠ 2) (λ _ => JH (j := j + 2) (F1 M (i0 :: tl) sp) (cz _ _) H.blen H.rlen (Cy H) hi hsl O) nofun)
theorem G2 (hk : kind <= 3) (hi : ∀ k ∈ ids, k < 8) (hne : ids ≠ []) (hlen : ids.length <= 4) (h1 : kind = 1 -> ∃ a b, ids = [a, b]) (h2 : kind = 2 -> ids.Nodup) : vS j (tU M kind ids (wG M.S M.sh M.L kind (ids.map M.n))) := by
 cases ids with
 | nil => exact absurd rfl hne
 | cons i0 tl =>
  rcases kind with _ | _ | _ | _ | k
  ·exact BD H (by decide) (by decide) rfl hi hlen rfl
  ·obtain ⟨a, b, e⟩ := h1 rfl
   rw [e] at hi |-
   exact GI H (hi a (.head _)) (hi b (.tail _ (.head _)))
  ·exact E8 H hi hlen (h2 rfl)
  ·exact FJ H hi hlen
  ·exact absurd hk (fR (aP (by decide : 3 < 4) (cV 4 k)))
theorem NZ : xY M.F M.S M.sh M.nm M.L := by
 refine ⟨λ c1 c2s h1 h2 hlen => ?_, λ c1 c2 m h1 h2 hs => ?_, λ c1 c2s l h1 h2 hlen hl => ?_⟩
 ·refine mL λ gk => ?_
  obtain ⟨i0, hi0, rfl⟩ := Bk H h1
  obtain ⟨tl, htl, rfl⟩ := IV H h2
  refine gk ?_
  exact Gp (DF (P := ⟨M.F, M.S, 0, M.sh, _, _⟩) (wR H (r9 H rfl rfl rfl rfl) rfl rfl hi0 htl (by rw [am] at hlen; exact hlen))) rfl
 ·obtain ⟨a, ha, rfl⟩ := Bk H h1
  obtain ⟨b, hb, rfl⟩ := Bk H h2
  have hm : m = M.sc * M.s a := by
   by_cases hp : M.In a
   ·exact bN (hs.symm.trans (H.Sin a hp))
   ·rw [xK H ha (eq_false_of_ne_true hp)] at hs; cases hs
  subst hm
  exact F6 (DF (P := ⟨M.F, M.S, M.sc * M.s a, M.sh, _, _⟩) (wR H (tl := [b]) (s6 H rfl rfl rfl rfl) rfl rfl ha (λ k hk => ae.mp hk ▸ hb) (by decide : 1 <= 100)))
 ·obtain ⟨i0, hi0, rfl⟩ := Bk H h1
  obtain ⟨tl, htl, rfl⟩ := IV H h2
  have hsp := r8 H hi0 htl (by rw [am] at hlen; exact hlen)
  cases hth : there M (i0 :: tl) with
  | false => rw [hsp.1 hth] at hl; cases hl
  | true =>
   obtain ⟨sp, hL, X⟩ := hsp.2 hth
   rw [hL] at hl
   cases hl
   refine ⟨by rw [am]; exact IY X, λ c hc => ?_⟩
   obtain ⟨k, hk, rfl⟩ := bp.mp hc
   exact AP H (X.lt k hk)
end
noncomputable abbrev rO (c : Int) (x : It) : It := (c * x.1, x.2)
structure M7 (P P' : LP) (c : Int) (D : Bs -> Prop) : Prop where
 pos : 0 < c
 c1 : P'.c1 = P.c1
 c2s : P'.c2s = P.c2s
 d1 : D P.c1
 d2 : ∀ x ∈ P.c2s, D x
 closed : ∀ x, D x -> ∀ p ∈ par P x, D p
 st : ∀ x, D x -> vW P'.S x = c * vW P.S x
 pars : ∀ x, D x -> (par P' x).Perm (par P x)
 nd : ∀ x, D x -> (par P x).Nodup
structure Rl (c : Int) (s s' : LS) : Prop where
 wl : s'.wl = s.wl.map (rO c)
 cs : ∀ x, s'.cs.lookup x = s.cs.lookup x
 cands : s'.cands = s.cands.map (rO c)
structure Gg (P : LP) (D : Bs -> Prop) (s : LS) : Prop where
 wl : ∀ y ∈ s.wl, y = key P y.2 /\ D y.2
 sorted : pw s.wl
section
variable {c : Int} {a b : Int} {x y : It} {l r : List It}
theorem Ag (h : 0 < c) : decide (c * a < c * b) = decide (a < b) := decide_eq_decide.mpr ⟨λ q => iX q (c9 h), λ q => iP q h⟩
theorem G5 (h : 0 < c) : pF (rO c x) (rO c y) = pF x y := by
 unfold pF
 dsimp only
 rw [Ag h, show (c * x.1 == c * y.1) = (x.1 == y.1) by rw [bI, beq_iff_eq, beq_iff_eq]; exact ⟨fA (eY h), congrArg _⟩]
theorem Er (h : 0 < c) : pD (rO c x) (l.map (rO c)) = (pD x l).map (rO c) := by
 induction l with
 | nil => rfl
 | cons y r ih =>
  show (if pF (rO c y) (rO c x) then rO c y :: pD (rO c x) (r.map (rO c)) else rO c x :: rO c y :: r.map (rO c)) = (if pF y x then y :: pD x r else x :: y :: r).map (rO c)
  rw [G5 h, ih]
  split <;> rfl
theorem D0 : pF x x = false := eq_false_of_ne_true λ h => Bool.noConfusion (h.symm.trans (o6 h))
theorem G7 (h : l.Perm r) (hl : pw l) (hr : pw r) : l = r := by
 induction l generalizing r with
 | nil => exact h.nil_eq
 | cons x a ih =>
  cases r with
  | nil => exact h.symm.nil_eq.symm
  | cons y b =>
   obtain ⟨a1, a2⟩ := bg.mp hl
   obtain ⟨b1, b2⟩ := bg.mp hr
   have e : x = y := xO ((ag.mp (h.mem_iff.mp (.head _))).elim (λ e => e ▸ D0) (b1 x)) ((ag.mp (h.mem_iff.mpr (.head _))).elim (λ e => e ▸ D0) (a1 y))
   subst e
   rw [ih (mw.cons_inv h) a2 b2]
theorem zj {a b : Cs} {x : Bs} (h : a.lookup x = b.lookup x) : look a x = look b x := congrArg (Option.getD · 0) h
theorem JR (h : 0 < c) {cs cs' : Cs} (hc : ∀ x, look cs' x = look cs x) : (l.map (rO c)).foldl (qA cs') (r.map (rO c)) = (l.foldl (qA cs) r).map (rO c) := by
 induction l generalizing r with
 | nil => rfl
 | cons x l ih =>
  rw [bE, bA, bA, <- ih]
  have hm : decide (rO c x ∈ r.map (rO c)) = decide (x ∈ r) := decide_eq_decide.mpr ⟨λ q => by
   obtain ⟨y, hy, e⟩ := bp.mp q
   obtain ⟨e1, e2⟩ := gV.mp e
   exact (show y = x from jz (fA (eY h) e1) e2) ▸ hy, λ q => bp.mpr ⟨x, q, rfl⟩⟩
  congr 1
  unfold qA
  rw [hm, show look cs' (rO c x).2 = look cs x.2 from hc x.2]
  split
  ·exact (bw (f := rO c) (l₁ := r) (l₂ := [x])).symm
  ·rfl
theorem GK (h : 0 < c) : qU (l.map (rO c)) = (qU l).map (rO c) := by
 have hg : ∀ i, (l.map (rO c)).getD i (0, []) = rO c (l.getD i (0, [])) := λ i => by
  rw [ao, ao, cj]
  cases l[i]? with
  | none => exact jz (Int.mul_zero c).symm rfl
  | some x => rfl
 unfold qU
 rw [am, bk]
 rw [show (λ i j => decide (((l.map (rO c)).getD i (0, [])).1 < ((l.map (rO c)).getD j (0, [])).1)) = λ i j => decide ((l.getD i (0, [])).1 < (l.getD j (0, [])).1) from funext λ i => funext λ j => by rw [hg, hg]; exact Ag h]
 exact ds λ i _ => hg i
end
section
variable {P P' : LP} {c : Int} {D : Bs -> Prop} {x : Bs} {fl n : Nat} {l : List Bs} {s s' : Cs × List It} {t t' : LS}
theorem De (H : M7 P P' c D) (hx : D x) : key P' x = rO c (key P x) := by
 unfold key
 rw [H.st x hx, <- mi]
theorem rP {p : Bs} : (nN P fl s p).1.lookup x = if look s.1 p &&& fl = fl then s.1.lookup x else if x = p then some (look s.1 p ||| fl) else s.1.lookup x := by
 unfold nN
 split
 ·rfl
 ·exact pg
theorem Ea : ((l.foldl (nN P fl) s).1.lookup x) = if x ∈ l /\ ¬ look s.1 x &&& fl = fl then some (look s.1 x ||| fl) else s.1.lookup x := by
 induction l generalizing s with
 | nil => exact (if_neg λ h => nomatch h.1).symm
 | cons p l ih =>
  rw [bA, ih, Ds, rP]
  by_cases hx : x = p
  ·subst hx
   rw [if_pos rfl, if_pos rfl]
   have hsub : (look s.1 x ||| fl) &&& fl = fl := cR λ i => by
    rw [aK, aZ]
    cases (look s.1 x).testBit i <;> cases fl.testBit i <;> rfl
   rw [if_neg λ h => h.2 hsub]
   by_cases hb : look s.1 x &&& fl = fl
   ·rw [if_pos hb, if_neg λ h => h.2 hb]
   ·rw [if_neg hb, if_pos ⟨.head _, hb⟩]
  ·rw [if_neg hx, if_neg hx, ite_self]
   exact ite_congr (propext (and_congr_left λ _ => (ag.trans (or_iff_right hx)).symm)) (λ _ => rfl) λ _ => rfl
theorem BA (hn : l.Nodup) : (l.foldl (nN P fl) s).2.Perm ((l.filter λ p => !((look s.1 p &&& fl) == fl)).map (key P) ++ s.2) := by
 induction l generalizing s with
 | nil => exact .refl _
 | cons p l ih =>
  obtain ⟨h1, h2⟩ := cH.mp hn
  refine (ih h2).trans ?_
  rw [show l.filter (λ q => !((look (nN P fl s p).1 q &&& fl) == fl)) = l.filter λ q => !((look s.1 q &&& fl) == fl) from gZ λ q hq => by rw [Ds, if_neg (λ e : q = p => h1 (e ▸ hq))], cw]
  by_cases hb : look s.1 p &&& fl = fl
  ·rw [show nN P fl s p = s from if_pos hb, beq_iff_eq.mpr hb]
   exact .refl _
  ·rw [show nN P fl s p = (pb s.1 p (look s.1 p ||| fl), pD (key P p) s.2) from if_neg hb, beq_eq_false_iff_ne.mpr hb]
   exact ((pu _ _).append_left _).trans kq
theorem Rl.look (h : Rl c t t') (x : Bs) : look t'.cs x = look t.cs x := zj (h.cs x)
theorem KD (H : M7 P P' c D) (hD : ∀ p ∈ l, D p) (h : s'.2 = s.2.map (rO c)) (hc : ∀ x, s'.1.lookup x = s.1.lookup x) : (l.foldl (nN P' fl) s').2 = (l.foldl (nN P fl) s).2.map (rO c) := by
 induction l generalizing s s' with
 | nil => exact h
 | cons p l ih =>
  refine ih (λ q hq => hD q (.tail _ hq)) ?_ λ x => ?_
  ·unfold nN
   rw [zj (hc p)]
   split
   ·exact h
   ·show pD (key P' p) s'.2 = (pD (key P p) s.2).map (rO c)
    rw [h, De H (hD p (.head _)), Er H.pos]
  ·rw [rP, rP, zj (hc p), hc x]
theorem JX {pr : Int} {wl : List It} (R : Rl c t t') : Rl c (nr t pr x wl) (nr t' (c * pr) x (wl.map (rO c))) := by
 unfold nr
 rw [R.look]
 split
 ·split
  ·exact ⟨rfl, R.cs, R.cands⟩
  ·refine ⟨rfl, λ y => ?_, ?_⟩
   ·dsimp only
    rw [pg, pg, R.cs]
   ·dsimp only
    rw [R.cands, bw, <- mi]; rfl
 ·exact ⟨rfl, R.cs, R.cands⟩
theorem Ie (H : M7 P P' c D) (R : Rl c t t') (T : Gg P D t) (hg : sP t = true) : Rl c (n9 P.F P.S P.mn t) (n9 P'.F P'.S P'.mn t') /\ Gg P D (n9 P.F P.S P.mn t) := by
 refine mL λ gk => ?_
 obtain ⟨pr, x, wl, hw⟩ := Es hg
 refine gk ?_
 have hx := (T.wl (pr, x) (hw ▸ .head _)).2
 have hm := JX (x := x) (pr := pr) (wl := wl) R
 have hsorted : pw (nr t pr x wl).wl := by rw [qN]; exact (bg.mp (hw ▸ T.sorted)).2
 have hwl : ∀ y ∈ (nr t pr x wl).wl, y = key P y.2 /\ D y.2 := by rw [qN]; exact λ y hy => T.wl y (hw ▸ .tail _ hy)
 have hfl : wO t'.cs x = wO t.cs x := by unfold wO; rw [R.look]
 rw [uP hw, uP (R.wl.trans (congrArg (e7 (rO c)) hw)), hfl]
 show Rl c _ (uD P' (wO t.cs x) (nr t' (c * pr) x (wl.map (rO c))) (par P' x)) /\ _
 generalize wO t.cs x = fl
 generalize nr t pr x wl = m at *
 generalize nr t' (c * pr) x (wl.map (rO c)) = m' at *
 have hsc : pw m'.wl := by
  rw [hm.wl]
  exact cf.mpr (hsorted.imp λ h => by rw [G5 H.pos]; exact h)
 refine ⟨⟨?_, λ y => ?_, hm.cands⟩, ⟨λ y hy => ?_, uv (s := (m.cs, m.wl)) hsorted⟩⟩
 ·have e1 : (uD P' fl m' (par P' x)).wl = (uD P' fl m' (par P x)).wl := G7 ((BA ((H.pars x hx).nodup_iff.mpr (H.nd x hx))).trans (mw.trans (mw.append_right _ (((H.pars x hx).filter _).map _)) (BA (H.nd x hx)).symm)) (uv (s := (m'.cs, m'.wl)) hsc) (uv (s := (m'.cs, m'.wl)) hsc)
  exact e1.trans (KD (s := (m.cs, m.wl)) (s' := (m'.cs, m'.wl)) H (H.closed x hx) hm.wl hm.cs)
 ·show (iF (nN P' fl) (m'.cs, m'.wl) (par P' x)).1.lookup y = (iF (nN P fl) (m.cs, m.wl) (par P x)).1.lookup y
  rw [Ea, Ea, hm.look, hm.cs]
  exact ite_congr (propext (and_congr_left λ _ => (H.pars x hx).mem_iff)) (λ _ => rfl) λ _ => rfl
 ·rcases AE (s := (m.cs, m.wl)) hy with h | ⟨p, h1, rfl, _⟩
  ·exact hwl y h
  ·exact ⟨rfl, H.closed x hx p h1⟩
theorem Ov (R : Rl c t t') : sP t' = sP t := by
 unfold sP
 rw [R.wl, List.any_map]
 congr 1
 funext x
 show (match t'.cs.lookup x.2 with | some i => !((i &&& 4) == 4) | none => false) = _
 rw [R.cs]
 try rfl
theorem JN (H : M7 P P' c D) (R : Rl c t t') (T : Gg P D t) : Rl c (uc sP (n9 P.F P.S P.mn) n t) (uc sP (n9 P'.F P'.S P'.mn) n t') := by
 induction n generalizing t t' with
 | zero => exact R
 | succ n ih =>
  show Rl c (if sP t then uc sP (n9 P.F P.S P.mn) n (n9 P.F P.S P.mn t) else t) (if sP t' then uc sP (n9 P'.F P'.S P'.mn) n (n9 P'.F P'.S P'.mn t') else t')
  rw [Ov R]
  split
  ·obtain ⟨h1, h2⟩ := Ie H R T ‹_›
   exact ih h1 h2
  ·exact R
theorem Ke (H : M7 P P' c D) (hD : ∀ x ∈ l, D x) (R : Rl c t t') (T : Gg P D t) : Rl c (l.foldl (qm P.S) t) (l.foldl (qm P'.S) t') /\ Gg P D (l.foldl (qm P.S) t) := by
 induction l generalizing t t' with
 | nil => exact ⟨R, T⟩
 | cons x l ih =>
  have hx := hD x (.head _)
  refine ih (λ x hx => hD x (.tail _ hx)) ⟨?_, λ y => ?_, R.cands⟩ ⟨λ y hy => ?_, tf _ T.sorted⟩
  ·show pD (key P' x) t'.wl = (pD (key P x) t.wl).map (rO c)
   rw [R.wl, De H hx, Er H.pos]
  ·show (pb t'.cs x (look t'.cs x ||| 2)).lookup y = (pb t.cs x (look t.cs x ||| 2)).lookup y
   rw [pg, pg, R.look, R.cs]
  ·rcases ag.mp ((pu _ _).mem_iff.mp hy) with rfl | hy
   ·exact ⟨rfl, hx⟩
   ·exact T.wl y hy
theorem KM (H : M7 P P' c D) : qq P' n = qq P n := by
 have g := Ke (t := u6 P) (t' := u6 P') H H.d2 ⟨congrArg (λ x => [x]) ((congrArg (key P') H.c1).trans (De H H.d1)), λ x => by unfold u6; rw [H.c1], rfl⟩ ⟨λ y hy => ae.mp hy ▸ ⟨rfl, H.d1⟩, bR _ _⟩
 have R := JN (n := n) H g.1 g.2
 delta qq xW pR
 rw [H.c2s, R.cands]
 show (qU ((e7 (rO c) _).foldl (qA _) (e7 (rO c) []))).map _ = _
 rw [JR H.pos R.look, GK H.pos, bk]; rfl
end
section
variable {L L' : rQ} {W : Bs -> Prop} {i : Nat} {a b c : Bs} {l acc r : List Bs} {ps all : List (Nat × Bs)}
structure Lo (L L' : rQ) (W : Bs -> Prop) : Prop where
 eq : ∀ a l, W a -> (∀ x ∈ l, W x) -> L' 0 a l = L 0 a l
 cl : ∀ a b r, W a -> W b -> L 0 a [b] = some r -> ∀ x ∈ r, W x
variable (E : Lo L L' W)
include E
theorem N6 (h : W b) : ∀ x ∈ [b], W x := λ x hx => ae.mp hx ▸ h
theorem zI (h : ∀ x ∈ l, W x) : zm L' l = zm L l := by
 match l with
 | [] => rfl
 | [_] => rfl
 | a :: b :: l => exact congrArg (λ o => if a ∈ b :: l then some [a] else o) (E.eq a (b :: l) (h a (.head _)) λ x hx => h x (.tail _ hx))
theorem AF (ha : W a) (h : ∀ p ∈ ps, W p.2) : ni L' i a ps = ni L i a ps := by
 induction ps with
 | nil => rfl
 | cons p ps ih =>
  show (if i = p.1 then ni L' i a ps else (zm L' [a, p.2]).bind λ m => if m == [a] then some false else ni L' i a ps) = if i = p.1 then ni L i a ps else (zm L [a, p.2]).bind λ m => if m == [a] then some false else ni L i a ps
  rw [ih λ q hq => h q (.tail _ hq), zI E λ x hx => (ag.mp hx).elim (λ e => e ▸ ha) λ hx => ae.mp hx ▸ h p (.head _)]
theorem AM (hall : ∀ p ∈ all, W p.2) (h : ∀ p ∈ ps, W p.2) : pK L' all ps acc = pK L all ps acc := by
 induction ps generalizing acc with
 | nil => rfl
 | cons p ps ih =>
  show (ni L' p.1 p.2 all).bind _ = (ni L p.1 p.2 all).bind _
  rw [AF E (h p (.head _)) hall]
  exact congrArg (lw _) (funext λ t => ih λ q hq => h q (.tail _ hq))
theorem GU (h : ∀ x ∈ l, W x) : v5 L' l = v5 L l := by
 have hp : ∀ p ∈ nM 0 l, W p.2 := λ p hp => h _ (xj hp).2
 exact congrArg (λ o => if l.length <= 1 then some l else o) (AM E hp hp)
theorem wW (hc : W c) (h : ∀ x ∈ l, W x) : oM L' c l acc = oM L c l acc /\ ((∀ x ∈ acc, W x) -> oM L c l acc = some r -> ∀ x ∈ r, W x) := by
 induction l generalizing acc with
 | nil => exact ⟨rfl, λ ha e => bN e ▸ ha⟩
 | cons a l ih =>
  have ih := λ acc => ih (acc := acc) λ q hq => h q (.tail _ hq)
  show (L' 0 c [a]).bind (λ m => oM L' c l (acc ++ m)) = (L 0 c [a]).bind (λ m => oM L c l (acc ++ m)) /\ (_ -> (L 0 c [a]).bind (λ m => oM L c l (acc ++ m)) = some r -> _)
  rw [E.eq c [a] hc (N6 E (h a (.head _)))]
  have cl := λ r => E.cl c a r hc (h a (.head _))
  revert cl
  cases L 0 c [a] with
  | none => exact λ _ => ⟨rfl, λ _ h => nomatch h⟩
  | some m => exact λ cl => ⟨(ih _).1, λ hacc => (ih _).2 λ x hx => (aX.mp hx).elim (hacc x) (cl m rfl x)⟩
theorem AC (h : ∀ x ∈ l, W x) (ha : ∀ x ∈ acc, W x) : oz L' l acc = oz L l acc := by
 induction l generalizing acc with
 | nil => rfl
 | cons c l ih =>
  have hc := h c (.head _)
  show (oM L' c acc []).bind _ = (oM L c acc []).bind _
  rw [(wW E (r := []) hc ha).1]
  have cl := λ r => (wW E (acc := []) (r := r) hc ha).2 nofun
  revert cl
  cases oM L c acc [] with
  | none => exact λ _ => rfl
  | some r => exact λ cl => ih (λ x hx => h x (.tail _ hx)) (cl r rfl)
theorem FA (hn : l ≠ []) (h : ∀ x ∈ l, W x) : y9 L' l = y9 L l := by
 cases l with
 | nil => exact absurd rfl hn
 | cons a l =>
  unfold y9
  rw [zI E h, AC E (l := (a :: l).drop 1) (acc := [(a :: l).headD []]) (λ x hx => h x (.tail _ hx)) (N6 E (h a (.head _)))]
end
structure Ll (M M' : ro) (D : Nat -> Prop) : Prop where
 nm : M'.nm = M.nm
 st : M'.st = M.st
 sc : M.sc = 1
 lt : ∀ k, D k -> k < 8
 here : ∀ k, D k -> M.In k /\ M'.In k
 same : ∀ k, D k -> ∀ e, rd M'.rs k e = rd M.rs k e
 closed : ∀ k, D k -> ∀ e, rd M.rs k e = true -> D e
section
variable {M M' : ro} (H : pS M) (H' : pS M') {D : Nat -> Prop} (A : Ll M M' D) {mn mn' : Int} {R R' ids tl : List Nat} {i0 kind a b k : Nat}
include H H' A
theorem GP (h0 : D i0) (ht : ∀ k ∈ tl, D k) (V : BQ M ⟨M.F, M.S, mn, M.sh, M.n i0, tl.map M.n⟩ R) (V' : BQ M' ⟨M'.F, M'.S, mn', M'.sh, M.n i0, tl.map M.n⟩ R') (hR : ∀ k, D k -> ∀ e, rd R' k e = rd R k e) :
  M'.L mn' (M.n i0) (tl.map M.n) = M.L mn (M.n i0) (tl.map M.n) := by
 have hn : ∀ k, M'.n k = M.n k := λ k => by unfold ro.n; rw [A.nm]
 have nd : ∀ {P : LP} {N : ro}, pS N -> P.F = N.F -> ∀ x, (par P x).Nodup := λ {P N} HN hF x => by
  unfold par
  rw [hF]
  cases h : N.F x with
  | none => exact .nil
  | some l => exact eJ eS (HN.Fnd x l h)
 have hS : ∀ k, D k -> (M.S (M.n k)).isSome = true /\ (M'.S (M.n k)).isSome = true := λ k hk => ⟨by rw [H.Sin k (A.here k hk).1]; rfl, by rw [<- hn, H'.Sin k (A.here k hk).2]; rfl⟩
 have hall : ∀ x ∈ M.n i0 :: tl.map M.n, ∃ k, D k /\ x = M.n k := λ x hx => by
  rcases ag.mp hx with rfl | hx
  ·exact ⟨i0, h0, rfl⟩
  ·obtain ⟨k, hk, rfl⟩ := bp.mp hx
   exact ⟨k, ht k hk, rfl⟩
 have S : M7 ⟨M.F, M.S, mn, M.sh, M.n i0, tl.map M.n⟩ ⟨M'.F, M'.S, mn', M'.sh, M.n i0, tl.map M.n⟩ M'.sc λ x => ∃ k, D k /\ x = M.n k := by
  refine ⟨H'.sc, rfl, rfl, ⟨i0, h0, rfl⟩, λ x hx => hall x (.tail _ hx), ?_, ?_, ?_, λ x _ => nd H rfl x⟩
  ·rintro x ⟨k, hk, rfl⟩ p hp
   obtain ⟨e, rfl, hr⟩ := (V.par k p (A.lt k hk)).mp hp
   exact ⟨e, A.closed k hk e (V.sub k e hr), rfl⟩
  ·rintro x ⟨k, hk, rfl⟩
   show vW M'.S (M.n k) = M'.sc * vW M.S (M.n k)
   rw [u9 H (A.here k hk).1, <- hn, u9 H' (A.here k hk).2, A.sc, mf]
   unfold ro.s
   rw [A.st]
  ·rintro x ⟨k, hk, rfl⟩
   refine (iD (nd H' rfl _) (nd H rfl _)).mpr λ p => ?_
   rw [V.par k p (A.lt k hk), <- hn k, V'.par k p (A.lt k hk)]
   exact exists_congr λ e => by rw [hn, hR k hk]
 refine (if_pos (aU.mpr λ x hx => ?_)).trans ((congrArg some (KM S)).trans (if_pos (aU.mpr λ x hx => ?_)).symm)
 ·obtain ⟨k, hk, rfl⟩ := hall x hx
  rw [(hS k hk).2]; rfl
 ·obtain ⟨k, hk, rfl⟩ := hall x hx
  rw [(hS k hk).1]; rfl
theorem Mb : Lo M.L M'.L λ x => ∃ k, D k /\ x = M.n k := by
 have ix : ∀ {l : List Bs}, (∀ x ∈ l, ∃ k, D k /\ x = M.n k) -> ∃ tl : List Nat, (∀ k ∈ tl, D k) /\ l = tl.map M.n := λ {l} h => by
  induction l with
  | nil => exact ⟨[], nofun, rfl⟩
  | cons x l ih =>
   obtain ⟨k, hk, rfl⟩ := h x (.head _)
   obtain ⟨tl, h1, rfl⟩ := ih λ y hy => h y (.tail _ hy)
   exact ⟨k :: tl, λ j hj => (ag.mp hj).elim (λ e => e ▸ hk) (h1 j), rfl⟩
 refine ⟨λ a l ha hl => ?_, λ a b r ha hb hr x hx => ?_⟩
 ·obtain ⟨i0, h0, rfl⟩ := ha
  obtain ⟨tl, ht, rfl⟩ := ix hl
  exact GP H H' A h0 ht (r9 H rfl rfl rfl rfl) (r9 H' rfl rfl rfl rfl) A.same
 ·obtain ⟨a, ha, rfl⟩ := ha
  obtain ⟨b, hb, rfl⟩ := hb
  have two : there M [a, b] = true := by
   unfold there
   rw [cm, cm, (A.here a ha).1, (A.here b hb).1]; rfl
  obtain ⟨sp, hL, X⟩ := (pq H (A.lt a ha) (A.lt b hb)).2 two
  rw [hL] at hr
  cases hr
  obtain ⟨k, hk, rfl⟩ := bp.mp hx
  have h := (X.com k hk).1
  clear hx hk hL two X
  induction h with
  | refl => exact ⟨_, ha, rfl⟩
  | step h1 _ ih => exact ih (A.closed _ ha _ h1)
theorem Lg (ha : D a) (hb : D b) : Cp M'.S M'.sh M'.L (M.n a) (M.n b) = Cp M.S M.sh M.L (M.n a) (M.n b) := by
 have e2 := H'.Sin a (A.here a ha).2
 have hn : M'.n a = M.n a := by unfold ro.n; rw [A.nm]
 have hL := GP H H' A (tl := [b]) ha (λ k hk => ae.mp hk ▸ hb) (s6 H (a := a) rfl rfl rfl rfl) (s6 H' (a := a) rfl rfl rfl rfl) λ k hk e => by rw [wd, wd, A.same k hk, A.st]
 rw [hn] at e2
 unfold Cp
 rw [H.Sin a (A.here a ha).1, e2]
 exact congrArg (λ o => if M.n a = M.n b then some true else Option.map (λ l => l == [M.n a]) o) hL
theorem FN (h : ∀ k ∈ ids, D k) (hne : ids ≠ []) (h1 : kind = 1 -> ∃ a b, ids = [a, b]) : wG M'.S M'.sh M'.L kind (ids.map M.n) = wG M.S M.sh M.L kind (ids.map M.n) := by
 have E := Mb H H' A
 have hW : ∀ x ∈ ids.map M.n, ∃ k, D k /\ x = M.n k := λ x hx => by
  obtain ⟨k, hk, rfl⟩ := bp.mp hx
  exact ⟨k, h k hk, rfl⟩
 unfold wG
 rw [zI E hW, GU E hW, FA E (λ e => hne (dr.mp e)) hW]
 by_cases k1 : kind = 1
 ·obtain ⟨a, b, rfl⟩ := h1 k1
  rw [show Cp M'.S M'.sh M'.L (([a, b].map M.n).getD 0 []) (([a, b].map M.n).getD 1 []) = _ from Lg H H' A (h a (.head _)) (h b (.tail _ (.head _)))]; rfl
 ·rw [if_neg k1, if_neg k1]
end
noncomputable def Fk (m : Nat) : List (Nat × Nat) := [(1, 2), (2, 3), (4, 1), (8, 4 + m)]
noncomputable abbrev L0 (f k : Nat) (p : Nat × Nat) : Bool := ((f + 5 * k) % 16 / p.1 % 2 == 1) && decide (p.2 <= k)
noncomputable def uM (f k : Nat) : List Nat := ((Fk (f / 16 % 3)).filter (L0 f k)).map λ p => k - p.2
noncomputable abbrev Bg (kin : List (List Nat)) : List PV := kin.map λ l => PV.list (zl l)
noncomputable def M6 (m1 : Bool) (i : Nat) : UInt8 := dh (if m1 then 122 - i else 97 + i)
structure Be (k : Nat) (el : List Nat) : Prop where
 nd : el.Nodup
 lt : ∀ e ∈ el, e < k
 len : el.length <= 4
structure Ge (m1 : Bool) (k : Nat) (nm : List Bs) (st cl : List Int) (kin : List (List Nat)) (ord : List Nat) : Prop where
 nlen : nm.length = k
 nform : ∀ i, i < k -> ∃ a, a < 101 /\ nm.getD i [] = [dh a, M6 m1 i]
 slen : st.length = k
 s0 : ∀ x ∈ st, 0 <= x
 clen : cl.length = k
 c0 : ∀ x ∈ cl, 0 <= x
 kilen : kin.length = k
 kin : ∀ i, Be i (kin.getD i [])
 olen : ord.length = k
 ond : ord.Nodup
 olt : ∀ x ∈ ord, x < k
section
variable {α : Type} {f k i p a : Nat} {l el ord : List Nat} {m1 : Bool} {nm : List Bs} {st cl : List Int} {kin : List (List Nat)} {s c m : Int}
theorem Bj : ∀ m < 3, ((Fk m).map (·.2)).Nodup /\ ∀ p ∈ Fk m, 0 < p.1 /\ 0 < p.2 := by decide
theorem DK {a b : Nat} (ha : a <= k) (hb : b <= k) (h : k - a = k - b) : a = b := by
 rw [<- ij ha, h, ij hb]
theorem ve : Be k (uM f k) := by
 obtain ⟨h1, h2⟩ := Bj _ (fY (f / 16) (by decide : 0 < 3))
 have hp : ∀ p ∈ (Fk (f / 16 % 3)).filter (L0 f k), 0 < p.2 /\ p.2 <= k := λ p hp => by
  obtain ⟨a, b⟩ := bF.mp hp
  exact ⟨(h2 p a).2, of_decide_eq_true (bL.mp b).2⟩
 refine ⟨?_, λ e he => ?_, ?_⟩
 ·exact bc.mpr (cf.mpr ((cf.mp (bc.mp (eJ (eS.map _) h1))).imp_of_mem λ ha hb h e => h (DK (hp _ ha).2 (hp _ hb).2 e)))
 ·obtain ⟨p, h, rfl⟩ := bp.mp he
  exact iK (aP (hp p h).1 (hp p h).2) (hp p h).1
 ·unfold uM
  rw [am]
  exact dH _ _
theorem J3 (h : l.Nodup) : (l.map λ e => 2 ^ e).sum = setN l := by
 induction l with
 | nil => rfl
 | cons a l ih =>
  obtain ⟨h1, h2⟩ := cH.mp h
  rw [bE, eH, ih h2, <- HJ (oB λ i hi => ?_)]
  ·refine cR λ i => ?_
   rw [aZ, bQ, nu, nu, <- lh]
   exact decide_eq_decide.mpr ((or_congr_left eq_comm).trans ag.symm)
  ·rw [aK, av, bQ, nu, decide_eq_true_iff, decide_eq_true_iff] at hi
   exact h1 (hi.1 ▸ hi.2)
theorem Iw : (l.map λ k => ((k : Nat) : Int)).sum = ((l.sum : Nat) : Int) := by
 induction l with
 | nil => rfl
 | cons a l ih => rw [bE, eH, eH, ih, lg]
theorem Jh {l : List Int} : m <= Cv m l := by
 induction l generalizing m with
 | nil => exact d5 _
 | cons a l ih =>
  refine ew ?_ ih
  split
  ·exact c9 ‹_›
  ·exact d5 _
theorem qK {α : Type} {l : List α} {d : α} (h : i < l.length) : l.getD i d ∈ l := cQ (oJ h)
theorem s8 {α : Type} {l : List α} {a d : α} : (l ++ [a]).getD i d = if i < l.length then l.getD i d else if i = l.length then a else d := by
 rw [ao]
 by_cases h1 : i < l.length
 ·rw [if_pos h1, iN h1, ao]
 ·rw [if_neg h1, iE (bJ h1)]
  by_cases h2 : i = l.length
  ·rw [if_pos h2, h2, jq]; rfl
  ·rw [if_neg h2]
   obtain ⟨j, hj⟩ := eK (Nat.sub_ne_zero_of_lt (dB (bJ h1) (Ne.symm h2)))
   rw [hj]; rfl
theorem qG {α : Type} {l : List α} {a : α} (h : l.length = k) : (l ++ [a]).length = k + 1 := aA.trans (congrArg ee h)
theorem uK {α : Type} {l : List α} {a : α} {P : α -> Prop} (h : ∀ x ∈ l, P x) (ha : P a) : ∀ x ∈ l ++ [a], P x := λ x hx => (aX.mp hx).elim (h x) λ hx => ae.mp hx ▸ ha
theorem Ge.zero : Ge m1 0 [] [] [] [] [] := ⟨rfl, nofun, rfl, nofun, rfl, nofun, rfl, λ i => ⟨.nil, nofun, bM _⟩, rfl, .nil, nofun⟩
theorem Ge.succ (B : Ge m1 k nm st cl kin ord) (ha : a < 101) (hs : 0 <= s) (hc : 0 <= c) (E : Be k el) : Ge m1 (k + 1) (nm ++ [[dh a, M6 m1 k]]) (st ++ [s]) (cl ++ [c]) (kin ++ [el]) (ord.take p ++ [k] ++ ord.drop p) := by
 have hperm : (ord.take p ++ [k] ++ ord.drop p).Perm (k :: ord) := by
  rw [bU]
  exact kq.trans (.of_eq (congrArg (k :: ·) (List.take_append_drop p ord)))
 refine ⟨qG B.nlen, λ i hi => ?_, qG B.slen, uK B.s0 hs, qG B.clen, uK B.c0 hc, qG B.kilen, λ i => ?_, hperm.length_eq.trans (congrArg ee B.olen), hperm.nodup_iff.mpr (cH.mpr ⟨λ h => gP k (B.olt k h), B.ond⟩), λ x hx => ?_⟩
 ·rw [s8, B.nlen]
  by_cases h1 : i < k
  ·rw [if_pos h1]; exact B.nform i h1
  ·have e := dF (br hi) (bJ h1)
   rw [if_neg h1, if_pos e, e]
   exact ⟨a, ha, rfl⟩
 ·rw [s8, B.kilen]
  split
  ·exact B.kin i
  ·split
   ·subst i; exact E
   ·exact ⟨.nil, nofun, bM _⟩
 ·rcases ag.mp (hperm.mem_iff.mp hx) with rfl | hx
  ·exact de _
  ·exact aL (B.olt x hx)
end
structure sx where
 nm : List Bs
 st : List Int
 kin : List (List Nat)
 ord : List Nat
 fs : List Nat
 hd : Int
 tot : Int
 sl : List Int
noncomputable def sx.ks (D : sx) : List Nat := D.kin.map setN ++ [0]
noncomputable abbrev sx.n (D : sx) (k : Nat) : Bs := D.nm.getD k []
noncomputable abbrev sx.k (D : sx) (k : Nat) : List Nat := D.kin.getD k []
structure qT (D : sx) : Prop where
 nlen : D.nm.length = 8
 nnd : D.nm.Nodup
 slen : D.st.length = 8
 s0 : ∀ k, 0 <= D.st.getD k 0
 kilen : D.kin.length = 7
 kin : ∀ k, Be k (D.k k)
 ond : D.ord.Nodup
 olt : ∀ x ∈ D.ord, x < 7
 flen : D.fs.length = 7
section
variable {m1 : Bool} {nm : List Bs} {st cl : List Int} {kin : List (List Nat)} {ord ord' fs sl : List Nat} {hd tot : Int}
theorem C9 {a b : Nat} (ha : a < 256) (hb : b < 256) (h : dh a = dh b) : a = b := by
 have := congrArg UInt8.toNat h
 rwa [jI, jI, kN ha, kN hb] at this
theorem Jo {i j : Nat} (hi : i < 7) (hj : j < 7) (h : M6 m1 i = M6 m1 j) : i = j := by
 cases m1 with
 | true => exact DK (k := 122) (ac (a5 hi) (by decide)) (ac (a5 hj) (by decide)) (C9 (ar (dz _ _) (by decide)) (ar (dz _ _) (by decide)) h)
 | false => exact Nat.add_left_cancel (C9 (aH (dS hi 97) (by decide)) (aH (dS hj 97) (by decide)) h)
theorem MR {sl : List Int} (B : Ge m1 7 nm st cl kin ord) (hfl : fs.length = 7) (h1 : ord'.Nodup) (h2 : ∀ x ∈ ord', x < 7) : qT ⟨nm ++ [[122, 122]], st ++ [0], kin, ord', fs, hd, tot, sl⟩ := by
 have hg : ∀ {i x}, nm[i]? = some x -> i < 7 /\ ∃ a, a < 101 /\ x = [dh a, M6 m1 i] := λ {i x} h => by
  have hi : i < 7 := B.nlen ▸ (bH.mp h).1
  obtain ⟨a, h1, h2⟩ := B.nform i hi
  exact ⟨hi, a, h1, (bN (h.symm.trans (oJ (B.nlen.symm ▸ hi)))).trans h2⟩
 refine ⟨qG B.nlen, cT.mpr ⟨?_, bR _ _, λ x hx y hy e => ?_⟩, qG B.slen, λ k => ?_, B.kilen, B.kin, h1, h2, hfl⟩
 ·rw [bc, iM]
  intro i j hi hj hij e
  obtain ⟨i7, a, a1, a2⟩ := hg (aF hi)
  obtain ⟨j7, b, b1, b2⟩ := hg (aF hj)
  rw [a2, b2] at e
  injection e with _ e
  injection e with e _
  exact aE hij (Jo i7 j7 e)
 ·obtain ⟨i, hi⟩ := gm hx
  obtain ⟨_, a, a1, a2⟩ := hg hi
  have hy := (a2.symm.trans e).trans (ae.mp hy)
  injection hy with e _
  exact aE (aH a1 (by decide)) (C9 (b := 122) (aH a1 (by decide)) (by decide) e)
 ·show 0 <= (st ++ [0]).getD k 0
  rw [s8]
  split
  ·exact B.s0 _ (qK ‹_›)
  ·split <;> exact d5 _
end
noncomputable def rsF (D : sx) (m k : Nat) : Nat := if m.testBit k then D.ks.getD k 0 &&& m else 0
noncomputable def u7 (D : sx) (d : List Nat) : List Nat := (az 8).map (rsF D (setN d))
noncomputable def vp (D : sx) (d : List Nat) : List (Bs × PV) := d.map λ c => (D.n c, PV.int (D.st.getD c 0))
noncomputable def sD (D : sx) (g : Nat -> List Nat) (d : List Nat) : List (Bs × PV) := d.map λ c => (D.n c, PV.list (zb ((g c).map D.n)))
structure w5 (D : sx) (d bl : List Nat) : Prop where
 len : bl.length = 8
 bits : ∀ k, k < 8 -> ∀ j, (bl.getD k 0).testBit j = true ↔ mR (u7 D d) k j
noncomputable abbrev aS (pr : Nat) (bl : List Nat) (a e : Nat) : Nat := if pr.testBit e then a ||| bl.getD e 0 else a
noncomputable def xx (pr : Nat) (bl : List Nat) (a : Nat) (es : List Nat) : Nat := es.foldl (aS pr bl) a
noncomputable def NL (b : List Nat) (c heirs : Nat) (p : List Nat) (k : Nat) : Nat := if k ∈ p /\ (b.getD k 0 &&& heirs) ≠ 0 then b.getD k 0 ||| b.getD c 0 else b.getD k 0
noncomputable def Aa (b : List Nat) (c heirs : Nat) (p : List Nat) : List Nat := (az 8).map (NL b c heirs p)
noncomputable abbrev su (D : sx) (d : List Nat) (c : Nat) : Nat := setN (d.filter λ k => (D.ks.getD k 0).testBit c)
section
variable {D : sx} (H : qT D) {d bl es p : List Nat} {c k e j pr a heirs v : Nat} {f : Nat -> Nat}
theorem qF (hk : k < 8) : ((az 8).map f).getD k 0 = f k := by
 rw [ao, cj, jL hk]; rfl
theorem E6 (hk : ¬ k < 8) : ((az 8).map f).getD k 0 = 0 := by
 rw [ao, bn (by rw [am, bh]; exact bJ hk)]; rfl
theorem o5 : ((az 8).map f).length = 8 := (am _).trans bh
theorem yv {l : List Nat} (h : l.length = 8) (hf : ∀ k, k < 8 -> l.getD k 0 = f k) : l = (az 8).map f := by
 refine j5 λ i => ?_
 by_cases hi : i < 8
 ·rw [oJ (d := 0) (h.symm ▸ hi), oJ (d := 0) (o5.symm ▸ hi), hf i hi, qF hi]
 ·rw [bn (h ▸ bJ hi), bn (by rw [o5]; exact bJ hi)]
theorem w7 {l : List Nat} (hc : c < l.length) : (l.set c v).getD k 0 = if k = c then v else l.getD k 0 := by
 rw [ao, d6]
 by_cases h : c = k
 ·subst h; rw [if_pos rfl, if_pos hc, if_pos rfl]; rfl
 ·rw [if_neg h, if_neg λ e => h e.symm, ao]
theorem Ik : (xx pr bl a es).testBit j = (a.testBit j || es.any λ e => pr.testBit e && (bl.getD e 0).testBit j) := by
 unfold xx
 induction es generalizing a with
 | nil => exact (a7 _).symm
 | cons e es ih =>
  rw [bA, ih, dG]
  unfold aS
  cases pr.testBit e with
  | false => rfl
  | true => rw [if_pos rfl, aZ, eI]; rfl
theorem K6 (h : bl.length = 8) : Aa bl c heirs [] = bl := (yv h λ k _ => (if_neg λ h => nomatch h.1).symm).symm
theorem Ic (hk : k < 8) (hkp : k ∉ p) : Aa bl c heirs (p ++ [k]) = if (bl.getD k 0 &&& heirs) != 0 then (Aa bl c heirs p).set k (bl.getD k 0 ||| bl.getD c 0) else Aa bl c heirs p := by
 refine (yv ?_ λ i hi => ?_).symm
 ·split
  ·exact dU.trans o5
  ·exact o5
 have hl : k < (Aa bl c heirs p).length := o5.symm ▸ hk
 have hm : i ∈ p ++ [k] ↔ i ∈ p \/ i = k := aX.trans (or_congr_right ae)
 unfold NL
 by_cases hik : i = k
 ·subst hik
  split
  ·rw [w7 hl, if_pos rfl, if_pos ⟨hm.mpr (.inr rfl), bne_iff_ne.mp ‹_›⟩]
  ·rw [Aa, qF hi, NL, if_neg λ h => hkp h.1, if_neg λ h => ‹¬ _› (bne_iff_ne.mpr h.2)]
 ·have e : ((Aa bl c heirs p).set k (bl.getD k 0 ||| bl.getD c 0)).getD i 0 = (Aa bl c heirs p).getD i 0 := by rw [w7 hl, if_neg hik]
  have e2 : (Aa bl c heirs p).getD i 0 = if i ∈ p ++ [k] /\ (bl.getD i 0 &&& heirs) ≠ 0 then bl.getD i 0 ||| bl.getD c 0 else bl.getD i 0 := by
   rw [Aa, qF hi]
   exact ite_congr (propext (and_congr_left λ _ => (hm.trans (or_iff_left hik)).symm)) (λ _ => rfl) λ _ => rfl
  split
  ·exact e.trans e2
  ·exact e2
include H
theorem B0 : D.ks.length = 8 := qG ((am _).trans H.kilen)
theorem y0 : (D.ks.getD k 0).testBit e = true ↔ e ∈ D.k k := by
 unfold sx.ks
 rw [s8, am]
 by_cases hk : k < D.kin.length
 ·rw [if_pos hk, ao, cj, oJ (d := []) hk]
  show (setN (D.k k)).testBit e = true ↔ _
  rw [nu, decide_eq_true_iff]
 ·have : D.k k = [] := by rw [sx.k, ao, bn (bJ hk)]; rfl
  rw [if_neg hk, ite_self, this, a8]
  exact ⟨nofun, nofun⟩
theorem oQ (hd : ∀ x ∈ d, x < 7) : rd (u7 D d) k e = true ↔ k ∈ d /\ e ∈ D.k k /\ e ∈ d := by
 unfold rd u7
 by_cases hk : k < 8
 ·rw [qF hk]
  unfold rsF
  rw [nu]
  by_cases hm : k ∈ d
  ·rw [if_pos (decide_eq_true hm), aK, av, y0 H, nu, decide_eq_true_iff]
   exact ⟨λ h => ⟨hm, h⟩, λ h => h.2⟩
  ·rw [if_neg λ h => hm (of_decide_eq_true h), a8]
   exact ⟨nofun, λ h => absurd h.1 hm⟩
 ·rw [E6 hk, a8]
  exact ⟨nofun, λ h => absurd (aL (hd k h.1)) hk⟩
theorem JB (hd : ∀ x ∈ d, x < 7) (hk : k ∉ d) : mR (u7 D d) k j ↔ j = k := by
 refine ⟨λ h => ?_, λ h => h ▸ .refl _⟩
 cases h with
 | refl => rfl
 | step hr _ => exact absurd ((oQ H hd).mp hr).1 hk
theorem Ij : w5 D [] ((az 8).map λ k => 2 ^ k) := ⟨o5, λ k hk j => by rw [qF hk, rS, JB H (d := []) (λ _ h => nomatch h) (λ h => nomatch h)]⟩
theorem xD (hd : ∀ x ∈ d ++ [c], x < 7) (h : mR (u7 D d) k j) : mR (u7 D (d ++ [c])) k j := h.mono λ hr => by
 obtain ⟨h1, h2, h3⟩ := (oQ H λ x hx => hd x (aC _ hx)).mp hr
 exact (oQ H hd).mpr ⟨aC _ h1, h2, aC _ h3⟩
theorem F2 (hd : ∀ x ∈ d ++ [c], x < 7) (h : mR (u7 D (d ++ [c])) k j) (hk : k < c) (hm : k ∈ d) : mR (u7 D d) k j := by
 induction h with
 | refl => exact .refl _
 | step hr _ ih =>
  obtain ⟨h1, h2, h3⟩ := (oQ H hd).mp hr
  have hlt := aH ((H.kin _).lt _ h2) hk
  have h3' := (aX.mp h3).resolve_right λ h => aE hlt (ae.mp h)
  exact .step ((oQ H λ x hx => hd x (aC _ hx)).mpr ⟨hm, h2, h3'⟩) (ih hlt h3')
theorem FI (hd : ∀ x ∈ d ++ [c], x < 7) : mR (u7 D (d ++ [c])) c j ↔ j = c \/ ∃ e ∈ D.k c, e ∈ d /\ mR (u7 D d) e j := by
 constructor
 ·intro h
  cases h with
  | refl => exact .inl rfl
  | step hr h =>
   obtain ⟨h1, h2, h3⟩ := (oQ H hd).mp hr
   have hlt := (H.kin _).lt _ h2
   have h3' := (aX.mp h3).resolve_right λ h => aE hlt (ae.mp h)
   exact .inr ⟨_, h2, h3', F2 H hd h hlt h3'⟩
 ·rintro (rfl | ⟨e, h1, h2, h3⟩)
  ·exact .refl _
  ·exact .step ((oQ H hd).mpr ⟨aq _ (.head _), h1, aC _ h2⟩) (xD H hd h3)
theorem EB (hd : ∀ x ∈ d ++ [c], x < 7) (hk : k ∈ d) : mR (u7 D (d ++ [c])) k j ↔ mR (u7 D d) k j \/ ((∃ h ∈ d, c ∈ D.k h /\ mR (u7 D d) k h) /\ mR (u7 D (d ++ [c])) c j) := by
 constructor
 ·intro h
  induction h with
  | refl => exact .inl (.refl _)
  | step hr h ih =>
   obtain ⟨h1, h2, h3⟩ := (oQ H hd).mp hr
   rcases aX.mp h3 with h3 | h3
   ·have hr' := (oQ H λ x hx => hd x (aC _ hx)).mpr ⟨hk, h2, h3⟩
    exact (ih h3).imp (.step hr') (by rintro ⟨⟨x, x1, x2, x3⟩, h5⟩; exact ⟨⟨x, x1, x2, .step hr' x3⟩, h5⟩)
   ·cases ae.mp h3
    exact .inr ⟨⟨_, hk, h2, .refl _⟩, h⟩
 ·rintro (h | ⟨⟨x, x1, x2, x3⟩, h⟩)
  ·exact xD H hd h
  ·exact (xD H hd x3).trans (.step ((oQ H hd).mpr ⟨aC _ x1, x2, aq _ (.head _)⟩) h)
theorem Bc (B : w5 D d bl) (hk : k < 8) : (bl.getD k 0 &&& su D d c) ≠ 0 ↔ ∃ h ∈ d, c ∈ D.k h /\ mR (u7 D d) k h := by
 have hb : ∀ i, (bl.getD k 0 &&& su D d c).testBit i = true ↔ mR (u7 D d) k i /\ i ∈ d /\ c ∈ D.k i := λ i => by
  rw [aK, av, B.bits k hk, nu, decide_eq_true_iff, bF, y0 H]
 constructor
 ·exact λ hne => bf λ hno => hne (oB λ i hi => hno ⟨i, ((hb i).mp hi).2.1, ((hb i).mp hi).2.2, ((hb i).mp hi).1⟩)
 ·rintro ⟨h, h1, h2, h3⟩ e
  have := (hb h).mpr ⟨h3, h1, h2⟩
  rw [e, a8] at this
  cases this
theorem KE (hd : ∀ x ∈ d ++ [c], x < 7) (hc : c ∉ d) (B : w5 D d bl) : w5 D (d ++ [c]) (Aa (bl.set c (xx (setN (d ++ [c])) bl (bl.getD c 0) (D.k c))) c (su D d c) d) := by
 have hd0 : ∀ x ∈ d, x < 7 := λ x hx => hd x (aC _ hx)
 have hc8 : c < 8 := aL (hd c (aq _ (.head _)))
 have hset : ∀ k, (bl.set c (xx (setN (d ++ [c])) bl (bl.getD c 0) (D.k c))).getD k 0 = if k = c then _ else bl.getD k 0 := λ k => w7 (B.len.symm ▸ hc8)
 have haccb : ∀ j, (xx (setN (d ++ [c])) bl (bl.getD c 0) (D.k c)).testBit j = true ↔ mR (u7 D (d ++ [c])) c j := λ j => by
  rw [Ik, FI H hd, bq, B.bits c hc8, JB H hd0 hc, cA]
  refine or_congr_right (exists_congr λ e => and_congr_right λ he => ?_)
  have hlt := (H.kin c).lt e he
  rw [av, nu, decide_eq_true_iff, B.bits e (aH hlt hc8)]
  exact and_congr_left λ _ => aX.trans (or_iff_left λ h => aE hlt (ae.mp h))
 refine ⟨o5, λ k hk j => ?_⟩
 rw [Aa, qF hk, NL, hset, hset c, if_pos rfl]
 by_cases hkc : k = c
 ·subst hkc
  rw [if_neg λ h => hc h.1, if_pos rfl]
  exact haccb j
 ·rw [if_neg hkc]
  by_cases hkd : k ∈ d
  ·rw [EB H hd hkd]
   by_cases hh : (bl.getD k 0 &&& su D d c) ≠ 0
   ·rw [if_pos ⟨hkd, hh⟩, aZ, bq, B.bits k hk, haccb]
    exact or_congr_right (iff_and_self.mpr λ _ => (Bc H B hk).mp hh)
   ·rw [if_neg λ h => hh h.2, B.bits k hk]
    exact (or_iff_left λ h => hh ((Bc H B hk).mpr h.1)).symm
  ·rw [if_neg λ h => hkd h.1, B.bits k hk, JB H hd0 hkd, JB H hd λ h => (aX.mp h).elim hkd λ h => hkc (ae.mp h)]
end
structure Cd (D : sx) (d : List Nat) (whole : Bool) (sh : Option Bool) : Prop where
 iff : whole = true ↔ ∀ k ∈ d, ∀ e ∈ D.k k, e ∈ d
 f : whole = false -> sh = some true
 t : whole = true -> sh ≠ some true
noncomputable def Ki (D : sx) (g : Nat -> List Nat) (d : List Nat) (x : Bs) : Option (List Bs) := (d.map λ c => (D.n c, (g c).map D.n)).lookup x
noncomputable def JG (D : sx) (m : Int) (d : List Nat) (x : Bs) : Option Int := (d.map λ c => (D.n c, m * D.st.getD c 0)).lookup x
noncomputable def vo (D : sx) (g : Nat -> List Nat) (m : Int) (d bl : List Nat) (whole : Bool) (sh : Option Bool) : ro := ⟨D.nm, D.st, setN d, D.k, u7 D d, bl, Ki D g d, JG D m d, m, sh, whole⟩
noncomputable abbrev sx.r (D : sx) (c : Nat) : List Nat := (D.k c).reverse
structure DV where
 kind : Nat
 ids : List Nat
 told : BU
 seen : List Nat
noncomputable def DV.pv (e : DV) : PV := .tuple [.int e.kind, .list (zl e.ids), e.told.pv, .list (zl e.seen)]
structure yE (kind : Nat) (ids : List Nat) : Prop where
 small : kind <= 3
 lt : ∀ k ∈ ids, k < 8
 ne : ids ≠ []
 len : ids.length <= 4
 two : kind = 1 -> ∃ a b, ids = [a, b]
 nd : kind = 2 -> ids.Nodup
noncomputable def ro.told (M : ro) (kind : Nat) (ids : List Nat) : BU := wG M.S M.sh M.L kind (ids.map M.n)
structure AY (D : sx) (e : DV) : Prop where
 ids : yE e.kind e.ids
 mom : ∃ d r bl whole sh, D.ord = d ++ r /\ w5 D d bl /\ Cd D d whole sh /\ e.told = (vo D D.k 1 d bl whole sh).told e.kind e.ids /\ e.seen = (e.ids.filter λ k => (setN d).testBit k).map λ k => bl.getD k 0
noncomputable def DN (ids : List Nat) : List Nat := ((nT 0 ids).filter λ p => !decide (p.2 ∈ ids.take p.1)).map (·.2)
section
variable {β γ : Type} {n : Nat -> Bs} {f : Nat -> β} {h : β -> γ} {d l pre : List Nat} {c : Nat} {x : Bs} {v : β}
theorem vI (hi : ∀ x ∈ d, n x = n c -> x = c) (hm : c ∈ d) : (d.map λ x => (n x, f x)).lookup (n c) = some (f c) := by
 induction d with
 | nil => cases hm
 | cons a d ih =>
  rw [bE, au]
  by_cases h : n c = n a
  ·rw [beq_iff_eq.mpr h, hi a (.head _) h.symm]
  ·rw [beq_eq_false_iff_ne.mpr h]
   exact ih (λ x hx => hi x (.tail _ hx)) ((ag.mp hm).resolve_left λ e => h (congrArg n e))
theorem uw (h : (d.map λ x => (n x, f x)).lookup x = some v) : ∃ k ∈ d, x = n k /\ v = f k := by
 induction d with
 | nil => cases h
 | cons a d ih =>
  rw [bE, au] at h
  by_cases e : x = n a
  ·rw [beq_iff_eq.mpr e] at h
   exact ⟨a, .head _, e, (bN h).symm⟩
  ·rw [beq_eq_false_iff_ne.mpr e] at h
   obtain ⟨k, hk, he⟩ := ih h
   exact ⟨k, .tail _ hk, he⟩
theorem xG (h : ∀ k ∈ d, x ≠ n k) : (d.map λ x => (n x, f x)).lookup x = none := by
 cases e : (d.map λ x => (n x, f x)).lookup x with
 | none => rfl
 | some v =>
  obtain ⟨k, hk, e, _⟩ := uw e
  exact absurd e (h k hk)
theorem tZ : (d.map λ c => (n c, h (f c))).lookup x = ((d.map λ c => (n c, f c)).lookup x).map h := by
 induction d with
 | nil => rfl
 | cons a d ih =>
  rw [bE, au, bE, au]
  cases x == n a with
  | true => rfl
  | false => exact ih
theorem C2 : (((nT pre.length l).filter λ p => !decide (p.2 ∈ (pre ++ l).take p.1)).map (·.2)).Nodup /\ ∀ x ∈ ((nT pre.length l).filter λ p => !decide (p.2 ∈ (pre ++ l).take p.1)).map (·.2), x ∉ pre /\ x ∈ l := by
 induction l generalizing pre with
 | nil => exact ⟨.nil, nofun⟩
 | cons a l ih =>
  have ih := ih (pre := pre ++ [a])
  rw [bU, aA] at ih
  obtain ⟨h1, h2⟩ := ih
  show ((((pre.length, a) :: nT (pre.length + 1) l).filter _).map _).Nodup /\ ∀ x ∈ (((pre.length, a) :: nT (pre.length + 1) l).filter _).map _, _
  rw [cw, iC]
  by_cases hm : a ∈ pre
  ·rw [decide_eq_true hm]
   exact ⟨h1, λ x hx => ⟨λ h => (h2 x hx).1 (aC _ h), .tail _ (h2 x hx).2⟩⟩
  ·rw [decide_eq_false hm]
   refine ⟨cH.mpr ⟨λ h => (h2 a h).1 (aq _ (.head _)), h1⟩, λ x hx => ?_⟩
   rcases ag.mp hx with rfl | hx
   ·exact ⟨hm, .head _⟩
   ·exact ⟨λ h => (h2 x hx).1 (aC _ h), .tail _ (h2 x hx).2⟩
theorem EN {m : Nat} : (nT m l).length = l.length := by
 induction l generalizing m with
 | nil => rfl
 | cons a l ih => exact congrArg ee ih
theorem EU (hi : ∀ k ∈ l, k < 8) (hl : l.length <= 4) (hne : l ≠ []) {m : Nat} (hm : m = 2 \/ m = 3) : yE 2 ((DN l).take m) := by
 obtain ⟨h1, h2⟩ := C2 (l := l) (pre := [])
 refine ⟨by decide, λ k hk => hi k (h2 k (dL hk)).2, ?_, ?_, nofun, λ _ => eJ (j3 _ _) h1⟩
 ·cases l with
  | nil => exact absurd rfl hne
  | cons a l => rcases hm with rfl | rfl <;> exact cz _ _
 ·refine ac (gG _ _) ?_
  rcases hm with rfl | rfl <;> decide
end
section
variable {D : sx} (H : qT D) {d bl : List Nat} {whole : Bool} {sh : Option Bool} {g : Nat -> List Nat} {m : Int} {i j : Nat}
include H
theorem zB (hi : i < 8) (hj : j < 8) (h : D.n i = D.n j) : i = j :=
 (gY (H.nlen.symm ▸ hi) H.nnd).mp (by rw [oJ (l := D.nm) (d := []) (H.nlen.symm ▸ hi), oJ (l := D.nm) (d := []) (H.nlen.symm ▸ hj)]; exact congrArg some h)
theorem zZ (hd : ∀ x ∈ d, x < 7) (B : w5 D d bl) (W : Cd D d whole sh) (hg : ∀ c, (g c).Perm (D.k c)) (hm : 0 < m) : pS (vo D g m d bl whole sh) := by
 have d8 : ∀ {x}, x ∈ d -> x < 8 := λ h => aL (hd _ h)
 have hinj : ∀ c, c ∈ d -> ∀ x ∈ d, D.n x = D.n c -> x = c := λ c hc x hx e => zB H (d8 hx) (d8 hc) e
 have hpr : ∀ k, (setN d).testBit k = true ↔ k ∈ d := λ k => by rw [nu, decide_eq_true_iff]
 constructor
 case nlen => exact H.nlen
 case nnd => exact H.nnd
 case slen => exact H.slen
 case s0 => exact H.s0
 case rlen => exact o5
 case blen => exact B.len
 case prlt => exact λ k hk => d8 ((hpr k).mp hk)
 case kinlt => exact λ k => (H.kin k).lt
 case roads => exact λ k e => (oQ H hd).trans (and_congr (hpr k).symm (and_congr_right λ _ => (hpr e).symm))
 case below => exact B.bits
 case Fin => exact λ k hk => ⟨g k, vI (hinj k ((hpr k).mp hk)) ((hpr k).mp hk), λ e => (hg k).mem_iff⟩
 case Fnd =>
  intro x l hl
  obtain ⟨c, hc, _, rfl⟩ := uw hl
  exact bc.mpr (cf.mpr ((bc.mp ((hg c).nodup_iff.mpr (H.kin c).nd)).imp_of_mem λ ha hb hab e => hab (zB H (aH ((H.kin c).lt _ ((hg c).mem_iff.mp ha)) (d8 hc)) (aH ((H.kin c).lt _ ((hg c).mem_iff.mp hb)) (d8 hc)) e)))
 case Fout => exact λ x hx => xG λ k hk => hx k ((hpr k).mpr hk)
 case Sin => exact λ k hk => vI (hinj k ((hpr k).mp hk)) ((hpr k).mp hk)
 case Sout => exact λ x hx => xG λ k hk => hx k ((hpr k).mpr hk)
 case sc => exact hm
 case whole => exact W.iff.trans ⟨λ h k hk e he => (hpr e).mpr (h k ((hpr k).mp hk) e he), λ h k hk e he => (hpr e).mp (h k ((hpr k).mpr hk) e he)⟩
 case shF => exact W.f
 case shT => exact W.t
theorem B7 (B : w5 D D.ord bl) (W : Cd D D.ord whole sh) {e : DV} (he : AY D e) (hs : e.seen = e.ids.map λ k => bl.getD k 0) : (vo D D.r 1000 D.ord bl whole sh).told e.kind e.ids = e.told := by
 obtain ⟨I, d, r, bl1, w1, s1, hdr, B1, W1, ht, hseen⟩ := he
 have ho7 := H.olt
 have hsub : ∀ x ∈ d, x ∈ D.ord := λ x hx => hdr ▸ aC _ hx
 have hd7 : ∀ x ∈ d, x < 7 := λ x hx => ho7 x (hsub x hx)
 have hfil : e.ids.filter (λ k => (setN d).testBit k) = e.ids := by
  have hl := congrArg gj (hseen.symm.trans hs)
  rw [am, am] at hl
  exact gI.mpr (List.length_filter_eq_length_iff.mp hl)
 have hin : ∀ k ∈ e.ids, k ∈ d := λ k hk => by
  have := gI.mp hfil k hk
  rwa [nu, decide_eq_true_iff] at this
 have hbl : ∀ k ∈ e.ids, bl1.getD k 0 = bl.getD k 0 := by
  rw [hfil] at hseen
  exact λ k hk => List.map_inj_left.mp (hseen.symm.trans hs) k hk
 have up : ∀ {a b}, mR (u7 D d) a b -> mR (u7 D D.ord) a b := λ h => h.mono λ hr => by
  obtain ⟨h1, h2, h3⟩ := (oQ H hd7).mp hr
  exact (oQ H ho7).mpr ⟨hsub _ h1, h2, hsub _ h3⟩
 have back : ∀ i ∈ e.ids, ∀ k, mR (u7 D D.ord) i k -> mR (u7 D d) i k := λ i hi k h => by
  rw [<- B1.bits i (I.lt i hi), hbl i hi, B.bits i (I.lt i hi)]; exact h
 have hmem : ∀ i ∈ e.ids, ∀ k, mR (u7 D d) i k -> k ∈ d := λ i hi k h => by
  rcases h.last with rfl | ⟨z, _, hz⟩
  ·exact hin i hi
  ·exact ((oQ H hd7).mp hz).2.2
 have A : Ll (vo D D.k 1 d bl1 w1 s1) (vo D D.r 1000 D.ord bl whole sh) λ k => ∃ i ∈ e.ids, mR (u7 D d) i k := by
  refine ⟨rfl, rfl, rfl, λ k ⟨i, hi, h⟩ => aL (hd7 k (hmem i hi k h)), λ k ⟨i, hi, h⟩ => ?_, λ k ⟨i, hi, h⟩ x => ?_, λ k ⟨i, hi, h⟩ x hr => ⟨i, hi, h.snoc hr⟩⟩
  ·have := hmem i hi k h
   show (setN d).testBit k = true /\ (setN D.ord).testBit k = true
   rw [nu, nu, decide_eq_true_iff, decide_eq_true_iff]
   exact ⟨this, hsub k this⟩
  ·show rd (u7 D D.ord) k x = rd (u7 D d) k x
   rw [bI, oQ H ho7, oQ H hd7]
   refine ⟨λ h1 => ⟨hmem i hi k h, h1.2.1, hmem i hi x (back i hi x ((up h).snoc ((oQ H ho7).mpr h1)))⟩, λ h1 => ⟨hsub _ h1.1, h1.2.1, hsub _ h1.2.2⟩⟩
 rw [ht]
 exact FN (zZ H hd7 B1 W1 (λ _ => .refl _) (by decide)) (zZ H ho7 B W (λ c => j4 _) (by decide)) A (λ k hk => ⟨k, hk, .refl _⟩) I.ne I.two
end
noncomputable def oW : List Str := (["script", "numbers", "head", "total", "mode", "shallow", "figures", "number", "rest", "k", "names", "stamps", "clocks", "kin", "kins", "order", "figure", "bits", "elders", "step", "e", "clock", "stamp", "place", "below", "roads", "asked", "present", "whole", "shut", "kin_of", "turned_of", "time_of", "fine_of", "t", "c", "heirs", "torn", "pick", "sides", "x", "y", "s", "kind", "ids", "row", "told", "seen", "again", "folk", "times", "turned"] : List String).map c6
noncomputable def rq : List Nat := [6, 10, 11, 12, 13, 14, 24, 26, 49, 50, 51]
noncomputable abbrev Fv := Nat -> Option PV
noncomputable def eN (f : Fv) : En := oW.zipIdx.map λ p => (p.1, f p.2)
noncomputable def upd (f : Fv) (i : Nat) (o : Option PV) (j : Nat) : Option PV := if (j == i) = true then o else f j
noncomputable abbrev KW : Ky := { sc := CU "law", ow := H8 "law", k := 9, exn := true, tb := some 182, cl := Gc D5 }
noncomputable abbrev bW (n : Nat) : List Stmt := (nE "law").body.drop n
noncomputable abbrev kB : Nat -> List Stmt := iB (bW 9)
noncomputable abbrev mB : Nat -> List Stmt := iB (bW 22)
noncomputable abbrev qB : Nat -> List Stmt := iB (mB 8)
noncomputable abbrev aB : Nat -> List Stmt := iB (bW 23)
noncomputable abbrev sF : Stmt := (iB (bW 6) 1).headD (.Pass default)
theorem D8 : oW.Nodup := by decide +kernel
theorem Kr : ∀ x ∈ oW, nQ KW.sc x = true := by decide +kernel
theorem JO : ∀ p ∈ oW.zipIdx, KW.ow.contains p.1 = rq.contains p.2 := by decide +kernel
theorem Hi (as : List (Str × PV)) : v6 (CU "law") as = oW.map λ x => (x, as.lookup x) := rfl
section
variable {L : List Str} {f : Fv} {x : Str} {v : PV} {e : Expr} {p q ap p1 p2 : Pos} {r : List Stmt} {Q : En -> Fl -> Prop} {l : List PV} {i n m a b : Nat} {kvs : List (Bs × PV)} {o : Option PV}
theorem Da (h : L.Nodup) (hx : L[i]? = some x) : ((L.zipIdx n).map λ p => (p.1, f p.2)).lookup x = some (f (n + i)) := by
 induction L generalizing n i with
 | nil => cases hx
 | cons y L ih =>
  obtain ⟨h1, h2⟩ := cH.mp h
  rw [List.zipIdx_cons, bE, au]
  cases i with
  | zero =>
   cases hx
   rw [beq_self_eq_true]; rfl
  | succ i =>
   rw [beq_eq_false_iff_ne.mpr λ e : x = y => h1 (e ▸ cQ hx)]
   exact (ih h2 hx).trans (by rw [bv]; rfl)
theorem rh (hx : oW[i]? = some x) : (eN f).set x v = eN (upd f i (some v)) := by
 unfold eN En.set En.put
 rw [bk]
 refine ds λ p hp => ?_
 have hp := List.mem_zipIdx_iff_getElem?.mp hp
 have e : (p.1 == x) = (p.2 == i) := by
  rw [bI, beq_iff_eq, beq_iff_eq]
  exact ⟨λ h => (gY (bH.mp hp).1 D8).mp (hp.trans (h ▸ hx.symm)), λ h => bN (hp.symm.trans (h ▸ hx))⟩
 show (if (p.1 == x) = true then (p.1, some v) else (p.1, f p.2)) = (p.1, if (p.2 == i) = true then some v else f p.2)
 rw [e]
 split <;> rfl
theorem ri (hx : oW[i]? = some x) : (eN f).get x = f i := by
 unfold eN En.get
 rw [Da D8 hx, cF]; rfl
theorem Jx {sc : Sc} (h : nQ sc x = true) : m9 sc x = true := by
 unfold nQ at h
 unfold m9
 rw [bq, beq_iff_eq, beq_iff_eq] at h
 rcases h with h | h <;> rw [h]
theorem rt (hx : oW[i]? = some x) : nQ KW.sc x = true := Kr x (cQ hx)
theorem LA (hx : oW[i]? = some x) : m9 KW.sc x = true := Jx (rt hx)
theorem qc (hx : oW[i]? = some x) : KW.ow.contains x = rq.contains i := JO (x, i) (List.mk_mem_zipIdx_iff_getElem?.mpr hx)
theorem nm (h : f i = some v) (hx : autoParam (oW[i]? = some x) tR) (h3 : autoParam (uN v = true) tR) : Ev KW (eN f) (.Name x p) v := ng (LA hx) ((ri hx).trans h) h3
theorem sV (h : f i = some v) (hx : autoParam (oW[i]? = some x) tR) (h3 : autoParam (uN v = true) tR) (ho : autoParam (rq.contains i = false) tR) : mO KW (eN f) (.Name x p) v := mO.of (congrArg not ((qc hx).trans ho)) (nm h hx h3)
theorem nf (i : Nat) (h : mO KW (eN f) e v) (g : Wp KW (eN (upd f i (some v))) r Q) (hx : autoParam (oW[i]? = some x) tR) (ho : autoParam (rq.contains i = false) tR) (hs : autoParam (∀ l env, swapsWith e (some (.Name x p)) l env = pure false) tF) : Wp KW (eN f) (.Assign [.Name x p] e q :: r) Q := mW h (rh hx ▸ g) hs (rt hx) ((qc hx).trans ho)
theorem rV (i : Nat) {elt : Expr} {gs : List Comprehension} {sc : Scope} {ys : List PV} (h : Lc KW (eN f) elt gs sc ys) (g : Wp KW (eN (upd f i (some (.list ys)))) r Q) (hx : autoParam (oW[i]? = some x) tR) : Wp KW (eN f) (.Assign [.Name x p] (.ListComp elt gs sc p1) q :: r) Q := mQ (rZ h (rt hx)) (rh hx ▸ g)
theorem Hm (i : Nat) (h : JV KW (eN f) e v) (g : Wp KW (eN (upd f i (some v))) r Q) (hx : autoParam (oW[i]? = some x) tR) (ho : autoParam (rq.contains i = true) tR) (hs : autoParam (∀ l env, swapsWith e (some (.Name x p)) l env = pure false) tF) : Wp KW (eN f) (.Assign [.Name x p] e q :: r) Q := mQ (tJ hs (rt hx) (.own ((qc hx).trans ho) h)) (rh hx ▸ g)
theorem Ci (hr : f i = some (.list l)) (h : mO KW (eN f) e v) (hc : l.length < cap) (g : Wp KW (eN (upd f i (some (.list (l ++ [v]))))) r Q) (hx : autoParam (oW[i]? = some x) tR) (ho : autoParam (rq.contains i = true) tR) (hn : autoParam (mU e) tF) (hl : autoParam ((ap.endLine == p.line) = true) tR) : Wp KW (eN f) (.Expr (.Call (.Attribute (.Name x p1) "append" ap) [e] [] p) q :: r) Q :=
 mQ (zO (rt hx) ((qc hx).trans ho) hl ((ri hx).trans hr) h (ac (aT aA) hc) hn) (rh hx ▸ g)
theorem KA (hr : f i = some (.dict kvs)) {k : Bs} {ix : Expr} (h1 : mO KW (eN f) e v) (h2 : Ev KW (eN f) ix (.bytes k)) (hc : (oE kvs k v).length <= cap) (g : Wp KW (eN (upd f i (some (.dict (oE kvs k v))))) r Q) (hx : autoParam (oW[i]? = some x) tR) (ho : autoParam (rq.contains i = true) tR) (hs : autoParam (∀ n env, swapsWith e (some (.Subscript (.Name x q) ix p2)) n env = pure false) tF) : Wp KW (eN f) (.Assign [.Subscript (.Name x q) ix p2] e p :: r) Q :=
 mQ (uS hs (rt hx) ((qc hx).trans ho) ((ri hx).trans hr) h1 h2 hc) (rh hx ▸ g)
theorem Kd (hr : f i = some (.list l)) {ix : Expr} (h1 : mO KW (eN f) e v) (h2 : Ev KW (eN f) ix (.int n)) (hc : n < l.length) (g : Wp KW (eN (upd f i (some (.list (l.set n v))))) r Q) (hx : autoParam (oW[i]? = some x) tR) (ho : autoParam (rq.contains i = true) tR) (hs : autoParam (∀ n env, swapsWith e (some (.Subscript (.Name x q) ix p2)) n env = pure false) tF) : Wp KW (eN f) (.Assign [.Subscript (.Name x q) ix p2] e p :: r) Q :=
 mQ (JL hs (rt hx) ((qc hx).trans ho) ((ri hx).trans hr) h1 h2 hc) (rh hx ▸ g)
theorem tW {α : Type} {t it : Expr} {b : List Stmt} {xs : List PV} (inj : α -> PV) (L : List α) (hL : xs = L.map inj) (I : List α -> List α -> Fv -> Prop) (h : xQ KW (eN f) it xs) (h0 : I [] L f) (hs : ∀ done a l f, done ++ a :: l = L -> I done (a :: l) f -> ∃ f0, sR KW t (inj a) (eN f) (eN f0) /\ Wp KW (eN f0) b (Au (λ ρ => ∃ f, ρ = eN f /\ I (done ++ [a]) l f) (tQ KW r Q)))
  (h1 : ∀ f, I L [] f -> Wp KW (eN f) r Q) (hi : autoParam (o7 KW.ow it = true) tR) (hf : autoParam (∀ env x, foldedSetIterable it env x = pure x) tF) (ht : autoParam (sr it = true -> BV t) tT) : Wp KW (eN f) (.For t it b [] p :: r) Q :=
 pW inj L hL (λ d l ρ => ∃ f, ρ = eN f /\ I d l f) h ⟨f, rfl, h0⟩ ((by
  rintro d a l ρ hd ⟨f, e, hI⟩
  subst e
  obtain ⟨f0, h1, h2⟩ := hs d a l f hd hI
  exact ⟨_, h1, h2⟩)) ((by rintro ρ ⟨f, e, hI⟩; exact e ▸ h1 f hI)) hi hf ht
theorem BO (i : Nat) (hx : autoParam (oW[i]? = some x) tR) (ho : autoParam (rq.contains i = false) tR) : sR KW (.Name x p) v (eN f) (eN (upd f i (some v))) := rh hx ▸ .one (by rw [rt hx, qc hx, ho]; rfl)
theorem xR {sc : Sc} {y : Str} {u : PV} (h : f i = some v) (hx : autoParam (oW[i]? = some x) tR) (h1 : autoParam (m9 sc x = true) tR) (h2 : autoParam ((sc.lookup x != some .local) = true) tR) (h3 : autoParam ((x == y) = false) tR) (h4 : autoParam (uN v = true) tR) : Ev (KW.to sc) ((y, some u) :: cut sc (eN f)) (.Name x p) v := by
 refine ng h1 ?_ h4
 unfold En.get
 rw [au, h3]
 have : ∀ ρ : En, (cut sc ρ).lookup x = ρ.lookup x := λ ρ => by
  unfold cut
  induction ρ with
  | nil => rfl
  | cons p ρ ih =>
   rw [cw, au]
   by_cases e : x = p.1
   ·subst e
    rw [if_pos h2, au, beq_self_eq_true]
   ·rw [beq_eq_false_iff_ne.mpr e]
    split
    ·rw [au, beq_eq_false_iff_ne.mpr e]; exact ih
    ·exact ih
 show ((cut sc (eN f)).lookup x).join = _
 rw [this]
 exact (ri hx).trans h
theorem qb : Bo .Add (.int a) (.int b) (.int ((a + b : Nat) : Int)) := lg a b ▸ ua
theorem ww (h : a < 2 ^ 64) : Bo .Mult (.int a) (.int b) (.int ((a * b : Nat) : Int)) := Int.natCast_mul a b ▸ CN (.inl h)
theorem sa (h : 0 < b) (h2 : b < 1073741824) : Bo .FloorDiv (.int a) (.int b) (.int ((a / b : Nat) : Int)) := (iQ (a : Int) (bC b)).trans (kQ a b).symm ▸ sj (eY (dW.mpr h)) h2
theorem rT {i : Int} (h : 0 < b) {k : Nat} (e : i.fmod b = k) : Bo .Mod (.int i) (.int b) (.int k) := e ▸ vL (eY (dW.mpr h))
theorem r7 (h : 0 < b) : Bo .Mod (.int a) (.int b) (.int ((a % b : Nat) : Int)) := rT h ((Int.fmod_eq_emod_of_nonneg _ (bC b)).trans (Int.natCast_emod a b).symm)
theorem wn (h : b <= a) : Bo .Sub (.int a) (.int b) (.int ((a - b : Nat) : Int)) := i6 h ▸ zh
theorem JT : Co .GtE (.int a) (.int b) (decide (b <= a)) := (show decide ((a : Int) >= (b : Int)) = decide (b <= a) from decide_eq_decide.mpr eh) ▸ Lk
theorem rG (x : Int) {m : Nat} (hm : 0 < m) : ∃ i : Nat, i < m /\ x.fmod m = (i : Int) := by
 have h1 : 0 <= x.fmod (m : Int) := Int.fmod_nonneg_of_pos x (dW.mpr hm)
 have h2 : x.fmod (m : Int) < m := Int.fmod_lt_of_pos x (dW.mpr hm)
 obtain ⟨i, e⟩ := Int.eq_ofNat_of_zero_le h1
 exact ⟨i, ef.mp (e ▸ h2), e⟩
theorem qa {K : Ky} {ρ : En} {α : Type} {g : α -> PV} {l : List α} {hi : Expr} (h : Ev K ρ e (.list (l.map g))) (h2 : Ev K ρ hi (.int n)) : Ev K ρ (.Subscript e (.Slice none (some hi) none q) p) (.list ((l.take n).map g)) := (lx (f := g) (l := l) (i := n)) ▸ sH (i := none) (j := some n) h .none (.some h2)
theorem Jp {K : Ky} {ρ : En} {α : Type} {g : α -> PV} {l : List α} {lo : Expr} (h : Ev K ρ e (.list (l.map g))) (h2 : Ev K ρ lo (.int n)) : Ev K ρ (.Subscript e (.Slice (some lo) none none q) p) (.list ((l.drop n).map g)) := (ly (f := g) (l := l) (i := n)) ▸ sH (i := some n) (j := none) h (.some h2) .none
end
structure zA (f : Fv) (ns : List Int) (hd tot : Int) (sw : Bool) : Prop where
 script : f 0 = some (.list (zi ns))
 head : f 2 = some (.int hd)
 total : f 3 = some (.int tot)
 mode : f 4 = some (.int (hd.fmod 4))
 shallow : f 5 = some (.bool sw)
section
variable {f : Fv} {ns : List Int} {hd tot : Int} {sw : Bool} {Q : En -> Fl -> Prop} {fs : List Nat}
theorem J0 (hf : f 0 = some (.list (zi ns))) (h : ∀ f hd tot sw, zA f ns hd tot sw -> f 1 = some (.list (zi (ns.take 24))) -> f 6 = some (.list (zl [])) -> Wp KW (eN f) (bW 6) Q) : Wp KW (eN f) (bW 0) Q := by
 show Wp KW _ (_ :: _ :: _ :: _ :: _ :: _ :: bW 6) _
 refine nf 1 (mO.of rfl (qa (nm hf) mt)) ?_
 have hh : ∃ hd : Int, ∀ {p1 p2 p3 p4 p5 p6 : Pos} {n1 n2 : Nat}, Ev KW (eN (upd f 1 (some (.list (zi (ns.take 24)))))) (.IfExp (.Name "numbers" p1) (.Subscript (.Name "numbers" p2) (.Constant (.int 0) n1 p3) p4) (.Constant (.int 0) n2 p5) p6) (.int hd) := by
  cases ns.take 24 with
  | nil => exact ⟨0, λ {_ _ _ _ _ _ _ _} => rm (x := false) (nv (λ _ _ => rfl) (nm (i := 1) rfl) qr) nofun λ _ => mO.of rfl mt⟩
  | cons a l => exact ⟨a, λ {_ _ _ _ _ _ _ _} => rm (x := true) (nv (λ _ _ => rfl) (nm (i := 1) rfl) qr) (λ _ => mO.of rfl (mT (nm (i := 1) rfl) mt qX)) nofun⟩
 obtain ⟨hd, hh⟩ := hh
 refine nf 2 (mO.of rfl hh) (nf 3 (mO.of rfl (ui rfl rfl (.cons (nm (i := 1) rfl) .nil) He)) (nf 4 (mO.of rfl (mJ (nm (i := 2) rfl) mt (vL (by decide)))) (nf 5 (mO.of rfl (oA (mJ (mJ (nm (i := 2) rfl) mt (sj (by decide) (by decide))) mt (vL (by decide))) mt (oR (.int _ 1)))) (Hm 6 (tv nJ.nil (by decide)) (@h _ _ _ _ ⟨hf, rfl, rfl, rfl, rfl⟩ rfl rfl)))))
theorem Fw {n : Nat} (hl : fs.length + n = 7) (h4 : ∀ x ∈ fs, x < 4096) {i : Int} (H : zA f ns hd tot sw) (h1 : f 6 = some (.list (zl fs))) (h2 : f 8 = some (.int i))
  (hQ : ∀ f fs, zA f ns hd tot sw -> f 6 = some (.list (zl fs)) -> fs.length <= 7 -> (∀ x ∈ fs, x < 4096) -> Q (eN f) .next) : Nt KW (eN f) (sT sF) (sB sF) Q := by
 induction n generalizing f fs i with
 | zero => exact CF (.of ((show decide ((fs.length : Int) < 7) = false from decide_eq_false (dE.mpr (eh.mpr (aT hl.symm)))) ▸ mM (nH rfl (nm h1)) mt AZ)) (hQ f fs H h1 (aT hl) h4)
 | succ n ih =>
  have hlt : fs.length < 7 := j2 (ja (b9 n)) hl
  obtain ⟨g, hg, eg⟩ := rG i (by decide : 0 < 4096)
  have e1 : (fs ++ [g]).length + n = 7 := by rw [aA]; exact (bv _ _ _).trans hl
  have e4 : ∀ x ∈ fs ++ [g], x < 4096 := uK h4 hg
  have es : zl fs ++ [.int (g : Nat)] = zl (fs ++ [g]) := (bw (l₁ := fs) (l₂ := [g])).symm
  refine DW (.of ((show decide ((fs.length : Int) < 7) = true from decide_eq_true (ef.mpr hlt)) ▸ mM (nH rfl (nm h1)) mt AZ)) ?_
  refine Ci h1 (mO.of rfl (mJ (nm h2) mt (rT (by decide) eg))) (by rw [am]; exact aH hlt (by decide)) ?_
  rw [es]
  refine nf 8 (mO.of rfl (mJ (nm (i := 8) h2) mt (sj (by decide) (by decide)))) ?_
  refine mV (sq (.cons (mM (nm (i := 8) rfl) mt (oR (.int _ 0))) λ _ => .one (mM (nm (i := 8) rfl) (zk mt) (oR (.int _ _))))) (λ _ => po IC (λ _ _ _ => rfl) ?_) (λ _ => mK (mK ?_))
  ·exact hQ _ _ ⟨H.1, H.2, H.3, H.4, H.5⟩ rfl (ac (aV _ n) (aT e1)) e4
  ·exact ih e1 e4 ⟨H.1, H.2, H.3, H.4, H.5⟩ rfl rfl
theorem JU (H : zA f ns hd tot sw) (hn : f 1 = some (.list (zi (ns.take 24)))) (hf : f 6 = some (.list (zl []))) (h : ∀ f fs, zA f ns hd tot sw -> f 6 = some (.list (zl fs)) -> fs.length = 7 -> (∀ x ∈ fs, x < 4096) -> Wp KW (eN f) (bW 8) Q) : Wp KW (eN f) (bW 6) Q := by
 show Wp KW _ (_ :: _ :: bW 8) _
 refine tW PV.int (ns.take 24) rfl (λ d l f => zA f ns hd tot sw /\ ∃ fs, f 6 = some (.list (zl fs)) /\ fs.length <= 7 /\ ∀ x ∈ fs, x < 4096) (mY (nm hn)) ⟨H, [], hf, by decide, nofun⟩ (λ d i l f hd ⟨H, fs, h1, h2, h3⟩ => ⟨_, BO 7, ?_⟩) λ f ⟨H, fs, h1, h2, h3⟩ => ?_
 ·refine nf 8 (sV (i := 7) rfl) (qj (Bn (Fw (cX h2) h3 ⟨H.1, H.2, H.3, H.4, H.5⟩ h1 rfl λ f' fs' H' a b c => mK ?_)))
  exact ⟨f', rfl, H', fs', a, b, c⟩
 ·have hn : (7 : Int) - (fs.length : Nat) = ((7 - fs.length : Nat) : Int) := (i6 h2).symm
  have er : zl (dK (7 - fs.length) 0) = (az (7 - fs.length)).map λ _ => PV.int ((0 : Nat) : Int) := by rw [List.map_const', bh, zl, List.map_replicate]
  refine Hm 6 (MF (nm h1) (n8 (oU (ys := zl (dK (7 - fs.length) 0)) pV (λ _ => pV 0) (az (7 - fs.length)) (o9 rfl (hn ▸ mJ mt (nH rfl (nm h1)) zh) (ac (dz _ _) (by decide))) rfl (by rw [bh]; exact ac (dz _ _) (by decide)) er λ k hk => ⟨_, .one, mO.of rfl mt⟩)) ?_) ?_
  ·rw [aA, am, am, jv, cX h2]; decide
  rw [show zl fs ++ zl (dK (7 - fs.length) 0) = zl (fs ++ dK (7 - fs.length) 0) from bw.symm]
  have l1 : (fs ++ dK (7 - fs.length) 0).length = 7 := by rw [aA, jv, cX h2]
  have l2 : ∀ x ∈ fs ++ dK (7 - fs.length) 0, x < 4096 := λ x hx => (aX.mp hx).elim (h3 x) λ hx => by rw [(List.mem_replicate.mp hx).2]; decide
  generalize fs ++ dK (7 - fs.length) 0 = gs at l1 l2
  exact @h _ gs ⟨H.1, H.2, H.3, H.4, H.5⟩ rfl l1 l2
end
structure uI (f : Fv) (ns : List Int) (hd tot : Int) (sw : Bool) (fs : List Nat) (na : List Bs) (st cl : List Int) (kin : List (List Nat)) (ord : List Nat) : Prop where
 H : zA f ns hd tot sw
 f6 : f 6 = some (.list (zl fs))
 f10 : f 10 = some (.list (zb na))
 f11 : f 11 = some (.list (zi st))
 f12 : f 12 = some (.list (zi cl))
 f13 : f 13 = some (.list (Bg kin))
 f14 : f 14 = some (.list (kin.map λ l => PV.int (setN l : Nat)))
 f15 : f 15 = some (.list (zl ord))
noncomputable def stepN (f k : Nat) : Nat := (f / 16 + f * k + 3 * k) % 8
section
variable {f : Fv} {ns : List Int} {hd tot : Int} {sw : Bool} {fs : List Nat} {na : List Bs} {st cl : List Int} {kin : List (List Nat)} {ord : List Nat} {k : Nat} {Q : En -> Fl -> Prop}
noncomputable def NY (i : Nat) (f f' : Fv) : Prop := ∀ j, (j == i) = false -> f' j = f j
theorem mX {i j : Nat} {o : Option PV} (h : (j == i) = false) : upd f i o j = f j := if_neg (by rw [h]; exact nofun)
theorem uI.only {f' : Fv} {i : Nat} (B : uI f ns hd tot sw fs na st cl kin ord) (o : NY i f f') (h : autoParam (∀ j ∈ [0, 2, 3, 4, 5, 6, 10, 11, 12, 13, 14, 15], (j == i) = false) tD) : uI f' ns hd tot sw fs na st cl kin ord :=
 have e : ∀ j ∈ [0, 2, 3, 4, 5, 6, 10, 11, 12, 13, 14, 15], f' j = f j := λ j hj => o j (h j hj)
 ⟨⟨(e 0 (by decide)).trans B.H.1, (e 2 (by decide)).trans B.H.2, (e 3 (by decide)).trans B.H.3, (e 4 (by decide)).trans B.H.4, (e 5 (by decide)).trans B.H.5⟩, (e 6 (by decide)).trans B.2, (e 10 (by decide)).trans B.3, (e 11 (by decide)).trans B.4, (e 12 (by decide)).trans B.5, (e 13 (by decide)).trans B.6, (e 14 (by decide)).trans B.7, (e 15 (by decide)).trans B.8⟩
theorem uI.mono {i : Nat} {o : Option PV} (B : uI f ns hd tot sw fs na st cl kin ord) (h : autoParam (∀ j ∈ [0, 2, 3, 4, 5, 6, 10, 11, 12, 13, 14, 15], (j == i) = false) tD) : uI (upd f i o) ns hd tot sw fs na st cl kin ord := B.only (λ _ => mX) h
noncomputable def Os (m : Nat) : List PV := [.tuple [.int 1, .int 2], .tuple [.int 2, .int 3], .tuple [.int 4, .int 1], .tuple [.int 8, .int ((4 + m : Nat) : Int)]]
theorem CI {K : Ky} {ρ : En} {a b : Int} {n1 n2 n : Nat} {p1 p2 p : Pos} {es : List Expr} {vs : List PV} (h : nJ K ρ es vs) : nJ K ρ (.Tuple [.Constant (.int a) n1 p1, .Constant (.int b) n2 p2] n p :: es) (.tuple [.int a, .int b] :: vs) := .cons (mO.of rfl (tK (.cons (mO.of rfl mt) (.cons (mO.of rfl mt) .nil)) (show 2 <= cap by decide))) h
theorem N0 {g : Nat} (h9 : f 9 = some (.int k)) (h6 : f 16 = some (.int g)) (h7 : f 17 = some (.int ((g + 5 * k) % 16 : Nat))) (h : Wp KW (eN (upd f 18 (some (.list (zl (uM g k)))))) (kB 3) Q) : Wp KW (eN f) (kB 2) Q := by
 show Wp KW _ (_ :: kB 3) _
 refine rV 18 (nF (xs := Os (g / 16 % 3)) (ys := zl (uM g k)) (λ p : Nat × Nat => PV.tuple [.int p.1, .int p.2]) (L0 g k) (λ p => PV.int ((k - p.2 : Nat) : Int)) (Fk (g / 16 % 3)) ?_ rfl (show 4 <= cap by decide) bk (λ p hp => ⟨_, .two, .one (pN (.cons (mM (mJ (mJ (ng rfl h7 rfl) (en rfl) (sa ?_ ?_)) mt (r7 (b := 2) (by decide))) mt (nR (b := 1))) λ _ => .one (mM (ng rfl h9 rfl) (en rfl) JT))), λ hc => mO.of rfl (mJ (ng rfl h9 rfl) (en rfl) (wn (of_decide_eq_true (bL.mp hc).2)))⟩) (by decide +kernel)) h
 ·refine Gj ?_ ?_
  ·decide +kernel
  refine tK ?_ ?_
  ·refine CI (CI (CI ?_))
   exact .cons (mO.of rfl (tK (nJ.cons (mO.of rfl mt) (nJ.cons (mO.of rfl (mJ mt (mJ (mJ (nm h6) mt (sa (b := 16) (by decide) (by decide))) mt (r7 (b := 3) (by decide))) (qb (a := 4)))) nJ.nil)) (show 2 <= cap by decide))) nJ.nil
  ·exact (show 4 <= cap by decide)
 ·exact ((Bj _ (fY _ (by decide))).2 p hp).1
 ·have : ∀ m < 3, ∀ p ∈ Fk m, p.1 < 1073741824 := by decide
  exact this _ (fY _ (by decide)) p hp
theorem NG (B : uI f ns hd tot sw fs na st cl kin ord) (hfl : fs.length = 7) (hf : ∀ x ∈ fs, x < 4096) (hk : k < 7) (h9 : f 9 = some (.int k))
  (h : ∀ (f : Fv) (g : Nat), g < 4096 -> uI f ns hd tot sw fs na st cl kin ord -> f 9 = some (.int k) -> f 16 = some (.int g) -> f 18 = some (.list (zl (uM g k))) -> f 19 = some (.int (stepN g k : Nat)) -> Wp KW (eN f) (kB 4) Q) : Wp KW (eN f) (kB 0) Q := by
 show Wp KW _ (_ :: _ :: kB 2) _
 have hlt : k < fs.length := hfl.symm ▸ hk
 have hg := hf _ (qK (d := 0) hlt)
 refine nf 16 (mO.of rfl (mT (nm B.f6) (nm h9) (m5 hlt))) ?_
 generalize fs.getD k 0 = g at hg
 refine nf 17 (mO.of rfl (mJ (mJ (nm (i := 16) rfl) (mJ mt (nm (i := 9) h9) (ww (a := 5) (by decide))) qb) mt (r7 (b := 16) (by decide)))) ?_
 refine N0 h9 rfl rfl ?_
 show Wp KW _ (_ :: kB 4) _
 refine nf 19 (mO.of rfl (mJ (mJ (mJ (mJ (nm (i := 16) rfl) mt (sa (b := 16) (by decide) (by decide))) (mJ (nm (i := 16) rfl) (nm (i := 9) h9) (ww (aH hg (by decide)))) qb) (mJ mt (nm (i := 9) h9) (ww (a := 3) (by decide))) qb) mt (r7 (b := 8) (by decide)))) ?_
 exact @h _ g hg B.mono.mono.mono.mono h9 rfl rfl rfl
end
section
variable {f : Fv} {ns : List Int} {hd tot : Int} {sw : Bool} {fs el : List Nat} {na : List Bs} {st cl : List Int} {kin : List (List Nat)} {ord : List Nat} {k g sp a b i : Nat} {c s : Int} {Q : En -> Fl -> Prop} {t it e l r : Expr} {bb rr : List Stmt} {q p p1 ap : Pos} {x : Bool} {K : Ky} {ρ : En} {y : Str}
theorem zX (h : Tr K ρ t x) (h1 : mO K ρ l (.int a)) (h2 : mO K ρ r (.int b)) : Ev K ρ (.IfExp t l r p) (.int ((if x then a else b : Nat) : Int)) := by
 cases x
 ·exact rm h nofun λ _ => h2
 ·exact rm h (λ _ => h1) nofun
theorem qS {α : Type} {G : α -> PV} {L : List α} {z : α} (hr : f i = some (.list (L.map G))) (h : mO KW (eN f) e (G z)) (hc : L.length < cap) (g : Wp KW (eN (upd f i (some (.list ((L ++ [z]).map G))))) rr Q) (hx : autoParam (oW[i]? = some y) tR) (ho : autoParam (rq.contains i = true) tR) (hn : autoParam (mU e) tF) (hl : autoParam ((ap.endLine == p.line) = true) tR) : Wp KW (eN f) (.Expr (.Call (.Attribute (.Name y p1) "append" ap) [e] [] p) q :: rr) Q :=
 Ci hr h (by rw [am]; exact hc) (by rw [bw] at g; exact g) hx ho hn hl
theorem MX (hel : ∀ e ∈ el, e < cl.length) (hcl : ∀ x ∈ cl, 0 <= x) : ∃ m : Int, 0 <= m /\ Bi (.builtin "max") [.list (zi (el.map λ e => cl.getD e 0) ++ zi [0])] (.int m) := by
 cases el with
 | nil => exact ⟨0, d5 0, Il (is := [])⟩
 | cons a l =>
  have := Il (m := cl.getD a 0) (is := l.map (λ e => cl.getD e 0) ++ [0])
  rw [bw] at this
  exact ⟨_, ew (hcl _ (qK (d := 0) (hel a (.head _)))) Jh, this⟩
theorem JQ {a : Int} : ∃ b : Int, 0 <= b /\ Bi (.builtin "abs") [.int a] (.int b) := ⟨_, by split; exact Int.neg_nonneg.mpr (c9 ‹_›); exact dE.mp ‹_›, Mz⟩
theorem NR (h4 : f 4 = some (.int (hd.fmod 4))) (h12 : f 12 = some (.list (zi cl))) (h18 : f 18 = some (.list (zl el))) (h19 : f 19 = some (.int sp)) (hel : ∀ e ∈ el, e < cl.length) (hel4 : el.length <= 4) (hcl : ∀ x ∈ cl, 0 <= x)
  (h : ∀ c : Int, 0 <= c -> Wp KW (eN (upd f 21 (some (.int c)))) (kB 5) Q) : Wp KW (eN f) (kB 4) Q := by
 show Wp KW _ (_ :: kB 5) _
 obtain ⟨m, m0, hm⟩ := MX hel hcl
 refine nf 21 (mO.of rfl (mJ (ui rfl rfl (.cons (mJ (n8 (oU (ys := zi (el.map λ e => cl.getD e 0)) pV (λ e => .int (cl.getD e 0)) el (mY (nm h18)) rfl (ac hel4 (by decide)) bk (λ e he => ⟨_, .one, mO.of rfl (mT (xR h12) (en rfl) (uV (hel e he)))⟩) rfl (by decide +kernel))) (nK (vs := zi [0]) (.cons (mO.of rfl mt) .nil) (by decide)) (Hs ?_)) .nil) hm) (zX (mM (nm h4) mt (oR (.int _ 1))) (mO.of rfl (mJ (nm h19) mt (sa (b := 4) (by decide) (by decide)))) (mO.of rfl (mJ mt (nm h19) (qb (a := 1))))) ua)) (h _ (lz m0 (bC _)))
 rw [aA, am, am]
 exact ac (bj hel4 1) (by decide)
theorem Op (H : zA f ns hd tot sw) (h9 : f 9 = some (.int k)) (h19 : f 19 = some (.int sp)) (h21 : f 21 = some (.int c)) (hc : 0 <= c)
  (h : ∀ (f' : Fv) (s : Int), 0 <= s -> NY 22 f f' -> f' 22 = some (.int s) -> Wp KW (eN f') (kB 7) Q) : Wp KW (eN f) (kB 5) Q := by
 show Wp KW _ (_ :: _ :: kB 7) _
 obtain ⟨m, m0, hm⟩ := JQ (a := hd)
 refine nf 22 (mO.of rfl (mJ (mJ (ui rfl rfl (.cons (nm H.head) .nil) hm) mt (sj (by decide) (by decide))) (nm h21) ua)) (mV (mM (nm (i := 4) H.mode) mt (oR (.int _ 2))) (λ _ => nf 22 (sV (i := 19) h19) (mK (@h _ sp (bC _) (λ _ e => (mX e).trans (mX e)) rfl))) λ _ => mV (pN (.cons (mM (nm (i := 4) H.mode) mt (oR (.int _ 3))) λ _ => .one (mM (nm (i := 9) h9) (mJ (nm (i := 3) H.total) mt (vL (by decide))) (oR (.int _ _))))) (λ _ => nf 22 (mO.of rfl (ui rfl rfl (.cons (nm (i := 2) H.head) .nil) hm)) (mK (mK (@h _ m m0 (λ _ e => (mX e).trans (mX e)) rfl)))) λ _ => mK (mK (@h _ _ ?_ (λ _ => mX) rfl)))
 exact lz (Int.fdiv_nonneg m0 (by decide)) hc
end
section
variable {f : Fv} {ns : List Int} {hd tot : Int} {sw w : Bool} {fs el l : List Nat} {na : List Bs} {st cl : List Int} {kin : List (List Nat)} {ord : List Nat} {k g sp a b i : Nat} {c s : Int} {Q : En -> Fl -> Prop} {t it e r : Expr} {bb rr : List Stmt} {q p p1 ap : Pos} {x : Bool} {K : Ky} {ρ ρ' : En} {y : Str} {ts : List Expr} {vs : List PV} {v : PV}
theorem yq (ha : a < 256) (hb : b < 256) : Bi (.type "bytes") [.list [.int a, .int b]] (.bytes [dh a, dh b]) := Iv (is := [(a : Int), (b : Int)]) λ i hi => by
 rcases ag.mp hi with rfl | hi
 ·exact ⟨bC _, ef.mpr ha⟩
 ·cases ae.mp hi
  exact ⟨bC _, ef.mpr hb⟩
theorem B9 {e1 e2 : Expr} {u v : PV} (h1 : mO K ρ e1 u) (h2 : mO K ρ e2 v) (hn1 : autoParam (mU e1) tF) (hn2 : autoParam (mU e2) tF) : Ev K ρ (.List [e1, e2] p) (.list [u, v]) := nK (.cons h1 (.cons h2 .nil hn2) hn1) (show 2 <= cap by decide)
theorem wA {u : PV} (h : mO K ρ e u) (hn : autoParam (mU e) tF) : Ev K ρ (.List [e] p) (.list [u]) := nK (.cons h .nil hn) (show 1 <= cap by decide)
theorem Ed (h : l.Nodup) : Bi (.builtin "sum") [.list (l.map λ e => PV.int ((2 ^ e : Nat) : Int))] (.int (setN l : Nat)) := by
 have := He (is := (l.map λ e => 2 ^ e).map λ k => ((k : Nat) : Int))
 rw [Iw, J3 h, bk, bk] at this
 exact this
theorem zP {n : Nat} (h : n <= 64) : n <= cap := ac h (by decide)
theorem NC (h5 : f 5 = some (.bool sw)) (h9 : f 9 = some (.int k)) (h16 : f 16 = some (.int g)) (h : ∀ p : Nat, Wp KW (eN (upd f 23 (some (.int p)))) (kB 8) Q) : Wp KW (eN f) (kB 7) Q := by
 show Wp KW _ (_ :: kB 8) _
 exact nf 23 (mO.of rfl (zX (nv (λ _ _ => rfl) (nm h5) nw) (mO.of rfl (mJ (mJ (mJ (nm h16) mt (sa (b := 4) (by decide) (by decide))) (mJ mt (nm h9) (ww (a := 3) (by decide))) qb) (mJ (nm h9) mt (qb (b := 1))) (r7 (b9 k)))) (sV h9))) (h _)
theorem Ol (hk : k < 7) (h4 : f 4 = some (.int (hd.fmod 4))) (h9 : f 9 = some (.int k)) (h16 : f 16 = some (.int g)) (h10 : f 10 = some (.list (zb na))) (hl : na.length <= 7) (h : ∀ a, a < 101 -> Wp KW (eN (upd f 10 (some (.list (zb (na ++ [[dh a, M6 (hd.fmod 4 == 1) k]])))))) (kB 9) Q) : Wp KW (eN f) (kB 8) Q := by
 show Wp KW _ (_ :: kB 9) _
 have hk2 : 97 + k < 256 := aH (dS hk 97) (by decide)
 have hm : g / 128 % 4 < 4 := fY _ (by decide)
 refine qS (z := [dh (if (hd.fmod 4 == 1) = true then 97 else 97 + g / 128 % 4), M6 (hd.fmod 4 == 1) k]) h10 (mO.of rfl (rm (mM (nm h4) mt (oR (.int _ 1))) (λ e => ?_) λ e => ?_)) (ar hl (by decide)) (h _ ?_)
 ·rw [e]
  exact mO.of rfl (BI rfl rfl (.cons (B9 (mO.of rfl mt) (mO.of rfl (mJ mt (nm h9) (wn (a := 122) (ac (a5 hk) (by decide)))))) .nil) (yq (a := 97) (by decide) (ar (dz _ _) (by decide))))
 ·rw [e]
  exact mO.of rfl (BI rfl rfl (.cons (B9 (mO.of rfl (mJ mt (mJ (mJ (nm h16) mt (sa (b := 128) (by decide) (by decide))) mt (r7 (b := 4) (by decide))) (qb (a := 97)))) (mO.of rfl (mJ mt (nm h9) (qb (a := 97))))) .nil) (yq (aH (dS hm 97) (by decide)) hk2))
 ·split
  ·decide
  ·exact dS hm 97
theorem Oy (B : uI f ns hd tot sw fs na st cl kin ord) (D : Ge (hd.fmod 4 == 1) k na st cl kin ord) (E : Be k el) (hk : k < 7) (h9 : f 9 = some (.int k)) (h16 : f 16 = some (.int g)) (h18 : f 18 = some (.list (zl el))) (h21 : f 21 = some (.int c)) (h22 : f 22 = some (.int s)) (hc : 0 <= c) (hs : 0 <= s)
  (h : ∀ f na st cl kin ord, uI f ns hd tot sw fs na st cl kin ord -> Ge (hd.fmod 4 == 1) (k + 1) na st cl kin ord -> Q (eN f) .next) : Wp KW (eN f) (kB 7) Q := by
 have hk7 := a5 hk
 have c8 : ∀ {n}, n <= k -> n < cap := λ h => ar (ac h hk7) (by decide)
 refine NC B.H.5 h9 h16 λ p => Ol hk (hd := hd) B.H.4 h9 h16 B.f10 (ac (aT D.nlen) hk7) λ a ha => ?_
 show Wp KW _ (_ :: _ :: _ :: _ :: _ :: []) _
 refine qS (i := 11) B.f11 (sV (i := 22) h22) (c8 (aT D.slen)) (qS (i := 12) B.f12 (sV (i := 21) h21) (c8 (aT D.clen)) (qS (i := 13) (z := el) B.f13 (sV (i := 18) h18) (c8 (aT D.kilen)) (qS (i := 14) (z := el) B.f14 (mO.of rfl (ui rfl rfl (.cons (n8 (oU (ys := el.map λ e => PV.int ((2 ^ e : Nat) : Int)) pV (λ e => .int ((2 ^ e : Nat) : Int)) el (mY (nm (i := 18) h18)) rfl (zP (ac E.len (by decide))) rfl (λ e he => ⟨_, .one, mO.of rfl (mJ mt (en rfl) (pH (ac (a5 (aH (E.lt e he) hk)) (by decide))))⟩) rfl (by decide +kernel))) .nil) (Ed E.nd))) (c8 (aT D.kilen)) (nf 15 (mO.of rfl (mJ (mJ (qa (g := pV) (nm (i := 15) B.f15) (nm (i := 23) rfl)) (wA (sV (i := 9) h9)) (tr (b := [k]) ?_)) (Jp (g := pV) (nm (i := 15) B.f15) (nm (i := 23) rfl)) (tr ?_))) (mK (h _ _ _ _ _ _ ⟨⟨B.H.1, B.H.2, B.H.3, B.H.4, B.H.5⟩, B.f6, rfl, rfl, rfl, rfl, rfl, rfl⟩ (D.succ (p := p) ha hs hc E)))))))
 ·exact zP (ac (bj (dj _ _) 1) (by rw [D.olen]; exact ac (bj hk7 1) (by decide)))
 ·refine zP (ac (bG (aT aA) (ac (aT fM) (dz _ _))) (ac (bj (bj (dj _ _) 1) _) ?_))
  rw [D.olen]
  exact ac (bG (bj hk7 1) hk7) (by decide)
theorem rY (hx : oW[i]? = some y) (ho : (w || !rq.contains i) = true) (t : pU KW w ts vs (eN (upd f i (some v))) ρ') : pU KW w (.Name y p :: ts) (v :: vs) (eN f) ρ' := .cons (by rw [rt hx, qc hx, ho]; rfl) (rh hx ▸ t)
theorem K9 {es : List Expr} (i : Nat) (h : JV KW (eN f) e v) (t : VF KW (eN f) ts es vs) (hx : autoParam (oW[i]? = some y) tR) (ho : autoParam (rq.contains i = true) tR) (hn : autoParam (mU e) tF) : VF KW (eN f) (.Name y p :: ts) (e :: es) (v :: vs) := .cons hn (.own ((qc hx).trans ho) h) t
theorem OJ {es : List Expr} (i : Nat) (h : mO KW (eN f) e v) (t : VF KW (eN f) ts es vs) (hx : autoParam (oW[i]? = some y) tR) (ho : autoParam (rq.contains i = false) tR) (hn : autoParam (mU e) tF) : VF KW (eN f) (.Name y p :: ts) (e :: es) (v :: vs) := .cons hn (.val ((qc hx).trans ho) h) t
theorem vK : JV K ρ (.List [] p) (.list []) := tv nJ.nil (show 0 <= cap by decide)
theorem M8 (H : zA f ns hd tot sw) (hf : f 6 = some (.list (zl fs))) (hl : fs.length = 7) (h4 : ∀ x ∈ fs, x < 4096) (h : ∀ f na st cl kin ord, uI f ns hd tot sw fs na st cl kin ord -> Ge (hd.fmod 4 == 1) 7 na st cl kin ord -> Wp KW (eN f) (bW 10) Q) : Wp KW (eN f) (bW 8) Q := by
 show Wp KW _ (_ :: _ :: bW 10) _
 refine mQ (ρ' := eN (upd (upd (upd (upd (upd (upd f 10 (some (.list []))) 11 (some (.list []))) 12 (some (.list []))) 13 (some (.list []))) 14 (some (.list []))) 15 (some (.list [])))) ?_ ?_
 ·refine w9 (vs := [.list [], .list [], .list [], .list [], .list [], .list []]) ?_ ?_ ?_ ?_
  ·rfl
  ·exact K9 10 vK (K9 11 vK (K9 12 vK (K9 13 vK (K9 14 vK (OJ 15 (mO.of rfl (nK nJ.nil (by decide))) .nil)))))
  ·exact rY (i := 10) rfl rfl (rY (i := 11) rfl rfl (rY (i := 12) rfl rfl (rY (i := 13) rfl rfl (rY (i := 14) rfl rfl (rY (i := 15) rfl rfl .nil)))))
  ·exact (show 6 <= cap by decide)
 refine tW pV (az 7) rfl (λ d l f => ∃ na st cl kin ord, uI f ns hd tot sw fs na st cl kin ord /\ Ge (hd.fmod 4 == 1) d.length na st cl kin ord) (o9 rfl mt (by decide)) ⟨[], [], [], [], [], ⟨⟨H.1, H.2, H.3, H.4, H.5⟩, hf, rfl, rfl, rfl, rfl, rfl, rfl⟩, .zero⟩ (λ d k l f hd' q => ?_) (by rintro f ⟨na, st, cl, kin, ord, B, D⟩; exact @h f _ _ _ _ _ B D)
 obtain ⟨na, st, cl, kin, ord, B, D⟩ := q
 refine ⟨_, BO 9, ?_⟩
 have hk : (az 7)[d.length]? = some k := by rw [<- hd', iE (aQ _), jq]; rfl
 obtain ⟨k7, e⟩ := bH.mp hk
 rw [gQ] at e
 subst e
 rw [bh] at k7
 refine NG (k := d.length) B.mono hl h4 k7 rfl λ f g hg B h9 h16 h18 h19 => ?_
 refine NR (hd := hd) B.H.4 B.f12 h18 h19 (D.clen.symm ▸ ve.lt) ve.len D.c0 λ c hc => ?_
 refine Op (c := c) B.mono.H (k := d.length) h9 h19 rfl hc λ f' s hs O h22 => ?_
 have O' : ∀ j, (j == 22) = false -> (j == 21) = false -> f' j = f j := λ j a b => (O j a).trans (mX b)
 exact Oy (B.mono.only O) D ve k7 ((O' 9 rfl rfl).trans h9) ((O' 16 rfl rfl).trans h16) ((O' 18 rfl rfl).trans h18) (O 21 rfl) h22 hc hs λ f na st cl kin ord B D => ⟨f, rfl, na, st, cl, kin, ord, B, by rw [aA]; exact D⟩
end
structure wi (f : Fv) (D : sx) : Prop where
 script : f 0 = some (.list (zi D.sl))
 head : f 2 = some (.int D.hd)
 total : f 3 = some (.int D.tot)
 figs : f 6 = some (.list (zl D.fs))
 names : f 10 = some (.list (zb D.nm))
 stamps : f 11 = some (.list (zi D.st))
 kin : f 13 = some (.list (Bg D.kin))
 kins : f 14 = some (.list (zl D.ks))
 ord : f 15 = some (.list (zl D.ord))
 c0 : f 30 = some (.clo 0)
 c1 : f 31 = some (.clo 1)
 c2 : f 32 = some (.clo 2)
 c3 : f 33 = some (.clo 3)
structure EL (f : Fv) (D : sx) (d d' bl : List Nat) (whole : Bool) (sh : Option Bool) (asked : List DV) : Prop where
 below : f 24 = some (.list (zl bl))
 roads : f 25 = some (.list (zl (u7 D d)))
 asked : f 26 = some (.list (asked.map DV.pv))
 present : f 27 = some (.int (setN d : Nat))
 whole : f 28 = some (.bool whole)
 shut : f 29 = some (pE sh)
 folk : f 49 = some (.dict (sD D D.k d'))
 times : f 50 = some (.dict (vp D d'))
 turned : f 51 = some (.dict (sD D D.r d'))
section
variable {f : Fv} {ns : List Int} {hd tot : Int} {sw w : Bool} {fs el l : List Nat} {na : List Bs} {st cl : List Int} {kin : List (List Nat)} {ord ord' : List Nat} {n i : Nat} {Q : En -> Fl -> Prop} {x : Str} {rr : List Stmt} {pos : Pos} {D : sx}
theorem Mv : u7 D [] = (az 8).map λ _ => 0 := ds λ k _ => if_neg (by rw [show setN [] = 0 from rfl, a8]; exact nofun)
theorem zM (n i : Nat) {a : Arguments} {b : List Stmt} {sc : Scope} (hn : rN pos.line = x) (hd0 : a.defaults = []) (hk0 : a.kw_defaults = []) (ha : ∀ env, annTrees a none env = []) (hc : KW.sc.lookup (v9 i) = some .cell)
  (h : (sc.names.all λ y => !(y.2 == .free) || y.1 == v9 i) = true) (he : ∀ env, qZ env sc.names [] = [(v9 i, (env.cells.lookup (v9 i)).getD 0)]) (hF : ∀ cell qual doc pm cv ctv, ML (fnX x qual a b sc [(v9 i, cell)] .none .none doc pm none cv ctv) cell (v9 i) (KQ i))
  (g : Wp KW (eN (upd f n (some (.clo i)))) rr Q) (hx : autoParam (oW[n]? = some x) tR) (ho : autoParam (rq.contains n = false) tR) : Wp KW (eN f) (.FunctionDef x a b [] none [] sc none x pos :: rr) Q :=
 mQ (HV rfl rfl rfl (rt hx) ((qc hx).trans ho) hn hd0 hk0 ha λ c => by
  obtain ⟨cell, hcell⟩ := (c.cls (v9 i) (.inl hc)).1
  exact ⟨_, AS h hcell (he _), λ qual doc pm cv ctv => ⟨cell, hF cell qual doc pm cv ctv, hcell⟩⟩) (rh hx ▸ g)
theorem Hc (hm : wi (upd (upd (upd (upd f 30 (some (.clo 0))) 31 (some (.clo 1))) 32 (some (.clo 2))) 33 (some (.clo 3))) D -> Wp KW (eN (upd (upd (upd (upd f 30 (some (.clo 0))) 31 (some (.clo 1))) 32 (some (.clo 2))) 33 (some (.clo 3)))) (bW 22) Q)
  (h0 : f 0 = some (.list (zi D.sl))) (h2 : f 2 = some (.int D.hd)) (h3 : f 3 = some (.int D.tot)) (h6 : f 6 = some (.list (zl D.fs))) (h10 : f 10 = some (.list (zb D.nm))) (h11 : f 11 = some (.list (zi D.st))) (h13 : f 13 = some (.list (Bg D.kin))) (h14 : f 14 = some (.list (zl D.ks))) (h15 : f 15 = some (.list (zl D.ord))) : Wp KW (eN f) (bW 18) Q := by
 show Wp KW _ (_ :: _ :: _ :: _ :: bW 22) _
 refine zM 30 0 rfl rfl rfl (λ _ => rfl) rfl rfl (λ _ => rfl) (λ cell qual doc pm cv ctv => ⟨⟨_, _, _, _, rfl⟩, rfl, rfl, rfl, rfl, rfl, λ u => rfl⟩) ?_
 refine zM 31 1 rfl rfl rfl (λ _ => rfl) rfl rfl (λ _ => rfl) (λ cell qual doc pm cv ctv => ⟨⟨_, _, _, _, rfl⟩, rfl, rfl, rfl, rfl, rfl, λ u => rfl⟩) ?_
 refine zM 32 2 rfl rfl rfl (λ _ => rfl) rfl rfl (λ _ => rfl) (λ cell qual doc pm cv ctv => ⟨⟨_, _, _, _, rfl⟩, rfl, rfl, rfl, rfl, rfl, λ u => rfl⟩) ?_
 refine zM 33 3 rfl rfl rfl (λ _ => rfl) rfl rfl (λ _ => rfl) (λ cell qual doc pm cv ctv => ⟨⟨_, _, _, _, _, _, _, rfl⟩, rfl, rfl, rfl, rfl, rfl, λ u => rfl⟩) ?_
 exact hm ⟨h0, h2, h3, h6, h10, h11, h13, h14, h15, rfl, rfl, rfl, rfl⟩
theorem LT (B : uI f ns hd tot sw fs na st cl kin ord) (E : Ge (hd.fmod 4 == 1) 7 na st cl kin ord') (hfl : fs.length = 7) (ho : ord.Nodup) (h7 : ∀ x ∈ ord, x < 7)
  (h : ∀ f D, qT D -> wi f D -> EL f D [] [] ((az 8).map (2 ^ ·)) true none [] -> Wp KW (eN f) (bW 22) Q) : Wp KW (eN f) (bW 11) Q := by
 show Wp KW _ (_ :: _ :: _ :: _ :: _ :: _ :: _ :: bW 18) _
 have l7 : ∀ {n}, n = 7 -> n < cap := λ e => ar (aT e) (by decide)
 refine qS (z := [122, 122]) B.f10 (mO.of rfl I3) (l7 E.nlen) (qS (i := 11) (z := 0) B.f11 (mO.of rfl mt) (l7 E.slen) (Ci (i := 14) B.f14 (mO.of rfl mt) (by rw [am]; exact l7 E.kilen) ?_))
 refine rV 24 (oU (ys := zl ((az 8).map (2 ^ ·))) pV (λ k => .int ((2 ^ k : Nat) : Int)) (az 8) (o9 rfl mt (by decide)) rfl (by decide) bk (λ k hk => ⟨_, .one, mO.of rfl (mJ mt (en rfl) (pH (ac (a5 (aM.mp hk)) (by decide))))⟩) rfl (by decide +kernel)) ?_
 refine rV 25 (oU (ys := zl ((az 8).map λ _ => 0)) pV (λ k => .int 0) (az 8) (o9 rfl mt (by decide)) rfl (by decide) bk (λ k hk => ⟨_, .one, mO.of rfl mt⟩) rfl (by decide +kernel)) ?_
 generalize hF : upd (upd (upd (upd (upd f 10 _) 11 _) 14 _) 24 _) 25 _ = F
 have e : ∀ j o, upd (upd (upd (upd (upd f 10 (some (.list (zb (na ++ [[122, 122]]))))) 11 (some (.list (zi (st ++ [0]))))) 14 (some (.list ((kin.map λ l => PV.int (setN l : Nat)) ++ [.int 0])))) 24 (some (.list (zl ((az 8).map (2 ^ ·)))))) 25 (some (.list (zl ((az 8).map λ _ => 0)))) j = o -> F j = o := λ j o h => hF ▸ h
 refine mQ (ρ' := eN (upd (upd (upd (upd F 50 (some (.dict []))) 49 (some (.dict []))) 51 (some (.dict []))) 26 (some (.list [])))) ?_ ?_
 ·refine w9 (vs := [.dict [], .dict [], .dict [], .list []]) ?_ ?_ ?_ ?_
  ·rfl
  ·exact K9 50 we (K9 49 we (K9 51 we (K9 26 vK .nil)))
  ·exact rY (i := 50) rfl rfl (rY (i := 49) rfl rfl (rY (i := 51) rfl rfl (rY (i := 26) rfl rfl .nil)))
  ·exact (show 4 <= cap by decide)
 refine mQ (ρ' := eN (upd (upd (upd (upd (upd (upd (upd F 50 (some (.dict []))) 49 (some (.dict []))) 51 (some (.dict []))) 26 (some (.list []))) 27 (some (.int 0))) 28 (some (.bool true))) 29 (some .none))) ?_ ?_
 ·refine w9 (vs := [.int 0, .bool true, .none]) ?_ ?_ ?_ ?_
  ·rfl
  ·exact OJ 27 (mO.of rfl mt) (OJ 28 (mO.of rfl pL) (OJ 29 (mO.of rfl pJ) .nil))
  ·exact rY (i := 27) rfl rfl (rY (i := 28) rfl rfl (rY (i := 29) rfl rfl .nil))
  ·exact (show 3 <= cap by decide)
 refine Hc (D := ⟨na ++ [[122, 122]], st ++ [0], kin, ord, fs, hd, tot, ns⟩) (λ M => @h _ _ (MR E hfl ho h7) M ⟨e 24 _ rfl, (e 25 _ rfl).trans (by rw [Mv]; rfl), rfl, rfl, rfl, rfl, rfl, rfl, rfl⟩) (e 0 _ B.H.1) (e 2 _ B.H.2) (e 3 _ B.H.3) (e 6 _ B.f6) (e 10 _ rfl) (e 11 _ rfl) (e 13 _ B.f13) (e 14 _ ?_) (e 15 _ B.f15)
 show some (PV.list ((kin.map λ l => PV.int (setN l : Nat)) ++ [.int 0])) = some (PV.list (zl (kin.map setN ++ [0])))
 rw [zl, bw, bk]; rfl
theorem Jn (B : uI f ns hd tot sw fs na st cl kin ord) (E : Ge (hd.fmod 4 == 1) 7 na st cl kin ord) (hfl : fs.length = 7)
  (h : ∀ f D, qT D -> wi f D -> EL f D [] [] ((az 8).map (2 ^ ·)) true none [] -> Wp KW (eN f) (bW 22) Q) : Wp KW (eN f) (bW 10) Q := by
 show Wp KW _ (_ :: bW 11) _
 refine mV (pN (.cons (nv (λ _ _ => rfl) (nm B.H.shallow) nw) λ _ => .one (mM (mJ (mJ (nm B.H.head) mt (sj (by decide) (by decide))) mt (vL (by decide))) mt (oR (.int _ _))))) (λ _ => nf 15 (mO.of rfl (qa (g := pV) (n := 6) (nm B.f15) mt)) (mK (LT ⟨⟨B.H.1, B.H.2, B.H.3, B.H.4, B.H.5⟩, B.f6, B.f10, B.f11, B.f12, B.f13, B.f14, rfl⟩ E hfl (E.ond.sublist (j3 _ _)) (λ x hx => E.olt x (dL hx)) h))) λ _ => mK (LT B E hfl E.ond E.olt h)
end
section
variable {D : sx} (H : qT D) {f f' : Fv} {d bl es p : List Nat} {c k e j i : Nat} {v : PV} {Q : En -> Fl -> Prop} {t it ex ix : Expr} {bb rr r : List Stmt} {q q1 p1 p2 : Pos} {x : Str} {g : Nat -> PV} {n : Nat -> Bs} {kvs kvs' : List (Bs × PV)} {K : Ky} {ρ : En} {b : Bs}
theorem zt (h : ∀ x ∈ d, n x ≠ n c) : oE (d.map λ x => (n x, g x)) (n c) (g c) = (d ++ [c]).map λ x => (n x, g x) := by
 induction d with
 | nil => rfl
 | cons a d ih =>
  refine (if_neg λ e => h a (.head _) (be e)).trans (congrArg _ (ih λ x hx => h x (.tail _ hx)))
theorem Ju {l : List Nat} {f : Nat -> Bs} : zb (l.reverse.map f) = (az l.length).map λ j => PV.bytes (f (l.getD (l.length - 1 - j) 0)) := by
 refine kv (by rw [am, am, am, List.length_reverse, bh]) λ i h1 h2 => ?_
 rw [am, bh] at h2
 rw [fO, fO, fO, gQ, List.getElem_reverse, ao, aF]
 rfl
theorem yW (hr : f i = some (.dict kvs)) (h1 : mO KW (eN f) ex v) (h2 : Ev KW (eN f) ix (.bytes b)) (hp : oE kvs b v = kvs') (hc : kvs'.length <= cap) (g : Wp KW (eN (upd f i (some (.dict kvs')))) r Q) (hx : autoParam (oW[i]? = some x) tR) (ho : autoParam (rq.contains i = true) tR) (hs : autoParam (∀ n env, swapsWith ex (some (.Subscript (.Name x q) ix p2)) n env = pure false) tF) : Wp KW (eN f) (.Assign [.Subscript (.Name x q) ix p2] ex p1 :: r) Q :=
 KA hr h1 h2 (hp ▸ hc) (hp ▸ g) hx ho hs
theorem wi.only (M : wi f D) (e : ∀ j ∈ [0, 2, 3, 6, 10, 11, 13, 14, 15, 30, 31, 32, 33], f' j = f j) : wi f' D :=
 ⟨(e 0 (by decide)).trans M.1, (e 2 (by decide)).trans M.2, (e 3 (by decide)).trans M.3, (e 6 (by decide)).trans M.4, (e 10 (by decide)).trans M.5, (e 11 (by decide)).trans M.6, (e 13 (by decide)).trans M.7, (e 14 (by decide)).trans M.8, (e 15 (by decide)).trans M.9, (e 30 (by decide)).trans M.10, (e 31 (by decide)).trans M.11, (e 32 (by decide)).trans M.12, (e 33 (by decide)).trans M.13⟩
theorem wi.upd {o : Option PV} (M : wi f D) (h : autoParam (∀ j ∈ [0, 2, 3, 6, 10, 11, 13, 14, 15, 30, 31, 32, 33], (j == i) = false) tD) : wi (upd f i o) D := M.only λ j hj => mX (h j hj)
include H
theorem sW (hc : c < 7) : Sb (.list (Bg D.kin)) (.int c) (.list (zl (D.k c))) := rv [] (H.kilen.symm ▸ hc)
theorem qt (hc : c < 8) : Sb (.list (zb D.nm)) (.int c) (.bytes (D.n c)) := so (H.nlen.symm ▸ hc)
theorem wg : (D.k c).length <= cap := ac (H.kin c).len (by decide)
theorem Mu (M : wi f D) (hc : c ∉ d) (hd : ∀ x ∈ d ++ [c], x < 7) (hl : d.length < 7) (h35 : f 35 = some (.int c)) (h49 : f 49 = some (.dict (sD D D.k d))) (h50 : f 50 = some (.dict (vp D d))) (h51 : f 51 = some (.dict (sD D D.r d)))
  (h : Wp KW (eN (upd (upd (upd f 50 (some (.dict (vp D (d ++ [c]))))) 49 (some (.dict (sD D D.k (d ++ [c]))))) 51 (some (.dict (sD D D.r (d ++ [c])))))) (mB 3) Q) : Wp KW (eN f) (mB 0) Q := by
 have c7 : c < 7 := hd c (aq _ (.head _))
 have c8 : c < 8 := aL c7
 have hne : ∀ x ∈ d, D.n x ≠ D.n c := λ x hx e => hc (zB H (aL (hd x (aC _ hx))) c8 e ▸ hx)
 have hcap : ∀ {α : Type} {g : Nat -> α}, ((d ++ [c]).map g).length <= cap := by
  intro α g
  rw [am, aA]
  exact ac (fE hl) (by decide)
 have kl : ∀ {e}, e ∈ D.k c -> e < 8 := λ h => aH ((H.kin c).lt _ h) c8
 have key : ∀ {f : Fv} {p1 p2 p3 : Pos}, f 10 = some (.list (zb D.nm)) -> f 35 = some (.int c) -> Ev KW (eN f) (.Subscript (.Name "names" p1) (.Name "c" p2) p3) (.bytes (D.n c)) := λ h1 h2 => mT (nm h1) (nm h2) (qt H c8)
 have kin : ∀ {f : Fv} {p1 p2 p3 : Pos}, f 13 = some (.list (Bg D.kin)) -> f 35 = some (.int c) -> Ev KW (eN f) (.Subscript (.Name "kin" p1) (.Name "c" p2) p3) (.list (zl (D.k c))) := λ h1 h2 => mT (nm h1) (nm h2) (sW H c7)
 show Wp KW _ (_ :: _ :: _ :: mB 3) _
 refine yW h50 (mO.of rfl (mT (nm M.stamps) (nm h35) (uV (H.slen.symm ▸ c8)))) (key M.names h35) (zt (g := λ c => .int (D.st.getD c 0)) hne) hcap ?_
 refine yW (i := 49) h49 (Dk (uR (oU pV (λ e => .bytes (D.n e)) (D.k c) (mY (kin M.kin h35)) rfl (wg H) rfl (λ e he => ⟨_, .one, mO.of rfl (mT (xR (i := 10) M.names) (en rfl) (qt H (kl he)))⟩) rfl (by decide +kernel)))) (key M.names h35) ((congrArg (oE _ _) (congrArg PV.list bk.symm)).trans (zt (g := λ c => .list (zb ((D.k c).map D.n))) hne)) hcap ?_
 refine yW (i := 51) h51 (Dk (uR (oU pV (λ j => .bytes (D.n ((D.k c).getD ((D.k c).length - 1 - j) 0))) (az (D.k c).length) (o9 rfl (nH rfl (kin M.kin h35)) (ac (H.kin c).len (by decide))) rfl (by rw [bh]; exact wg H) rfl (λ j hj => ?_) rfl (by decide +kernel)))) (key M.names h35) ((congrArg (oE _ _) (congrArg PV.list Ju.symm)).trans (zt (g := λ c => .list (zb ((D.r c).map D.n))) hne)) hcap h
 have hj := aM.mp hj
 have h1 : 1 <= (D.k c).length := fE (ar (bM _) hj)
 have hlt : (D.k c).length - 1 - j < (D.k c).length := ar (dz _ _) (iK h1 (by decide))
 refine ⟨_, .one, mO.of rfl (mT (xR (i := 10) M.names) (mT ?_ (mJ (mJ (nH (f := pV) rfl ?_) mt (wn (b := 1) h1)) (en rfl) (wn (Nat.le_pred_of_lt hj))) (m5 hlt)) (qt H (kl (qK hlt))))⟩
 all_goals exact mT (xR (i := 13) M.kin) (xR (i := 35) h35) (sW H c7)
end
section
variable {D : sx} (H : qT D) {f f' : Fv} {d bl es p B : List Nat} {c k e j i n y z pr : Nat} {v : PV} {Q : En -> Fl -> Prop} {t it ex ix : Expr} {bb rr r : List Stmt} {q q1 p1 p2 : Pos} {x : Str} {K : Ky} {ρ : En}
theorem DQ (hr : f i = some (.list (zl B))) (h1 : mO KW (eN f) ex (.int y)) (h2 : Ev KW (eN f) ix (.int n)) (hc : n < B.length) (g : Wp KW (eN (upd f i (some (.list (zl (B.set n y)))))) r Q) (hx : autoParam (oW[i]? = some x) tR) (ho : autoParam (rq.contains i = true) tR) (hs : autoParam (∀ n env, swapsWith ex (some (.Subscript (.Name x q) ix p2)) n env = pure false) tF) : Wp KW (eN f) (.Assign [.Subscript (.Name x q) ix p2] ex p1 :: r) Q :=
 Kd hr h1 h2 (by rw [am]; exact hc) (by rw [zl, gX] at g; exact g) hx ho hs
theorem oK {S : List Nat} (h : S.contains j = false) (hi : autoParam (S.contains i = true) tR) : (j == i) = false := beq_eq_false_iff_ne.mpr λ e => by rw [e, hi] at h; cases h
theorem qu {S T : List Nat} (h : S.contains j = false) (hs : autoParam ((T.all λ i => S.contains i) = true) tR) : T.contains j = false := kc.mpr λ e => by rw [aU.mp hs j (eD.mp e)] at h; cases h
theorem un (h : k < B.length) (e : B.getD k 0 = y) : Sb (.list (zl B)) (.int k) (.int y) := e ▸ m5 h
theorem Ms (H : qT D) (M : wi f D) (hc : c < 7) (hbl : bl.length = 8) (h35 : f 35 = some (.int c)) (h24 : f 24 = some (.list (zl bl))) (h27 : f 27 = some (.int (setN d : Nat))) (hpr : setN d ||| 2 ^ c = pr)
  (h : ∀ f', (∀ j, [20, 24, 25, 27].contains j = false -> f' j = f j) -> f' 24 = some (.list (zl (bl.set c (xx pr bl (bl.getD c 0) (D.k c))))) -> f' 25 = some (.list (zl ((az 8).map (rsF D pr)))) -> f' 27 = some (.int pr) -> Wp KW (eN f') (mB 6) Q) : Wp KW (eN f) (mB 3) Q := by
 have c8 : c < bl.length := hbl.symm ▸ aL hc
 show Wp KW _ (_ :: _ :: _ :: mB 6) _
 refine nf 27 (mO.of rfl (mJ (nm h27) (mJ mt (nm h35) (pH (ac (a5 hc) (by decide)))) pd)) ?_
 rw [hpr]
 refine rV 25 (oU (ys := zl ((az 8).map (rsF D pr))) pV (λ k => .int (rsF D pr k : Nat)) (az 8) (o9 rfl mt (by decide)) rfl (by decide) bk (λ k hk => ⟨_, .one, mO.of rfl (zX (mM (mJ (mJ (xR (i := 27) rfl) (en rfl) nX) mt nz) mt ot) (mO.of rfl (mJ (mT (xR (i := 14) M.kins) (en rfl) (m5 ((B0 H).symm ▸ aM.mp hk))) (xR (i := 27) rfl) oq)) (mO.of rfl mt))⟩) rfl (by decide +kernel)) ?_
 refine tW pV (D.k c) rfl (λ es l f' => (∀ j, [20, 24].contains j = false -> f' j = upd (upd f 27 (some (.int pr))) 25 (some (.list (zl ((az 8).map (rsF D pr))))) j) /\ f' 24 = some (.list (zl (bl.set c (xx pr bl (bl.getD c 0) es))))) (mY (mT (nm (i := 13) M.kin) (nm (i := 35) h35) (sW H hc))) ⟨λ _ _ => rfl, h24.trans ?_⟩ (λ es e l f' hes q_ => q_.casesOn λ K h24 => ⟨_, BO 20, ?_⟩) λ f' q_ => q_.casesOn λ K h24 => h f' (λ j hj => (K j ?_).trans ((mX ?_).trans (mX ?_))) h24 (K 25 rfl) (K 27 rfl)
 ·rw [show xx pr bl (bl.getD c 0) [] = bl.getD c 0 from rfl]
  refine congrArg (λ l => some (PV.list (zl l))) (j5 λ i => ?_)
  rw [d6]
  split
  ·subst i
   exact oJ c8
  ·rfl
 ·have he : e < c := (H.kin c).lt e (hes ▸ aq _ (.head _))
  have e8 : e < bl.length := aH he c8
  have hA : xx pr bl (bl.getD c 0) (es ++ [e]) = aS pr bl (xx pr bl (bl.getD c 0) es) e := bT
  rw [hA]
  generalize xx pr bl (bl.getD c 0) es = a at h24
  have l1 : ∀ {k}, k < bl.length -> k < (bl.set c a).length := λ h => dU.symm ▸ h
  refine mV (mM (mJ (mJ (nm (i := 27) (K 27 rfl)) (nm (i := 20) rfl) nX) mt nz) mt ot) (λ hb => ?_) λ hb => mK (mK ⟨_, rfl, λ j hj => (mX ?_).trans (K j hj), h24.trans ?_⟩)
  ·refine DQ (i := 24) (y := a ||| bl.getD e 0) h24 (mO.of rfl (mJ (mT (nm (i := 24) h24) (nm (i := 35) ((K 35 rfl).trans h35)) (un (l1 c8) ((w7 c8).trans (if_pos rfl)))) (mT (nm (i := 24) h24) (nm (i := 20) rfl) (un (l1 e8) ((w7 c8).trans (if_neg (aE he))))) pd)) (nm (i := 35) ((K 35 rfl).trans h35)) (l1 c8) (mK (mK ⟨_, rfl, λ j hj => (mX ?_).trans ((mX ?_).trans (K j hj)), ?_⟩))
   ·exact oK hj
   ·exact oK hj
   ·rw [List.set_set, aS, if_pos hb]; rfl
  ·exact oK hj
  ·rw [aS, if_neg (by rw [hb]; exact nofun)]
 ·exact qu hj
 ·exact oK hj
 ·exact oK hj
end
section
variable {D : sx} (H : qT D) {f f' : Fv} {d bl es p B : List Nat} {c k e j i n y z pr hs a : Nat} {v : PV} {Q : En -> Fl -> Prop} {t it ex ix : Expr} {bb rr r : List Stmt} {q q1 p1 p2 : Pos} {x : Str} {K : Ky} {ρ : En}
theorem Eo (hk : k < 8) (h : k ∉ p) : (Aa B c hs p).getD k 0 = B.getD k 0 := by rw [Aa, qF hk, NL, if_neg λ e => h e.1]
theorem xi (n : Nat) {lo : PySem.Expr} (M : wi f D) (h : Ev KW (eN f) lo (.int n)) (ht : D.ord.take n = d) : Ev KW (eN f) (.Subscript (.Name "order" p1) (.Slice none (some lo) none p2) q) (.list (zl d)) := ht ▸ qa (g := pV) (nm M.ord) h
theorem Md (H : qT D) (M : wi f D) (hc : c ∉ d) (hd : ∀ x ∈ d ++ [c], x < 7) (hnd : d.Nodup) (hl : d.length <= cap) (hB : B.length = 8) (ht : D.ord.take n = d) (h34 : f 34 = some (.int n)) (h35 : f 35 = some (.int c)) (h24 : f 24 = some (.list (zl B)))
  (h : ∀ f', (∀ j, [9, 24, 36].contains j = false -> f' j = f j) -> f' 24 = some (.list (zl (Aa B c (su D d c) d))) -> Wp KW (eN f') (mB 8) Q) : Wp KW (eN f) (mB 6) Q := by
 have c7 : c < 7 := hd c (aq _ (.head _))
 have c8 : c < 8 := aL c7
 have d8 : ∀ x ∈ d, x < 8 := λ x hx => aL (hd x (aC _ hx))
 show Wp KW _ (_ :: _ :: mB 8) _
 refine nf 36 (mO.of rfl (ui rfl rfl (.cons (n8 (nF pV (λ k => (D.ks.getD k 0).testBit c) (λ k => .int ((2 ^ k : Nat) : Int)) d (mY (xi n M (nm h34) ht)) rfl hl rfl (λ k hk => ⟨_, .one, .one (mM (mJ (mJ (mT (xR (i := 14) M.kins) (en rfl) (m5 ((B0 H).symm ▸ d8 k hk))) (xR (i := 35) h35) nX) mt nz) mt ot), λ _ => mO.of rfl (mJ mt (en rfl) (pH (ac (a5 (d8 k hk)) (by decide))))⟩) (by decide +kernel))) .nil) (Ed (hnd.sublist eS)))) ?_
 refine tW pV d rfl (λ es l f' => (∀ j, [9, 24].contains j = false -> f' j = upd f 36 (some (.int (su D d c))) j) /\ f' 24 = some (.list (zl (Aa B c (su D d c) es)))) (mY (xi n (M.upd (i := 36)) (nm (i := 34) h34) ht)) ⟨λ _ _ => rfl, h24.trans (by rw [K6 hB])⟩ (λ es k l f' hes q_ => q_.casesOn λ K h24 => ⟨_, BO 9, ?_⟩) (by rintro f' ⟨K, h24⟩; exact h f' (λ j hj => (K j (qu hj)).trans (mX (oK hj))) h24)
 have hkd : k ∈ d := hes ▸ aq _ (.head _)
 have k8 := d8 k hkd
 have hke : k ∉ es := λ hm => by
  rw [<- hes] at hnd
  exact (cT.mp hnd).2.2 k hm k (.head _) rfl
 have hce : c ∉ es := λ hm => hc (hes ▸ aC _ hm)
 rw [Ic k8 hke]
 have l8 : (Aa B c (su D d c) es).length = 8 := o5
 have gk := Eo (B := B) (c := c) (hs := su D d c) k8 hke
 have gc := Eo (B := B) (c := c) (hs := su D d c) c8 hce
 have K36 : f' 36 = some (.int (su D d c)) := K 36 rfl
 have K35 : f' 35 = some (.int c) := (K 35 rfl).trans h35
 generalize su D d c = hs at *
 generalize Aa B c hs es = B' at *
 refine mV (mM (mJ (mT (nm (i := 24) h24) (nm (i := 9) rfl) (un (l8.symm ▸ k8) gk)) (nm (i := 36) K36) oq) mt wu) (λ hb => ?_) λ hb => mK (mK ⟨_, rfl, λ j hj => (mX (oK hj)).trans (K j hj), h24.trans ?_⟩)
 ·refine DQ (i := 24) h24 (mO.of rfl (mJ (mT (nm (i := 24) h24) (nm (i := 9) rfl) (un (l8.symm ▸ k8) gk)) (mT (nm (i := 24) h24) (nm (i := 35) K35) (un (l8.symm ▸ c8) gc)) pd)) (nm (i := 9) rfl) (l8.symm ▸ k8) (mK (mK ⟨_, rfl, λ j hj => (mX (oK hj)).trans ((mX (oK hj)).trans (K j hj)), ?_⟩))
  rw [if_pos hb]; rfl
 ·rw [if_neg (by rw [hb]; exact nofun)]
end
section
variable {D : sx} (H : qT D) {f f' : Fv} {d bl : List Nat} {c k j i n : Nat} {v : PV} {Q : En -> Fl -> Prop} {t it te l : Expr} {ab rr : List Stmt} {q q1 p p1 p2 : Pos} {x b : Bool} {K : Ky} {ρ : En} {r : Expr} {tn : List Bs} {z : Int}
theorem M4 (h : Tr K ρ t x) (h1 : mO K ρ l (.set b)) (h2 : mO K ρ r .none) : Ev K ρ (.IfExp t l r p) (pE (if x then some b else none)) := by
 cases x
 ·exact rm h nofun λ _ => h2
 ·exact rm h (λ _ => h1) nofun
include H
theorem Gy (h : (d.filter λ k => ndiff (D.ks.getD k 0) (setN d) != 0).map D.n = tn) : tn.isEmpty = true ↔ ∀ k ∈ d, ∀ e ∈ D.k k, e ∈ d := by
 rw [<- h, fN, dr, fW]
 refine forall_congr' λ k => imp_congr_right λ hk => ?_
 rw [kF, bne_eq_false_iff_eq]
 constructor
 ·intro h e he
  have hb := pC (D.ks.getD k 0) (setN d) e
  rw [h, a8, (y0 H).mpr he, cE, nu] at hb
  exact of_decide_eq_true (by rw [<- jg (decide _), <- hb]; rfl)
 ·exact λ h => oB λ e he => by
   rw [pC, av, y0 H, nu, aN, decide_eq_false_iff_not] at he
   exact he.2 (h e he.1)
theorem Oh (M : wi f D) (hd : ∀ x ∈ d, x < 7) (hl : d.length <= 7) (ht : D.ord.take (n + 1) = d) (h34 : f 34 = some (.int n)) (h27 : f 27 = some (.int (setN d : Nat)))
  (h : ∀ f' whole sh, Cd D d whole sh -> (∀ j, [28, 29, 37].contains j = false -> f' j = f j) -> f' 28 = some (.bool whole) -> f' 29 = some (pE sh) -> Wp KW (eN f') (qB 3) Q) : Wp KW (eN f) (qB 0) Q := by
 show Wp KW _ (_ :: _ :: _ :: qB 3) _
 have d8 : ∀ x ∈ d, x < 8 := λ x hx => aL (hd x hx)
 generalize htn : (d.filter λ k => ndiff (D.ks.getD k 0) (setN d) != 0).map D.n = tn
 have hw := Gy H htn
 have htl : tn.length <= 7 := by
  rw [<- htn, am]
  exact ac (dH _ _) hl
 refine rV 37 (nF (ys := zb tn) pV (λ k => ndiff (D.ks.getD k 0) (setN d) != 0) (λ k => .bytes (D.n k)) d (mY (xi (n + 1) M (mJ (nm h34) mt (qb (b := 1))) ht)) rfl (ac hl (by decide)) (by rw [<- htn]; exact bk) (λ k hk => ⟨_, .one, .one (mM (mJ (mT (xR (i := 14) M.kins) (en rfl) (m5 ((B0 H).symm ▸ d8 k hk))) (tP (xR (i := 27) h27)) pX) mt wu), λ _ => mO.of rfl (mT (xR (i := 10) M.names) (en rfl) (qt H (d8 k hk)))⟩) (by decide +kernel)) ?_
 refine nf 28 (mO.of rfl (oA (nm (i := 37) rfl) (nK nJ.nil (by decide)) vz)) ?_
 refine nf 29 (mO.of rfl (M4 (sq (.cons (mM (nm (i := 37) rfl) (nK nJ.nil (by decide)) rD) λ _ => .one (mM (mJ (nH rfl (nm (i := 0) M.script)) mt (r7 (b := 2) (by decide))) mt wm))) (mO.of rfl (BI rfl rfl (.cons (nm (i := 37) rfl) .nil) (L7 (bs := tn) (ar htl (by decide))))) (mO.of rfl pJ))) ?_
 refine @h _ (zb tn).isEmpty _ ⟨?_, λ e => ?_, λ e => ?_⟩ (λ j hj => (mX (oK hj)).trans ((mX (oK hj)).trans (mX (oK hj)))) rfl rfl
 ·rw [<- hw]
  cases tn <;> exact Iff.rfl
 ·cases tn with
  | nil => cases e
  | cons a l => rfl
 ·cases tn with
  | nil => split <;> exact nofun
  | cons a l => cases e
omit H in
theorem NM (h34 : f 34 = some (.int n)) (h2 : f 2 = some (.int z)) (h : ∀ kind : Nat, kind < 4 -> Wp KW (eN (upd f 43 (some (.int kind)))) (qB 10) Q) : Wp KW (eN f) (qB 9) Q := by
 show Wp KW _ (_ :: qB 10) _
 obtain ⟨kd, hk, ek⟩ := rG ((n : Int) + z.fdiv 16) (by decide : 0 < 4)
 exact nf 43 (mO.of rfl (mJ (mJ (nm h34) (mJ (nm h2) mt (sj (by decide) (by decide))) ua) mt (rT (b := 4) (by decide) ek))) (h kd hk)
theorem Ob (M : wi f D) (hc : c < 7) (hn : 0 < n) (hnl : n <= D.ord.length) (hn7 : n < 7) (h34 : f 34 = some (.int n)) (h35 : f 35 = some (.int c)) (h27 : f 27 = some (.int (setN d : Nat)))
  (h : ∀ (f' : Fv) (pk : Int) (sides : List Nat) (x y s kind : Nat), (∀ e ∈ sides, e < 8) -> x < 8 -> y < 8 -> s < 8 -> kind < 4 -> (∀ j, [16, 38, 39, 40, 41, 42, 43].contains j = false -> f' j = f j) -> f' 38 = some (.int pk) -> f' 39 = some (.list (zl sides)) -> f' 40 = some (.int x) -> f' 41 = some (.int y) -> f' 42 = some (.int s) -> f' 43 = some (.int kind) -> Wp KW (eN f') (qB 10) Q) : Wp KW (eN f) (qB 3) Q := by
 show Wp KW _ (_ :: _ :: _ :: _ :: _ :: _ :: qB 9) _
 refine nf 16 (mO.of rfl (mT (nm M.figs) (nm h34) (m5 (H.flen.symm ▸ hn7)))) ?_
 generalize D.fs.getD n 0 = g
 refine nf 38 (mO.of rfl (mJ (mJ (mJ (nm (i := 16) rfl) mt (sa (b := 4) (by decide) (by decide))) (nm (i := 3) M.total) ua) (nm (i := 34) h34) ua)) ?_
 generalize ((g / 4 : Nat) : Int) + D.tot + n = pk
 refine rV 39 (nF (ys := zl ((D.k c).filter λ e => (setN d).testBit e)) pV (λ e => (setN d).testBit e) pV (D.k c) (mY (mT (nm (i := 13) M.kin) (nm (i := 35) h35) (sW H hc))) rfl (wg H) rfl (λ k hk => ⟨_, .one, .one (mM (mJ (mJ (xR (i := 27) h27) (en rfl) nX) mt nz) mt ot), λ _ => mO.of rfl (en rfl)⟩) (by decide +kernel)) ?_
 have hs8 : ∀ e ∈ (D.k c).filter λ e => (setN d).testBit e, e < 8 := λ e he => aH ((H.kin c).lt e (bF.mp he).1) (aL hc)
 generalize (D.k c).filter (λ e => (setN d).testBit e) = sides at hs8
 obtain ⟨i, hi, ei⟩ := rG pk hn
 have hil := aP hi hnl
 have hx8 : D.ord.getD i 0 < 8 := aL (H.olt _ (qK hil))
 refine nf 40 (mO.of rfl (mT (nm (i := 15) M.ord) (mJ (nm (i := 38) rfl) (nm (i := 34) h34) (rT hn ei)) (m5 hil))) ?_
 generalize D.ord.getD i 0 = x at hx8
 obtain ⟨y, hy, ey⟩ := rG (pk.fdiv 8 + 5 * n) (by decide : 0 < 8)
 refine nf 41 (mO.of rfl (mJ (mJ (mJ (nm (i := 38) rfl) mt (sj (by decide) (by decide))) (mJ mt (nm (i := 34) h34) (CN (.inl (by decide)))) ua) mt (rT (b := 8) (by decide) ey))) ?_
 have fin : ∀ s : Nat, s < 8 -> _ := λ s h8 => NM (f := upd (upd (upd (upd (upd (upd f 16 (some (.int g))) 38 (some (.int pk))) 39 (some (.list (zl sides)))) 40 (some (.int x))) 41 (some (.int y))) 42 (some (.int s))) (Q := Q) h34 M.head λ kd hk => @h _ pk sides x y s kd hs8 hx8 hy h8 hk (λ j hj => (mX (oK hj)).trans ((mX (oK hj)).trans ((mX (oK hj)).trans ((mX (oK hj)).trans ((mX (oK hj)).trans ((mX (oK hj)).trans (mX (oK hj)))))))) rfl rfl rfl rfl rfl rfl
 cases sides with
 | nil => exact nf 42 (mO.of rfl (rm (x := false) (nv (λ _ _ => rfl) (nm (i := 39) rfl) qr) nofun λ _ => sV (i := 40) rfl)) (fin x hx8)
 | cons a l =>
  obtain ⟨j, hj, ej⟩ := rG (pk.fdiv 2) (b9 l.length)
  exact nf 42 (mO.of rfl (rm (x := true) (nv (λ _ _ => rfl) (nm (i := 39) rfl) qr) (λ _ => mO.of rfl (mT (nm (i := 39) rfl) (mJ (mJ (nm (i := 38) rfl) mt (sj (by decide) (by decide))) (nH (f := pV) (l := a :: l) rfl (nm (i := 39) rfl)) (rT (b := l.length + 1) (b9 _) ej)) (m5 (rs := a :: l) hj))) nofun)) (fin _ (hs8 _ (qK hj)))
end
structure xJ (l : List Nat) : Prop where
 lt : ∀ k ∈ l, k < 8
 ne : l ≠ []
 len : l.length <= 4
section
variable {D : sx} {f f' : Fv} {ids sides : List Nat} {a b c k j i n x y s kind : Nat} {pk : Int} {Q : En -> Fl -> Prop} {t it te : Expr} {ab rr : List Stmt} {q q1 p p1 p2 p3 : Pos} {K : Ky} {ρ : En} {e1 e2 e3 : Expr}
theorem xJ.three (ha : a < 8) (hb : b < 8) (hc : c < 8) : xJ [a, b, c] := ⟨aD.mpr ⟨ha, aD.mpr ⟨hb, aD.mpr ⟨hc, nofun⟩⟩⟩, nofun, (show 3 <= 4 by decide)⟩
theorem sZ (h1 : mO K ρ e1 (.int a)) (h2 : mO K ρ e2 (.int b)) (h3 : mO K ρ e3 (.int c)) (n1 : autoParam (mU e1) tF) (n2 : autoParam (mU e2) tF) (n3 : autoParam (mU e3) tF) : mO K ρ (.List [e1, e2, e3] p) (.list (zl [a, b, c])) := mO.of rfl (nK (.cons h1 (.cons h2 (.cons h3 .nil n3) n2) n1) (show 3 <= cap by decide))
noncomputable def Oz (c s x y : Nat) (sides : List Nat) : List (List Nat) := [[c, s, x], [s, c, y], [x, c, s], [y, c, x], [c] ++ sides.take 3, sides.take 3 ++ [x], [c, x, c], [x, s]]
theorem Jt (hc : c < 8) (hs : s < 8) (hx : x < 8) (hy : y < 8) (h : ∀ e ∈ sides, e < 8) : ∀ l ∈ Oz c s x y sides, xJ l := by
 have h3 : (sides.take 3).length + 1 <= 4 := bX (gG 3 sides)
 have h8 : ∀ e ∈ sides.take 3, e < 8 := λ e he => h e (dL he)
 have A := @aD Nat (· < 8)
 refine aD.mpr ⟨.three hc hs hx, aD.mpr ⟨.three hs hc hy, aD.mpr ⟨.three hx hc hs, aD.mpr ⟨.three hy hc hx, aD.mpr ⟨⟨A.mpr ⟨hc, h8⟩, nofun, h3⟩, aD.mpr ⟨⟨λ k hk => ?_, λ e => ?_, ?_⟩, aD.mpr ⟨.three hc hx hc, aD.mpr ⟨⟨A.mpr ⟨hx, A.mpr ⟨hs, nofun⟩⟩, nofun, (show 2 <= 4 by decide)⟩, nofun⟩⟩⟩⟩⟩⟩⟩⟩
 ·exact (aX.mp hk).elim (h8 k) λ h => ae.mp h ▸ hx
 ·exact absurd (je.mp e).2 nofun
 ·rw [aA]; exact h3
theorem NO (hc : c < 8) (hs : s < 8) (hx : x < 8) (hy : y < 8) (hsd : ∀ e ∈ sides, e < 8) (h35 : f 35 = some (.int c)) (h38 : f 38 = some (.int pk)) (h39 : f 39 = some (.list (zl sides))) (h40 : f 40 = some (.int x)) (h41 : f 41 = some (.int y)) (h42 : f 42 = some (.int s))
  (h : ∀ ids, xJ ids -> Wp KW (eN (upd f 44 (some (.list (zl ids))))) (qB 11) Q) : Wp KW (eN f) (qB 10) Q := by
 show Wp KW _ (_ :: qB 11) _
 obtain ⟨i, hi, ei⟩ := rG pk (by decide : 0 < 8)
 have h3 : (sides.take 3).length + 1 <= cap := ac (bX (gG 3 sides)) (by decide)
 have sl : ∀ {p q r w : Pos} {c1 : Nat}, Ev KW (eN f) (.Subscript (.Name "sides" p) (.Slice none (some (.Constant (.int 3) c1 q)) none r) w) (.list (zl (sides.take 3))) := qa (g := pV) (n := 3) (nm h39) mt
 refine nf 44 (mO.of rfl (mT (a := .list ((Oz c s x y sides).map λ l => .list (zl l))) (nK (.cons (sZ (sV h35) (sV h42) (sV h40)) (.cons (sZ (sV h42) (sV h35) (sV h41)) (.cons (sZ (sV h40) (sV h35) (sV h42)) (.cons (sZ (sV h41) (sV h35) (sV h40)) (.cons (mO.of rfl (mJ (wA (sV h35)) sl (tr (a := [c]) ?_))) (.cons (mO.of rfl (mJ sl (wA (sV h40)) (tr (b := [x]) h3))) (.cons (sZ (sV h35) (sV h40) (sV h35)) (.cons (mO.of rfl (B9 (sV h40) (sV h42))) .nil)))))))) (show 8 <= cap by decide)) (mJ (nm h38) mt (rT (b := 8) (by decide) ei)) (rv [] hi))) (h _ (Jt hc hs hx hy hsd _ (qK hi)))
 exact ac (aT (ce 1 _)) h3
theorem Lj {l : List Nat} {m : Nat} (R : xJ l) (hm : 0 < m) : xJ (l.take m) := by
 refine ⟨λ k hk => R.lt k (dL hk), λ e => ?_, ac (dj _ _) R.len⟩
 rcases List.take_eq_nil_iff.mp e with e | e
 ·exact cO hm e
 ·exact R.ne e
theorem Oq (hc : c < 8) (hk : kind < 4) (R : xJ ids) (h34 : f 34 = some (.int n)) (h35 : f 35 = some (.int c)) (h38 : f 38 = some (.int pk)) (h43 : f 43 = some (.int kind)) (h44 : f 44 = some (.list (zl ids)))
  (h : ∀ f' ids, yE kind ids -> (∀ j, (j == 44) = false -> f' j = f j) -> f' 44 = some (.list (zl ids)) -> Wp KW (eN f') (qB 12) Q) : Wp KW (eN f) (qB 11) Q := by
 have hk3 := br hk
 show Wp KW _ (_ :: qB 12) _
 refine mV (pN (.cons (mM (nm h43) mt wm) λ _ => .one (mM (mJ (mJ (nm h38) mt (sj (by decide) (by decide))) mt (vL (by decide))) mt (oR (.int _ _))))) (λ hb => ?_) λ _ => mV (mM (nm h43) mt (nR (b := 1))) (λ h1 => ?_) λ h1 => mV (mM (nm h43) mt (nR (b := 2))) (λ h2 => ?_) λ h2 => mK (mK (mK (@h _ ids ⟨hk3, R.lt, R.ne, R.len, λ e => ?_, λ e => ?_⟩ (λ _ _ => rfl) h44)))
 ·have k0 := be (bL.mp hb).1
  have T := Lj R (by decide : 0 < 2)
  exact nf 44 (mO.of rfl (qa (g := pV) (n := 2) (nm h44) mt)) (mK (@h _ _ ⟨hk3, T.lt, T.ne, T.len, λ e => (by rw [k0] at e; cases e), λ e => by rw [k0] at e; cases e⟩ (λ _ => mX) rfl))
 ·obtain ⟨a, l, rfl⟩ := List.exists_cons_of_ne_nil R.ne
  have k1 := be h1
  obtain ⟨b, hb8, e⟩ : ∃ b, b < 8 /\ (a :: l ++ [c]).take 2 = [a, b] := by
   cases l with
   | nil => exact ⟨c, hc, rfl⟩
   | cons b l => exact ⟨b, R.lt b (.tail _ (.head _)), rfl⟩
  refine nf 44 (mO.of rfl (qa (g := pV) (n := 2) (mJ (nm h44) (wA (sV h35)) (tr (b := [c]) (ac (bX R.len) (by decide)))) mt)) (mK (mK (@h _ _ ?_ (λ _ => mX) rfl)))
  rw [e]
  exact ⟨hk3, aD.mpr ⟨R.lt a (.head _), aD.mpr ⟨hb8, nofun⟩⟩, nofun, (show 2 <= 4 by decide), λ _ => ⟨a, b, rfl⟩, λ e => by rw [k1] at e; cases e⟩
 ·have k2 := be h2
  refine nf 44 (mO.of rfl (qa (g := pV) (l := DN ids) (n8 (nF (λ p : Nat × Nat => PV.tuple [.int p.1, .int p.2]) (λ p => !decide (p.2 ∈ ids.take p.1)) (λ p => PV.int p.2) (nT 0 ids) (sI rfl (sV h44)) (vn ids 0) ?_ bk (λ p hp => ⟨_, .two, .one (mM (en rfl) (qa (g := pV) (ng rfl h44 rfl) (en rfl)) wN), λ _ => mO.of rfl (en rfl)⟩) (by decide +kernel))) (zX (mM (nm h34) mt (DH (b := 5))) (mO.of rfl mt) (mO.of rfl mt)))) (mK (mK (mK (@h _ _ (k2 ▸ EU R.lt R.len R.ne ?_) (λ _ => mX) rfl))))
  ·rw [EN]
   exact ac R.len (by decide)
  ·split
   ·exact .inr rfl
   ·exact .inl rfl
 ·rw [e] at h1; cases h1
 ·rw [e] at h2; cases h2
end
section
variable {D : sx} (H : qT D) {f f' : Fv} {ids d r bl : List Nat} {i j n n' kind : Nat} {Q : En -> Fl -> Prop} {t it te e1 e2 e : Expr} {ab rr : List Stmt} {q q1 p p1 p2 p3 p4 p5 p6 p7 p8 p9 p10 : Pos} {x y : Str} {g : Nat -> List Nat} {m : Int} {whole : Bool} {sh : Option Bool} {asked : List DV} {told : BU} {v : PV}
theorem Nw (h : f i = some told.pv) (hx : autoParam (oW[i]? = some x) tR) : Ev KW (eN f) (.Name x p) told.pv := nm h hx (by cases told <;> rfl)
theorem DD (i : Nat) (h : qe KW (eN f) e (.ok v)) (g : Wp KW (eN (upd f i (some v))) rr Q) (hx : autoParam (oW[i]? = some x) tR) (ho : autoParam (rq.contains i = false) tR) (hs : autoParam (∀ l env, swapsWith e (some (.Name x p)) l env = pure false) tF) : Wp KW (eN f) (.Assign [.Name x p] e q :: rr) Q := mQ (z5 hs (rt hx) ((qc hx).trans ho) h) (rh hx ▸ g)
theorem Ih (hr : f n = some (.dict (sD D g d))) (hm : autoParam (KQ i = none) tR) (hx : autoParam (oW[n]? = some (v9 i)) tR) (hs : autoParam (KW.sc.lookup (v9 i) = some .cell) tR) (ho : autoParam (rq.contains n = true) tR) : sA KW (eN f) i (.par (Ki D g d)) := by
 have e : ∀ b, (sD D g d).lookup b = (Ki D g d b).map λ l => PV.list (zb l) := λ b => tZ (f := λ c => (g c).map D.n) (h := λ l => PV.list (zb l))
 refine Gn rfl hs ((qc hx).trans ho) hm ((ri hx).trans hr) (λ b p h => ?_) λ b h => ?_
 ·obtain ⟨l, h1, h2⟩ := iU.mp ((e b).symm.trans h)
  exact ⟨l, h2.symm, h1⟩
 ·exact iV.mp ((e b).symm.trans h)
theorem IU (hr : f 50 = some (.dict (vp D d))) (hm : KQ i = none /\ m = 1 \/ KQ i = some m /\ m.natAbs < 2 ^ 64) (hi : autoParam (v9 i = "times") tR) : sA KW (eN f) i (.stp (JG D m d)) := by
 have e : ∀ b, (vp D d).lookup b = ((d.map λ c => (D.n c, D.st.getD c 0)).lookup b).map .int := λ b => tZ (f := λ c => D.st.getD c 0)
 have e' : ∀ b, JG D m d b = ((d.map λ c => (D.n c, D.st.getD c 0)).lookup b).map (m * ·) := λ b => tZ (f := λ c => D.st.getD c 0) (h := (m * ·))
 refine HA rfl (hi ▸ rfl) (hi ▸ (qc (i := 50) rfl).trans rfl) hm (hi ▸ (ri (i := 50) rfl).trans hr) (λ b p h => ?_) λ b h => ?_
 ·obtain ⟨j, h1, h2⟩ := iU.mp ((e b).symm.trans h)
  refine ⟨j, h2.symm, ?_⟩
  rw [e', h1, Int.mul_comm]; rfl
 ·rw [e', iV.mp ((e b).symm.trans h)]; rfl
theorem Gz : yQ (.ok told.pv) = true := by
 cases told with
 | none => rfl
 | bool b => rfl
 | list l => exact pG (some l)
theorem yd (hM : pS (vo D g m d bl whole sh)) (I : yE kind ids) (h1 : mO KW (eN f) e1 (.int kind)) (h2 : mO KW (eN f) e2 (.list (zb (ids.map D.n)))) (ha : f n = some (.clo i)) (hb : f n' = some (.clo j)) (hA : sA KW (eN f) i (.par (Ki D g d))) (hB : sA KW (eN f) j (.stp (JG D m d))) (hs : f 29 = some (pE sh))
  (hx : autoParam (oW[n]? = some x) tR) (hy : autoParam (oW[n']? = some y) tR) (ho : autoParam (rq.contains n = false) tR) (ho' : autoParam (rq.contains n' = false) tR) (hn : autoParam (mU e1) tF) (hn2 : autoParam (mU e2) tF) : qe KW (eN f) (.Call (.Name "_law_told" p) [e1, e2, .Name x p1, .Name y p2, .Name "shut" p3] [] q) (.ok ((vo D g m d bl whole sh).told kind ids).pv) :=
 t9 rfl rfl (oy h1 (oy h2 (.cons (λ _ _ => rfl) (An (rt hx) ((qc hx).trans ho) ((ri hx).trans ha) hA) (.cons (λ _ _ => rfl) (An (rt hy) ((qc hy).trans ho') ((ri hy).trans hb) hB) (oy (I8 (LA (i := 29) rfl) ((ri (i := 29) rfl).trans hs) ((qc (i := 29) rfl).trans rfl)) .nil))) hn2) hn) (Hd (T := ⟨_, _, sh, ids.map D.n⟩) (NZ hM) kind (λ c hc => by
  obtain ⟨k, hk, rfl⟩ := bp.mp hc
  exact AP hM (I.lt k hk)) (by rw [am]; exact ac I.len (by decide)) λ e => by
  obtain ⟨a, b, rfl⟩ := I.two e
  exact ⟨D.n a, D.n b, rfl⟩) Gz
theorem xA {i : Nat} (hM : pS (vo D g m d bl whole sh)) (I : yE kind ids) (ht : told = (vo D g m d bl whole sh).told kind ids) (M : wi f D) (S : EL f D d d bl whole sh asked) (h43 : f 43 = some (.int kind)) (h44 : f 44 = some (.list (zl ids))) (h : f i = some told.pv) (hx : autoParam (oW[i]? = some x) tR) :
  Ev KW (eN f) (.Call (.Name "_law_right" p) [.Name "kind" p1, .Name "ids" p2, .Name x p3, .Name "names" p4, .Name "stamps" p5, .Name "present" p6, .Name "below" p7, .Name "roads" p8, .Name "whole" p9] [] q) (.bool true) :=
 nI rfl rfl (.cons (nm h43) (.cons (nm h44) (.cons (Nw h hx) (.cons (nm M.names) (.cons (nm M.stamps) (.cons (nm S.present) (.cons (nm S.below) (.cons (nm S.roads) (.cons (nm S.whole) .nil))))))))) (ht ▸ G2 hM (j := 4) I.small I.lt I.ne I.len I.two I.nd) (by cases told <;> rfl)
theorem pZ {S : List Nat} (h : j ∈ S) (hi : autoParam (S.contains i = false) tR) : (j == i) = false := beq_eq_false_iff_ne.mpr λ e => by rw [<- e, eD.mpr h] at hi; cases hi
theorem EL.only (S : EL f D d d bl whole sh asked) (e : ∀ j ∈ [24, 25, 27, 28, 29, 49, 50, 51], f' j = f j) {asked'} (ha : f' 26 = some (.list (asked'.map DV.pv))) : EL f' D d d bl whole sh asked' :=
 ⟨(e 24 (by decide)).trans S.1, (e 25 (by decide)).trans S.2, ha, (e 27 (by decide)).trans S.4, (e 28 (by decide)).trans S.5, (e 29 (by decide)).trans S.6, (e 49 (by decide)).trans S.7, (e 50 (by decide)).trans S.8, (e 51 (by decide)).trans S.9⟩
include H
theorem NV (M : wi f D) (S : EL f D d d bl whole sh asked) (hd : ∀ x ∈ d, x < 7) (hdr : D.ord = d ++ r) (B : w5 D d bl) (W : Cd D d whole sh) (I : yE kind ids) (hal : asked.length <= 100) (h43 : f 43 = some (.int kind)) (h44 : f 44 = some (.list (zl ids)))
  (h : ∀ f' e, AY D e -> (∀ j, [26, 45, 46].contains j = false -> f' j = f j) -> f' 26 = some (.list ((asked ++ [e]).map DV.pv)) -> Q (eN f') .next) : Wp KW (eN f) (qB 12) Q := by
 have hM : pS (vo D D.k 1 d bl whole sh) := zZ H hd B W (λ _ => .refl _) (by decide)
 have hc : ids.length <= cap := ac I.len (by decide)
 show Wp KW _ (_ :: _ :: _ :: _ :: []) _
 refine rV 45 (oU (ys := zb (ids.map D.n)) pV (λ k => .bytes (D.n k)) ids (mY (nm h44)) rfl hc bk (λ k hk => ⟨_, .one, mO.of rfl (mT (xR (i := 10) M.names) (en rfl) (qt H (I.lt k hk)))⟩) rfl (by decide +kernel)) ?_
 refine DD 46 (yd hM I (sV (i := 43) h43) (sV (i := 45) rfl) (n := 30) M.c0 (n' := 32) M.c2 (Ih (n := 49) S.folk) (IU S.times (.inl ⟨rfl, rfl⟩)) S.shut) ?_
 generalize ht : (vo D D.k 1 d bl whole sh).told kind ids = told
 refine mV (sq (.cons (mM (nm (i := 45) rfl) (n8 (oU (ys := zb (ids.map D.n)) pV (λ k => .bytes (D.n k)) ids (mY (nm (i := 44) h44)) rfl hc bk (λ k hk => ⟨_, .one, mO.of rfl (mT (xR (i := 10) M.names) (en rfl) (qt H (I.lt k hk)))⟩) rfl (by decide +kernel))) wC) λ _ => .one (pc (nv (λ _ _ => rfl) (xA (i := 46) hM I ht.symm (M.upd.upd) (S.only (λ j hj => (mX (pZ hj)).trans (mX (pZ hj))) S.asked) h43 h44 rfl) nw)))) (λ h => ?_) λ _ => mK ?_
 ·rw [beq_self_eq_true] at h
  cases h
 refine qS (i := 26) (z := DV.mk kind ids told ((ids.filter λ k => (setN d).testBit k).map λ k => bl.getD k 0)) S.asked (mO.of rfl (tK (.cons (sV (i := 43) h43) (.cons (sV (i := 44) h44) (.cons (mO.of rfl (Nw (i := 46) rfl)) (.cons (mO.of rfl (n8 (nF (ys := zl ((ids.filter λ k => (setN d).testBit k).map λ k => bl.getD k 0)) pV (λ k => (setN d).testBit k) (λ k => .int (bl.getD k 0 : Nat)) ids (mY (nm (i := 44) h44)) rfl hc bk (λ k hk => ⟨_, .one, .one (mM (mJ (mJ (xR (i := 27) S.present) (en rfl) nX) mt nz) mt ot), λ _ => mO.of rfl (mT (xR (i := 24) S.below) (en rfl) (m5 (B.len.symm ▸ I.lt k hk)))⟩) (by decide +kernel)))) .nil)))) (show 4 <= cap by decide))) (ar hal (by decide)) (mK (h _ _ ⟨I, d, r, bl, whole, sh, hdr, B, W, ht.symm, rfl⟩ (λ j hj => (mX (oK hj)).trans ((mX (oK hj)).trans (mX (oK hj)))) rfl))
end
inductive OF (D : sx) (d : List Nat) (f : Fv) : Prop
 | mk (bl whole sh asked) (M : wi f D) (S : EL f D d d bl whole sh asked) (B : w5 D d bl) (E : ∀ e ∈ asked, AY D e) (L : asked.length <= d.length) (T : asked ≠ [] -> 3 < d.length) (W : asked ≠ [] -> Cd D d whole sh)
section
variable {D : sx} (H : qT D) {f f' : Fv} {ids d r l bl : List Nat} {i j c n : Nat} {Q : En -> Fl -> Prop} {t it te : Expr} {ab rr : List Stmt} {q p p1 : Pos} {whole : Bool} {sh : Option Bool} {asked : List DV}
theorem disj {S T : List Nat} (h : j ∈ S) (hd : autoParam ((S.all λ i => !T.contains i) = true) tR) : T.contains j = false := (aN _).mp (aU.mp hd j h)
include H
theorem MW (M : wi f D) (S : EL f D d d bl whole sh asked) (hd : ∀ x ∈ d, x < 7) (hdr : D.ord = d ++ r) (hn : d.length = n + 1) (B : w5 D d bl) (E : ∀ e ∈ asked, AY D e) (L : asked.length <= n) (T : asked ≠ [] -> 3 < n) (h34 : f 34 = some (.int n)) (h35 : f 35 = some (.int c)) (hc : c < 7) (hl : d.length <= 7)
  (h : ∀ f', OF D d f' -> Q (eN f') .next) : Wp KW (eN f) (mB 8) Q := by
 show Wp KW _ (.If _ (qB 0) [] _ :: []) _
 have htk : D.ord.take (n + 1) = d := by rw [hdr, <- hn, iC]
 have hno : n <= D.ord.length := by
  rw [hdr, aA, hn]
  exact ac (dv n) (aV _ _)
 refine mV (mM (nm h34) mt (yY (b := 2))) (λ h3 => ?_) λ h3 => mK (mK (h f ?_))
 ·have h3 := of_decide_eq_true h3
  refine Oh H M hd hl htk h34 S.present λ f1 whole sh W K1 h28 h29 => ?_
  have M1 := M.only λ j hj => K1 j (disj hj)
  refine Ob H M1 hc (aH (by decide) h3) hno (ac (aT hn.symm) hl) ((K1 34 rfl).trans h34) ((K1 35 rfl).trans h35) ((K1 27 rfl).trans S.present) λ f2 pk sides x y s kind hsd hx hy hs hk K2 h38 h39 h40 h41 h42 h43 => ?_
  have e2 : ∀ j, [16, 28, 29, 37, 38, 39, 40, 41, 42, 43].contains j = false -> f2 j = f j := λ j h => (K2 j (qu h)).trans (K1 j (qu h))
  have c8 := aL hc
  refine NO c8 hs hx hy hsd ((e2 35 rfl).trans h35) h38 h39 h40 h41 h42 λ ids R => Oq (f := upd f2 44 _) c8 hk R ((e2 34 rfl).trans h34) ((e2 35 rfl).trans h35) h38 h43 rfl λ f3 ids I K3 h44 => ?_
  have e3 : ∀ j, [16, 37, 38, 39, 40, 41, 42, 43, 44].contains j = false -> f3 j = f1 j := λ j h => (K3 j (oK h)).trans ((mX (oK h)).trans (K2 j (qu h)))
  have M3 := M1.only λ j hj => e3 j (disj hj)
  have g : ∀ j, [16, 28, 29, 37, 38, 39, 40, 41, 42, 43, 44].contains j = false -> f3 j = f j := λ j h => (e3 j (qu h)).trans (K1 j (qu h))
  have S3 : EL f3 D d d bl whole sh asked := ⟨(g 24 rfl).trans S.1, (g 25 rfl).trans S.2, (g 26 rfl).trans S.3, (g 27 rfl).trans S.4, (e3 28 rfl).trans h28, (e3 29 rfl).trans h29, (g 49 rfl).trans S.7, (g 50 rfl).trans S.8, (g 51 rfl).trans S.9⟩
  have l7 := ac L (a5 (ac (aT hn.symm) hl))
  exact NV H M3 S3 hd hdr B W I (ac l7 (by decide)) ((K3 43 rfl).trans h43) h44 λ f4 e he K4 h26 => mK (h f4 ⟨bl, whole, sh, asked ++ [e], M3.only λ j hj => K4 j (disj hj), S3.only (λ j hj => K4 j (disj hj)) h26, B, uK E he, by rw [aA, hn]; exact bX L, λ _ => hn ▸ fQ h3, λ _ => W⟩)
 ·have h3 := of_decide_eq_false h3
  exact ⟨bl, whole, sh, asked, M, S, B, E, hn ▸ ia L, λ e => absurd (aH (by decide) (T e)) h3, λ e => absurd (aH (by decide) (T e)) h3⟩
theorem FP (hdr : D.ord = d ++ c :: r) (I : OF D d f) (h : ∀ f', OF D (d ++ [c]) f' -> Q (eN f') .next) : Wp KW (eN (upd (upd f 34 (some (.int d.length))) 35 (some (.int c)))) (mB 0) Q := by
 obtain ⟨bl, whole, sh, asked, M, S, B, E, L, T, W⟩ := I
 have hdr' : D.ord = (d ++ [c]) ++ r := hdr.trans (bU d [c] r).symm
 have hsub : ∀ x ∈ d ++ [c], x ∈ D.ord := λ x hx => hdr' ▸ aC _ hx
 have hd7 : ∀ x ∈ d ++ [c], x < 7 := λ x hx => H.olt x (hsub x hx)
 have c7 := hd7 c (aq _ (.head _))
 have ond := H.ond
 rw [hdr, cT] at ond
 have hcd : c ∉ d := λ hm => ond.2.2 c hm c (.head _) rfl
 have hl : (d ++ [c]).length <= 7 := by
  have hn : (d ++ [c]).Nodup := (hdr' ▸ H.ond).sublist (List.sublist_append_left _ _)
  have := hn.length_le_of_subset (l₂ := az 7) λ x hx => aM.mpr (hd7 x hx)
  rwa [bh] at this
 have hn : (d ++ [c]).length = d.length + 1 := aA
 have hl6 : d.length < 7 := ac (aT hn.symm) hl
 have htk : D.ord.take d.length = d := by rw [hdr, iC]
 refine Mu H M.upd.upd hcd hd7 hl6 rfl S.folk S.times S.turned ?_
 refine Ms (f := upd (upd (upd (upd (upd f 34 _) 35 _) 50 _) 49 _) 51 _) (d := d) H M.upd.upd.upd.upd.upd c7 B.len rfl S.below S.present u8.symm λ f1 K1 h24 h25 h27 => ?_
 have M1 : wi f1 D := M.upd.upd.upd.upd.upd.only λ j hj => K1 j (disj hj)
 refine Md H M1 hcd hd7 ond.1 (zP (ac (a5 hl6) (by decide))) (dU.trans B.len) htk (K1 34 rfl) (K1 35 rfl) h24 λ f2 K2 h24 => ?_
 have e : ∀ j, [9, 20, 24, 25, 27, 36].contains j = false -> f2 j = upd (upd (upd (upd (upd f 34 (some (.int d.length))) 35 (some (.int c))) 50 (some (.dict (vp D (d ++ [c]))))) 49 (some (.dict (sD D D.k (d ++ [c]))))) 51 (some (.dict (sD D D.r (d ++ [c])))) j := λ j h => (K2 j (qu h)).trans (K1 j (qu h))
 exact MW H (M1.only λ j hj => K2 j (disj hj)) ⟨h24, (K2 25 rfl).trans h25, (e 26 rfl).trans S.asked, (K2 27 rfl).trans h27, (e 28 rfl).trans S.whole, (e 29 rfl).trans S.shut, e 49 rfl, e 50 rfl, e 51 rfl⟩ hd7 hdr' hn (KE H hd7 hcd B) E L T (e 34 rfl) (e 35 rfl) c7 hl h
end
section
variable {D : sx} (H : qT D) {f f' : Fv} {ids d r l bl : List Nat} {i j c n : Nat} {Q : En -> Fl -> Prop} {t it te : Expr} {bb rr : List Stmt} {q p p1 : Pos} {whole : Bool} {sh : Option Bool} {asked : List DV} {e : DV} {a : BU} {ns : List Int}
theorem A7 : (nT n l).map (·.2) = l := by
 induction l generalizing n with
 | nil => rfl
 | cons a l ih => exact congrArg (a :: ·) ih
theorem Cx {done rest : List (Nat × Nat)} (h : done ++ (i, c) :: rest = nT n l) : i = n + done.length /\ l = done.map (·.2) ++ c :: rest.map (·.2) := by
 refine ⟨?_, (A7 (n := n)).symm.trans (by rw [<- h, bw]; rfl)⟩
 induction l generalizing n done with
 | nil => exact absurd (je.mp h).2 nofun
 | cons a l ih =>
  cases done with
  | nil => injection h with h _; injection h
  | cons b done =>
   injection h with _ h
   exact (ih h).trans (Nat.succ_add_eq_add_succ n done.length)
theorem Ka {a b : List Nat} : Co .Eq (.list (zl a)) (.list (zl b)) (a == b) := zq (uY IR a b)
theorem Iq : Co .NotEq a.pv a.pv false := by
 cases a with
 | none => exact CA .none
 | bool b =>
  have := CA (.bool b b)
  rwa [beq_self_eq_true] at this
 | list l =>
  have := wC (a := l) (b := l)
  rwa [beq_self_eq_true] at this
theorem Mn : ∃ z, Is "bool" (.type "bool") a.pv z := by
 cases a with
 | none => exact ⟨_, NN⟩
 | bool b => exact ⟨_, Lr⟩
 | list l => exact ⟨_, Om⟩
include H
theorem Hy (M : wi f D) (S : EL f D D.ord D.ord bl whole sh asked) (B : w5 D D.ord bl) (W : Cd D D.ord whole sh) (he : AY D e) (h43 : f 43 = some (.int e.kind)) (h44 : f 44 = some (.list (zl e.ids))) (h46 : f 46 = some e.told.pv) (h47 : f 47 = some (.list (zl e.seen)))
  (h : ∀ f', (∀ j, (j == 48) = false -> f' j = f j) -> Q (eN f') .next) : Wp KW (eN f) (aB 0) Q := by
 have same := B7 H B W he
 have I := he.ids
 have hc : e.ids.length <= cap := ac I.len (by decide)
 have hM : pS (vo D D.r 1000 D.ord bl whole sh) := zZ H H.olt B W (λ _ => j4 _) (by decide)
 show Wp KW _ (_ :: _ :: []) _
 refine DD 48 (yd hM I (sV h43) (Dk (uR (oU (ys := zb (e.ids.map D.n)) pV (λ k => .bytes (D.n k)) e.ids (mY (nm h44)) rfl hc bk (λ k hk => ⟨_, .one, mO.of rfl (mT (xR (i := 10) M.names) (en rfl) (qt H (I.lt k hk)))⟩) rfl (by decide +kernel)))) (n := 31) M.c1 (n' := 33) M.c3 (Ih (n := 51) S.turned) (IU S.times (.inr ⟨rfl, by decide⟩)) S.shut) ?_
 generalize ht : (vo D D.r 1000 D.ord bl whole sh).told e.kind e.ids = again at same
 refine mV (mM (nm (i := 47) h47) (n8 (oU (ys := zl (e.ids.map λ k => bl.getD k 0)) pV (λ k => .int (bl.getD k 0 : Nat)) e.ids (mY (nm (i := 44) h44)) rfl hc bk (λ k hk => ⟨_, .one, mO.of rfl (mT (xR (i := 24) S.below) (en rfl) (m5 (B.len.symm ▸ I.lt k hk)))⟩) rfl (by decide +kernel))) Ka) (λ hb => ?_) λ _ => mV (pc (nv (λ _ _ => rfl) (xA (i := 48) hM I ht.symm M.upd (S.only (λ j hj => mX (pZ hj)) S.asked) h43 h44 rfl) nw)) nofun λ _ => mK (mK (mK (h _ λ _ => mX)))
 cases same (be hb)
 obtain ⟨z, hz⟩ := Mn (a := e.told)
 have hne : Co .NotEq (.bool z) (.bool z) false := Iq (a := .bool z)
 exact mV (sq (.cons (mM (Nw (i := 48) rfl) (Nw (i := 46) h46) Iq) λ _ => .one (mM (wb rfl rfl (Nw (i := 48) rfl) hz) (wb rfl rfl (Nw (f := upd f 48 (some e.told.pv)) (i := 46) h46) hz) hne))) nofun λ _ => mK (mK (mK (h _ λ _ => mX)))
theorem JI (M : wi f D) (S : EL f D [] [] ((az 8).map (2 ^ ·)) true none []) : Wp KW (eN f) (bW 22) (Bl (.ok (.bool true))) := by
 show Wp KW _ (_ :: _ :: _ :: _ :: []) _
 refine tW (λ p : Nat × Nat => PV.tuple [.int p.1, .int p.2]) (nT 0 D.ord) (vn D.ord 0) (λ d l f => OF D (d.map (·.2)) f) (sI rfl (sV M.ord)) (.mk _ _ _ [] M S (Ij H) nofun (aQ _) (absurd rfl) (absurd rfl)) (λ d p l f hd I => ?_) λ f I => ?_
 ·obtain ⟨e1, e2⟩ := Cx (i := p.1) (c := p.2) hd
  refine ⟨_, .tup (rY (i := 34) rfl rfl (rY (i := 35) rfl rfl .nil)), ?_⟩
  rw [e1, cF, <- am (as := d) (·.2)]
  exact FP H e2 I λ f' I => ⟨f', rfl, by rw [bw]; exact I⟩
 rw [A7] at I
 obtain ⟨bl, whole, sh, asked, M, S, B, E, L, T, W⟩ := I
 refine tW DV.pv (asked.take 3) rfl (λ d l f => wi f D /\ EL f D D.ord D.ord bl whole sh asked) (mY (qa (n := 3) (nm S.asked) mt)) ⟨M, S⟩ (λ d e l f hd q_ => q_.casesOn λ M S => ⟨_, .tup (rY (i := 43) rfl rfl (rY (i := 44) rfl rfl (rY (i := 46) rfl rfl (rY (i := 47) rfl rfl .nil)))), ?_⟩) λ f q_ => q_.casesOn λ M S => ?_
 ·have hm : e ∈ asked := dL (i := 3) (hd ▸ aq _ (.head _))
  have W := W (jR hm)
  exact Hy H M.upd.upd.upd.upd (S.only (λ j hj => (mX (pZ hj)).trans ((mX (pZ hj)).trans ((mX (pZ hj)).trans (mX (pZ hj))))) S.asked) B W (E e hm) rfl rfl rfl rfl λ f' K => ⟨f', rfl, M.upd.upd.upd.upd.only λ j hj => K j (pZ hj), S.only (λ j hj => (K j (pZ hj)).trans ((mX (pZ hj)).trans ((mX (pZ hj)).trans ((mX (pZ hj)).trans (mX (pZ hj)))))) ((K 26 rfl).trans S.asked)⟩
 refine tW pV D.ord rfl (λ d l f => wi f D /\ f 49 = some (.dict (sD D D.k D.ord))) (mY (nm M.ord)) ⟨M, S.folk⟩ (λ d k l f hd q_ => q_.casesOn λ M h49 => ⟨_, BO 9, ?_⟩) λ f _ => po (HQ (mO.of rfl pL)) (λ _ _ _ => rfl) rfl
 have hk : k ∈ D.ord := hd ▸ aq _ (.head _)
 have k7 := H.olt k hk
 have k8 := aL k7
 refine mV (mM (mT (nm (i := 49) h49) (mT (nm (i := 10) M.names) (nm (i := 9) rfl) (qt H k8)) (ze (vI (λ x hx e => zB H (aL (H.olt x hx)) k8 e) hk))) (n8 (oU (ys := zb ((D.k k).map D.n)) pV (λ e => .bytes (D.n e)) (D.k k) (mY (mT (nm (i := 13) M.kin) (nm (i := 9) rfl) (sW H k7))) rfl (wg H) bk (λ e he => ⟨_, .one, mO.of rfl (mT (xR (i := 10) M.names) (en rfl) (qt H (aH ((H.kin k).lt e he) k8)))⟩) rfl (by decide +kernel))) wC) (λ h => ?_) λ _ => mK (mK ⟨_, rfl, M.upd, h49⟩)
 rw [beq_self_eq_true] at h
 cases h
omit H
theorem Ox : yy KW "law" := ⟨rfl, u3 _ (by decide), rfl, λ P h => by cases h; rfl, λ _ _ _ _ _ _ l => Gc.mono l⟩
theorem JY (v : PV) : v6 KW.sc ((nE "law").params.zip [v]) = eN λ i => if i = 0 then some v else none := by
 refine (Hi _).trans ?_
 have h : ∀ p ∈ oW.zipIdx, (p.1 == ("script" : Str)) = (p.2 == 0) := by decide +kernel
 refine Eq.trans ?_ (ds (f := λ p => (p.1, ([("script", v)] : List (Str × PV)).lookup p.1)) λ p hp => ?_)
 ·show _ = oW.zipIdx.map ((λ x => (x, ([("script", v)] : List (Str × PV)).lookup x)) ∘ Prod.fst)
  rw [<- bk, List.zipIdx_map_fst]; rfl
 ·rw [au, h p hp]
  cases p.2 <;> rfl
theorem Ni (hf : f 0 = some (.list (zi ns))) : Wp KW (eN f) (bW 0) (Bl (.ok (.bool true))) := by
 refine J0 hf λ f hd tot sw h h1 h6 => ?_
 with_reducible refine JU h h1 h6 λ f fs h h6 hl h4 => ?_
 with_reducible refine M8 h h6 hl h4 λ f na st cl kin ord B E => ?_
 with_reducible refine Jn B E hl λ f D hD M S => ?_
 with_reducible exact JI hD M S
theorem J5 {W : Wo} {fd : FuncData} {a : Addr} (hw : Hw W) (D : uL W "law" a fd) (hb : ∀ us : List Value, us.length = (nE "law").params.length -> ph W "law" fd us [] us) : Ei W 10 "law" [.list (zi ns)] [] (.ok (.bool true)) a :=
 uq (ws := [.list (zi ns)]) Ox rfl hw D rfl (JY _ ▸ Ni rfl) λ G us kus hv hk => ⟨us, hv, by cases (show _ = _ from hk); exact hb us hv.length⟩
end
set_option tactic.hygienic true
set_option maxRecDepth 100000 in
set_option maxHeartbeats 8000000 in
open_top hd for PySem.Challenge.rw_ai0008_01.row
set_option maxRecDepth 100000
set_option tactic.hygienic false
noncomputable abbrev Ng (h : Heap) : Heap := hideAll h tabs
structure Wd (w : World) (h : Heap) (mg mb : Str -> Option Value) : Prop where
 kx : (hd.heap_1 w.params).In h
 t8 : ∀ P ∈ tabs, h.get? P = some (tabObj #[])
 g : h.Ns 3 mg
 b : h.Ns 0 mb
 bb : ∀ x : Str, x ≠ "__name__" -> mb x = bootBuiltins x
 lim : h.NoLimit
 bm : ∃ bm ob, mg "__builtins__" = some (.ref bm) /\ bm ≠ builtinsNs /\ h.get? bm = some ob /\ ob.cls = .type "module" /\ ob.dict = some builtinsNs /\ ob.data = .plain
noncomputable abbrev wo (w : World) (h : Heap) : Wo := ⟨w, Ng h, 3, 0, 80⟩
section
variable {w : World} {h : Heap} {mg mb m : Str -> Option Value} (D : Wd w h mg mb) {a c : Addr} {o oc : Obj} {vs : Array Value} {q x f : Str} {t : Tok} {v : Value} {es : Array DictEntry} {ep n : Nat} {fd : FuncData} {ps : List Str} {us : List Value} {k : Nat}
theorem wD (x : h.Ns a m) (ha : a ∉ tabs) : (Ng h).Ns a m := (by obtain ⟨o, es, ep, ho, r⟩ := x; exact ⟨o, es, ep, fU _ ho ha, r⟩)
theorem IO {α : Type} {us : List α} (h : us.length = k + 1) : ∃ a r, us = a :: r /\ r.length = k := by
 cases us with
 | nil => cases h
 | cons a r => exact ⟨a, r, rfl, iA h⟩
include D
theorem Wd.look (e : (hd.heap_1 w.params).lookup a = some o) (ha : autoParam (a ∉ tabs) tD) : (Ng h).get? a = some o := fU _ (D.kx a o e) ha
theorem Wd.code (e : (hd.heap_1 w.params).lookup c = some oc) (h1 : oc.data = .fields vs) (h2 : vs[1]? = some (.str q t)) (hc : autoParam (c ∉ tabs) tD) : (Ng h).CodeRec (.ref c) q := ⟨c, oc, vs, t, rfl, D.look e hc, h1, h2⟩
theorem Wd.ns (e : (hd.heap_1 w.params).lookup 3 = some o) (hd : o.data = .dict es ep) (x : Str) : mg x = nsFind es x := by
 obtain ⟨o', es', ep', ho, hd', _, hm⟩ := D.g
 cases ho.symm.trans (D.kx 3 o e)
 cases hd.symm.trans hd'
 exact (hm x).symm
theorem Wd.glo (hx : mg x = some v) : vA (wo w h) x v := λ env e1 _ A s E Q hst hq => Calls.loadGlobal_global (by rw [e1]; exact (wD D.g (by decide)).keeps hst) hx hq
theorem Wd.bu (hx : mg x = none) (hv : bootBuiltins x = some v) (hn : x ≠ "__name__") : vA (wo w h) x v := λ env e1 e2 A s E Q hst hq => Calls.loadGlobal_builtin (by rw [e1]; exact (wD D.g (by decide)).keeps hst) hx (by rw [e2]; exact (wD D.b (by decide)).keeps hst) ((D.bb x hn).trans hv) hq
set_option maxHeartbeats 4000000 in
theorem Wd.gvals : ∀ p ∈ gvals, vA (wo w h) p.1 p.2 := by
 unfold Mine.Internal.gvals
 repeat' first | refine aD.mpr ⟨D.bu ((D.ns rfl rfl _).trans (by kernel_rfl)) (by kernel_rfl) (by decide), ?_⟩ | exact List.forall_mem_nil _
theorem Wd.bat {P : Addr} (hP : P ∈ tabs) : (Ng h).BuiltinsAt mg P := by
 obtain ⟨bm, ob, h1, h2, h3, h4, h5, h6⟩ := D.bm
 have nt : bm ∉ tabs := λ hm => by
  cases h3.symm.trans (D.t8 bm hm)
  cases h4
 refine ⟨bm, ob, h1, h2, λ e => ?_, λ e => nt (e ▸ hP), fU _ h3 nt, h4, h5, h6⟩
 obtain ⟨o, es, ep, ho, hd, _⟩ := D.g
 subst e
 cases h3.symm.trans ho
 cases h6.symm.trans hd
theorem Wd.lm : (Ng h).NoLimit := (by obtain ⟨mc, h1, h2⟩ := D.lim; exact ⟨mc, wD h1 (by decide), h2⟩)
theorem Wd.mkf {P : Addr} (hP : P ∈ tabs) (hc : CodeHd (Ng h) c P) (hq : ∀ pos : Pos, (f ++ ".<locals>.") ++ rN pos.line = pO P pos) : OH (wo w h) (.ref c) (f ++ ".<locals>.") P := ⟨rfl, rfl, hP, ⟨mg, wD D.g (by decide), D.bat hP⟩, ⟨c, rfl, hc⟩, hq⟩
theorem Wd.dat (a c : Addr) (hm : mg f = some (.ref a)) (e : (hd.heap_1 w.params).lookup a = some o) (hf : o.data = .func fd) (hb : fd.body = .stmts (nE f).body) (hc : fd.closure = []) (hcd : fd.code = .ref c) (ec : (hd.heap_1 w.params).lookup c = some oc) (h1 : oc.data = .fields vs) (h2 : vs[1]? = some (.str fd.qualname t)) (gl : fd.globals = 3) (bi : fd.builtins = 0) (sc : fd.scope = (nE f).scope) (mk : ∀ P, yT.lookup f = some P -> OH (wo w h) fd.code (fd.qualname ++ ".<locals>.") P) (ha : autoParam (a ∉ tabs) tD) (hct : autoParam (c ∉ tabs) tD) : uL (wo w h) f a fd :=
 ⟨D.glo hm, ⟨o, D.look e ha, hf⟩, hb, hc, hcd ▸ D.code ec h1 h2 hct, gl, bi, sc, mk⟩
end
section
variable {w : World} {h : Heap} {mg mb m : Str -> Option Value} (D : Wd w h mg mb) {f : Str} {fd : FuncData} {us : List Value} {n : Nat} {α : Type}
noncomputable abbrev Gh (w : World) (h : Heap) (f : Str) : Prop := ∃ a fd, uL (wo w h) f a fd /\ ∀ us : List Value, us.length = (nE f).params.length -> ph (wo w h) f fd us [] us
theorem NS (e : yT.lookup f = none) {Q : Addr -> Prop} : ∀ P, yT.lookup f = some P -> Q P := λ P q => by rw [e] at q; cases q
theorem N3 {ws : List Value} (h : bindArgs fd ⟨us, []⟩ = pure ((nE f).params.zip us)) {W : Wo} : ph W f fd us [] us := λ A s _ => by rw [h]; exact ai ⟨rfl, rfl⟩
noncomputable def Ln (Q : List α -> Prop) : Nat -> List α -> Prop
 | 0, l => Q l.reverse
 | n + 1, l => ∀ a, Ln Q n (a :: l)
theorem G3 {Q : List α -> Prop} : ∀ {n : Nat} {us l : List α}, us.length = n -> Ln Q n l -> Q (l.reverse ++ us)
 | 0, us, l, h, q => by cases ik h; rw [cI]; exact q
 | n + 1, us, l, h, q => by
  obtain ⟨a, r, rfl, e⟩ := IO h
  have := G3 e (q a)
  rwa [List.reverse_cons, bU] at this
theorem Lv {W : Wo} (h : Ln (λ us => bindArgs fd ⟨us, []⟩ = pure ((nE f).params.zip us)) (nE f).params.length []) : ∀ us : List Value, us.length = (nE f).params.length -> ph W f fd us [] us := λ us e => N3 (ws := us) (G3 (us := us) (l := []) e h)
include D
theorem Wd.one (a c : Addr) {o oc : Obj} {vs : Array Value} {t : Tok} (hm : mg f = some (.ref a)) (e : (hd.heap_1 w.params).lookup a = some o) (hf : o.data = .func fd) (hb : fd.body = .stmts (nE f).body) (hc : fd.closure = []) (hcd : fd.code = .ref c) (ec : (hd.heap_1 w.params).lookup c = some oc) (h1 : oc.data = .fields vs) (h2 : vs[1]? = some (.str fd.qualname t)) (gl : fd.globals = 3) (bi : fd.builtins = 0) (sc : fd.scope = (nE f).scope)
  (hln : Ln (λ us => bindArgs fd ⟨us, []⟩ = pure ((nE f).params.zip us)) (nE f).params.length []) (ha : autoParam (a ∉ tabs) tD) (hct : autoParam (c ∉ tabs) tD) (hk : autoParam (yT.lookup f = none) tD) : Gh w h f :=
 ⟨a, fd, D.dat a c hm e hf hb hc hcd ec h1 h2 gl bi sc (NS hk) ha hct, Lv hln⟩
theorem Wd.law : ∃ fd, uL (wo w h) "law" 185 fd /\ ∀ us : List Value, us.length = (nE "law").params.length -> ph (wo w h) "law" fd us [] us :=
 ⟨_, D.dat 185 184 ((D.ns rfl rfl _).trans (by kernel_rfl)) rfl rfl rfl rfl rfl rfl rfl rfl rfl rfl rfl λ P hP => by cases hP; exact D.mkf (by decide) ⟨_, _, _, _, _, _, _, _, _, D.look (a := 184) rfl, rfl, rfl, rfl, rfl, rfl, rfl, rfl, rfl, by decide⟩ λ pos => (show _ = pO 182 pos by unfold pO; rw [if_neg (by decide)]; rfl), Lv λ _ => rfl⟩
set_option maxHeartbeats 8000000 in
theorem Wd.defs : ∀ f ∈ qg, Gh w h f := by
 unfold qg
 refine aD.mpr ⟨D.one 125 124 ((D.ns rfl rfl _).trans (by kernel_rfl)) rfl rfl rfl rfl rfl rfl rfl rfl rfl rfl rfl (λ _ _ _ => rfl), ?_⟩
 refine aD.mpr ⟨D.one 132 131 ((D.ns rfl rfl _).trans (by kernel_rfl)) rfl rfl rfl rfl rfl rfl rfl rfl rfl rfl rfl (λ _ _ => rfl), ?_⟩
 refine aD.mpr ⟨D.one 139 138 ((D.ns rfl rfl _).trans (by kernel_rfl)) rfl rfl rfl rfl rfl rfl rfl rfl rfl rfl rfl (λ _ _ _ _ _ => rfl), ?_⟩
 refine aD.mpr ⟨D.one 146 145 ((D.ns rfl rfl _).trans (by kernel_rfl)) rfl rfl rfl rfl rfl rfl rfl rfl rfl rfl rfl (λ _ _ _ _ _ => rfl), ?_⟩
 refine aD.mpr ⟨D.one 151 150 ((D.ns rfl rfl _).trans (by kernel_rfl)) rfl rfl rfl rfl rfl rfl rfl rfl rfl rfl rfl (λ _ _ _ _ _ _ _ => rfl), ?_⟩
 refine aD.mpr ⟨D.one 156 155 ((D.ns rfl rfl _).trans (by kernel_rfl)) rfl rfl rfl rfl rfl rfl rfl rfl rfl rfl rfl (λ _ _ _ _ _ _ => rfl), ?_⟩
 refine aD.mpr ⟨D.one 163 162 ((D.ns rfl rfl _).trans (by kernel_rfl)) rfl rfl rfl rfl rfl rfl rfl rfl rfl rfl rfl (λ _ _ _ _ _ => rfl), ?_⟩
 refine aD.mpr ⟨D.one 168 167 ((D.ns rfl rfl _).trans (by kernel_rfl)) rfl rfl rfl rfl rfl rfl rfl rfl rfl rfl rfl (λ _ _ _ _ _ => rfl), ?_⟩
 refine aD.mpr ⟨D.one 173 172 ((D.ns rfl rfl _).trans (by kernel_rfl)) rfl rfl rfl rfl rfl rfl rfl rfl rfl rfl rfl (λ _ _ _ _ _ _ _ _ _ => rfl), ?_⟩
 refine aD.mpr ⟨D.one 97 96 ((D.ns rfl rfl _).trans (by kernel_rfl)) rfl rfl rfl rfl rfl rfl rfl rfl rfl rfl rfl (λ _ _ _ _ => rfl), ?_⟩
 refine aD.mpr ⟨D.one 104 103 ((D.ns rfl rfl _).trans (by kernel_rfl)) rfl rfl rfl rfl rfl rfl rfl rfl rfl rfl rfl (λ _ _ _ _ => rfl), ?_⟩
 refine aD.mpr ⟨D.one 111 110 ((D.ns rfl rfl _).trans (by kernel_rfl)) rfl rfl rfl rfl rfl rfl rfl rfl rfl rfl rfl (λ _ _ _ _ _ => rfl), ?_⟩
 refine aD.mpr ⟨D.one 118 117 ((D.ns rfl rfl _).trans (by kernel_rfl)) rfl rfl rfl rfl rfl rfl rfl rfl rfl rfl rfl (λ _ _ _ _ => rfl), ?_⟩
 refine aD.mpr ⟨D.one 180 179 ((D.ns rfl rfl _).trans (by kernel_rfl)) rfl rfl rfl rfl rfl rfl rfl rfl rfl rfl rfl (λ _ _ _ _ _ => rfl), ?_⟩
 exact aD.mpr ⟨⟨185, D.law⟩, nofun⟩
theorem Wd.lcas : ∃ a fd, uL (wo w h) "_find_lcas" a fd /\ (∃ t, ∀ a b c d e, ph (wo w h) "_find_lcas" fd [a, b, c, d] [("shallows", e)] [a, b, c, d, .int 0 t, e]) /\ ∀ a b c d e g, ph (wo w h) "_find_lcas" fd [a, b, c, d] [("min_stamp", e), ("shallows", g)] [a, b, c, d, e, g] :=
 ⟨90, _, D.dat 90 89 ((D.ns rfl rfl _).trans (by kernel_rfl)) rfl rfl rfl rfl rfl rfl rfl rfl rfl rfl rfl λ P hP => by cases hP; exact D.mkf (by decide) ⟨_, _, _, _, _, _, _, _, _, D.look (a := 89) rfl, rfl, rfl, rfl, rfl, rfl, rfl, rfl, rfl, by decide⟩ λ pos => (show _ = pO 87 pos by unfold pO; rw [if_pos rfl]; rfl),
  ⟨_, λ _ _ _ _ _ _ _ hst => (jh (T := 85) rfl (hst _ _ (D.look (a := 85) rfl)) rfl rfl rfl) _ _ _ _ ⟨rfl, rfl⟩⟩, λ _ _ _ _ _ _ _ _ hst => (jh (T := 85) rfl (hst _ _ (D.look (a := 85) rfl)) rfl rfl rfl) _ _ _ _ ⟨rfl, rfl⟩⟩
omit D in
set_option tactic.hygienic true in
theorem C4 {es : Array DictEntry} (hk : es.toList.all (λ e => match e.key with | .str _ _ => true | _ => false) = true) : StrKeys es := λ e he => by
 have := aU.mp hk e (jy.mpr he)
 split at this
 ·rename_i n t q; exact ⟨n, t, q⟩
 ·cases this
theorem Wd.meth (f c : Addr) {ps : List Str} {names : List (Str × NameKind)} {gen : Bool} {body : List Stmt} {o oc : Obj} {vs : Array Value} {t : Tok} (e : (hd.heap_1 w.params).lookup f = some o) (hc : o.cls = .type "function") (hf : o.data = .func fd) (hb : fd.body = .stmts body) (hcl : fd.closure = []) (hcd : fd.code = .ref c) (ec : (hd.heap_1 w.params).lookup c = some oc) (h1 : oc.data = .fields vs) (h2 : vs[1]? = some (.str fd.qualname t)) (gl : fd.globals = 3) (bi : fd.builtins = 0) (hk : fd.scope.kind = .function) (co : fd.scope.isCoroutine = false) (hg : fd.scope.isGenerator = gen) (hn : fd.scope.names = names)
  (hln : Ln (λ us => bindArgs fd ⟨us, []⟩ = pure (ps.zip us)) ps.length []) (ha : autoParam (f ∉ tabs) tD) (hct : autoParam (c ∉ tabs) tD) : sC (wo w h) f ps names gen body fd :=
 ⟨⟨o, D.look e ha, hc, hf⟩, hb, hcl, hcd ▸ D.code ec h1 h2 hct, gl, bi, hk, co, hg, hn, λ us e => G3 (us := us) (l := []) e hln⟩
theorem Wd.wl : ∃ N mN fi fa fg ft, O3 (wo w h) N mN fi fa fg ft :=
 ⟨79, _, 56, 63, 70, 77, ⟨⟨⟨⟨_, _, _, _, _, _, _, _, _, _, _, _, D.look (a := 80) rfl⟩, ⟨_, _, _, D.look (a := 79) rfl, rfl, C4 rfl, λ _ => rfl⟩⟩, rfl, rfl, rfl, rfl, rfl, rfl, rfl, rfl⟩,
  ⟨_, _, _, _, _, D.meth 56 55 rfl rfl rfl rfl rfl rfl rfl rfl rfl rfl rfl rfl rfl rfl rfl λ _ => rfl⟩, ⟨_, λ n => [default, _, _, _, _, _, _, _, _, _, _, _, _, _, _].getD n default, D.meth 63 62 rfl rfl rfl rfl rfl rfl rfl rfl rfl rfl rfl rfl rfl rfl rfl λ _ _ => rfl⟩, ⟨_, λ n => [default, _, _, _, _, _, _, _, _, _, _, _, _, _, _, _, _, _, _, _, _].getD n default, D.meth 70 69 rfl rfl rfl rfl rfl rfl rfl rfl rfl rfl rfl rfl rfl rfl rfl λ _ => rfl⟩, ⟨_, λ n => [default, _, _, _, _, _, default, _, _, _, _, _, _, _].getD n default, D.meth 77 76 rfl rfl rfl rfl rfl rfl rfl rfl rfl rfl rfl rfl rfl rfl rfl λ _ => rfl⟩,
  D.glo ((D.ns rfl rfl _).trans (by kernel_rfl)), D.glo ((D.ns rfl rfl _).trans (by kernel_rfl)), D.glo ((D.ns rfl rfl _).trans (by kernel_rfl))⟩⟩
theorem Wd.hw : Hw (wo w h) := ⟨D.lm, ⟨_, D.look (a := cStatics) rfl⟩, λ f v e => D.gvals (f, v) (let ⟨_, _, h, _⟩ := List.lookup_eq_some_iff.mp e; h ▸ aq _ (.head _)), D.defs, D.wl, D.lcas⟩
end
theorem isList_eq {h : Heap} {l : Addr} {ws vs : List Value} (hL : h.IsList l vs.toArray) (hw : h.get? l = some (lObj ws 0)) : ws = vs := by
 obtain ⟨o, ho, _, n, hd⟩ := hL
 rw [hw] at ho
 cases ho
 have : mH ws.toArray 0 = mH vs.toArray n := hd
 injection this with q1 q2
 exact congrArg i8 q1
theorem law_top {w : World} {s : Shared} {mg mb : Str -> Option Value} {l : Addr} {vs : List Value} {ns : List Int} (D : Wd w s.heap mg mb) (hl : s.heap.get? l = some (lObj vs 0)) (hI : IntsAre vs ns) (hlen : ns.length <= 63) {E Q : Value -> Shared -> Prop}
  (hQ : ∀ s' G', Aw s (Fz.add (λ _ => none) l (lObj vs 0)) [] s' G' -> Q (.bool true) s') : wpAny (Mo (wo w s.heap)) callerA (call (.ref 185) [.ref l]) Q E s := by
 obtain ⟨fd, DA, hb⟩ := D.law
 have nl : l ∉ tabs := λ hm => by
  have := hl.symm.trans (D.t8 l hm)
  cases this
 have no : ∀ b, b ≠ l -> Fz.add (λ _ => none) l (lObj vs 0) b = none := λ b e => if_neg e
 refine ay ((J5 (ns := ns) D.hw DA hb).run callerA [] s (Fz.add (λ _ => none) l (lObj vs 0)) [.ref l] [] E ⟨rfl, by decide, by decide, λ b o e => ln _ e, [], rfl, λ e he => nomatch he⟩ rfl (λ b hb => ⟨jZ _ hb, no b λ e => nl (e ▸ hb)⟩) (λ P hP => ⟨#[], D.t8 P hP, trivial, λ pos cv e => nomatch e⟩) (λ b o e => ?_) ⟨_, _, rfl, ⟨l, vs, 0, rfl, Fz.add_self, At hI, ?_⟩, rfl⟩ rfl nofun) (λ u s' q_ => q_.casesOn λ pv G' e q v => ?_) λ _ _ e => e
 ·by_cases h : b = l
  ·subst h
   cases (Fz.add_self (G := λ _ => none) (a := b) (o := lObj vs 0)).symm.trans e
   exact hl
  ·cases (no b h).symm.trans e
 ·rw [hI.length]
  exact ac hlen (by decide)
 ·cases e
  cases v
  exact hQ s' G' q
end Mine.Internal
set_option tactic.hygienic true
theorem Mine.Internal.ok0 : PySem.Challenge.rw_ai0008_01.wellSaid = true := by kernel_rfl
set_option maxRecDepth 100000 in
set_option maxHeartbeats 8000000 in
theorem PySem.Challenge.cw_ai0008_01_holds : PySem.Challenge.rw_ai0008_01.Holds := by
 refine holds_law Mine.Internal.ok0 λ _ => Mine.Internal.hd ?_
 k_fill
 intro w s₀ s₁ mg mb G Y fa o pm cd doc dV kV ho hd hcd hD hmg hg args vals as hpre hlay hrd hwl hlo
 have KX := km_in_of Y
 km_tabs Y
 refine Ground.open G ?_
 intro T B D TE TW
 try (refine guard_noD D (by decide +kernel) ?_; clear D)
 km_lay T hmg ho hd cd
 have X : Mine.Internal.Wd w s₁.heap mg mb := ⟨KX, hT8, T.g, T.b, T.builtins, T.nolimit, T.bmain⟩
 have hmg' : mg "law" = some (.ref fa) := hmg
 have e1 := ((X.ns rfl rfl _).trans (by kernel_rfl) : mg "law" = some (.ref 185)).symm.trans hmg'
 cases e1
 clear hmg hmg' ho hd hcd hD
 wrow_args hpre hlay hrd hwl hlo
 rename_i zs hs hlay0 hL1 hr1 hl2 as4 as3 l vs as0 hL ra w1 r0 hI hr hc1 hc2
 obtain ⟨ws, hws⟩ : ∃ ws : List Value, s₁.heap.get? l = some (Mine.Internal.lObj ws 0) := by
  cases w1 with
  | list h1 h2 => exact ⟨_, h1⟩
 have e2 : ws = vs := Mine.Internal.isList_eq hL hws
 subst e2
 have hlen : zs.length <= 63 := by clear X KX Y G T B TE TW hT9 hT8; omega
 refine Mine.Internal.law_top X hws hI hlen λ s' G' q => ?_
 have old : ∀ b o, s₁.heap.get? b = some o -> b ∈ Mine.Internal.tabs -> o = tabObj #[] /\ isCodeTable s₁.heap b /\ ∃ ps, s'.heap.get? b = some (tabObj ps) := λ b o e hb => by
  refine ⟨bN (e.symm.trans (hT8 b hb)), ?_, let ⟨ps, h, _⟩ := q.tab b hb; ⟨ps, h⟩⟩
  obtain ⟨q, hq, rfl⟩ : ∃ q ∈ ([(89, 87), (184, 182)] : List (Addr × Addr)), q.2 = b := by
   rcases ag.mp hb with rfl | hb
   ·exact ⟨_, .head _, rfl⟩
   ·exact ⟨_, .tail _ (.head _), (ae.mp hb).symm⟩
  exact ((hT9 q hq).1.tab (hT9 q hq).2).isCodeTable
 refine ⟨.inl ⟨.bool true, .bool true, [], rfl, λ _ => rfl, .bool true, (by first | with_unfolding_all rfl | kernel_rfl), λ _ => ⟨k6, nofun⟩⟩, ⟨λ b o e => ?_, λ b o e => ?_⟩, q.rest.os, q.rest.gens (by rw [hg]; intro y hy; simp at hy)⟩
 ·by_cases hb : b ∈ Mine.Internal.tabs
  ·obtain ⟨rfl, ht, ps, hps⟩ := old b o e hb
   exact .inr (.inl ⟨ht, rfl, #[], ps, rfl, by rw [Array.empty_append]; exact hps⟩)
  ·exact .inl (q.kp b o hb e)
 ·by_cases hb : b ∈ Mine.Internal.tabs
  ·obtain ⟨_, _, ps, hps⟩ := old b o e hb
   exact ⟨_, hps⟩
  ·exact ⟨o, q.kp b o hb e⟩
