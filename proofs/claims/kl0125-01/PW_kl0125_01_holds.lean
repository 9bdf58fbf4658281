import PyProof.Rows.All
import Wide.All
import OpenK.AllK
import Wide.FinOn
import KE.BitLaws
import KE.KBytesWalk
import KE.KDictIter
import KE.BytesMake
import KE.KPar
import PyProof.DictItems
import KE.KParD
import OpenK.XSeg
import KE.KIntText
import PyProof.Rows.StrClose
import PyProof.Rows.StrClose3
import PyProof.Rows.ShownEnds
import PyProof.Rows.StrFit
import PySem.Challenge.RW_kl0125_01
open PySem.Str renaming ofString → aa, empty → aj, length → du
open List renaming getD_eq_getElem?_getD → ab, getElem?_eq_getElem → ac, range → ae, map_cons → ag, length_map → al, mem_append → an, getElem?_map → ar, mem_of_getElem? → av, length_append → aw, length_cons → ay, mem_range → az, all_eq_true → aA, nodup_cons → aB, getElem?_eq_some_iff → aC, mem_map_of_mem → aF, nodup_append → aH, map_append → aM, toArray → aN, foldl_cons → aR, map_map → aT, lookup_cons → aX, cons_append → aY, getElem?_append_right → bb, nil_append → bi, mem_filter → bl, mem_iff_getElem → bn, drop_eq_getElem_cons → bp, length_take → bq, take_of_length_le → bt, sum_cons → bx, range' → bC, append_nil → bE, getElem_mem → bG, filter_cons → bH, take_add_one → bK, mem_filterMap → bQ, length_nil → bU, map_congr_left → bW, getElem?_range → bX, map_nil → b6, filterMap_cons → b7, mem_cons → b9, mem_singleton → cm, foldl_append → ct, flatten_cons → cu, extract_eq_take_drop → cE, not_mem_nil → cH, filter_append → cI, drop_append_of_le_length → cO, zipWith → cY, map_id' → cZ, take_length → c4, any_eq_true → c5, filterMap_map → c7, contains_iff_mem → da, getElem?_append_left → dj, filterMap_eq_nil_iff → dk, size_toArray → dm, append_assoc → dn, length_eq_zero_iff → dy, isEmpty_iff → dz, filter_eq_nil_iff → dG, take_append_drop → dO, length_range → dQ, mem_of_mem_drop → dX, foldl_nil → dY, findIdx?_cons → ef, flatMap_cons → ew, length_filter_le → eF, getElem?_toArray → eG, getElem?_eq_none → eH, drop_length → eJ, take_nil → eL, take_append_of_le_length → eO, mem_of_mem_take → eP, mem_append_left → eQ, map_id → eR, range_succ → eV, forIn_cons → eW, flatMap_append → fe, drop_succ_cons → ff, mem_map → fo, filter_congr → fD, range'_succ → fJ, zipWith_cons_cons → fO, range_succ_eq_map → fP, Nodup → fQ, mem_append_right → fV, filterMap_append → fW, range'_append_1 → gi, lookup → gj, filterMap → gk, toList_toArray → gA, take_succ_cons → gB, length_zipWith → gC, map_drop → gG, any_eq_false → gW, take_append → hU, mem_flatMap → hY, filter_map → ir, drop_zero → iK, getElem?_eq_none_iff → iW, findIdx?_eq_none_iff → iX, map_take → i4, drop_eq_nil_of_le → jc, length_singleton → ji, getElem?_zipWith → jj, take_eq_nil_iff → jl, getD_cons_zero → jn, getD_cons_succ → jo, zip_cons_cons → jt, range'_concat → ju, find?_eq_none → jv, filterMap_nil → jw
open Nat renaming le_trans → ad, lt_of_lt_of_le → ao, le_refl → ap, le_add_left → aq, le_add_right → aK, mul_le_mul_left → aW, add_le_add → bc, le_of_eq → bd, zero_le → be, lt_of_le_of_lt → bg, lt_irrefl → bB, le_of_lt → bD, zero_testBit → bI, le_succ_of_le → bL, mod_lt → bR, min_le_right → bV, eq_of_beq_eq_true → bY, pow_le_pow_right → b0, ne_of_lt → ci, beq → cj, add_le_add_right → cp, le_of_lt_succ → cw, le_max_right → cL, lt_trans → cN, land → cR, add_sub_cancel_left → cS, min_le_left → cW, le_max_left → cX, le_of_not_lt → c6, sub_pos_of_lt → dq, lt_succ_of_le → dt, shiftLeft_eq → dD, sub_le → dI, blt → dJ, add_comm → dK, le_of_succ_le → dS, le_sub_of_add_le → d4, beq_eq → d5, pow_succ → d9, blt_eq → ei, testBit_lt_two_pow → eB, testBit_eq_decide_div_mod_eq → eC, shiftRight → eD, lor → eE, le_succ → eT, add_sub_cancel' → fn, mul_comm → ft, not_lt → fB, add_zero → fS, two_pow_pos → fT, not_lt_zero → fU, mul_le_mul_right → gu, mul_le_mul → gv, eq_of_testBit_eq → gx, div_lt_of_lt_mul → gy, mul → gz, testBit_two_pow → gF, succ_ne_self → ij, lt_succ_self → ik, testBit_and → iE, strongRecOn → iF, mul_eq_zero → iG, mod_two_eq_zero_or_one → iU, add_lt_add_of_lt_of_le → iV, mul_assoc → i9, lt_succ_iff_lt_or_eq → ja, testBit_mul_two_pow → jb, lt_of_succ_lt_succ → jh, sub_le_sub_right → jm, sub_lt_sub_left → jr
open PySem renaming wpAny_assign_Name → af, wpAny_bind → ai, wpAny_mono → am, Around → au, sizeLine_eq → aD, GenState → aE, Builtin → aO, wpAny_pure → aP, sizeLine → aS, starEach → bo, NameKind → br, wpAny_loadName_local → bz, foldedSetIterable → bA, assign → bM, wpAny_standAt → bP, mainGlobals → bS, builtinsNs → ca, relabel → cb, codeAny → cf, cellsFrom → cr, pyIter → cC, letOwnedTupleGo → cG, wpAny_storeName_local → cM, strIterType → cT, newFunctionEnv → cU, backTo → cV, codeAny_mono → c9, wpAny_holding → dg, binaryOp → dv, DictEntry → dL, wpAny_of_eq → dN, wpAny_Name → eb, callWith → ec, wpAny_Constant_bool → eh, wpAny_comprehension_free → ek, Comprehension → em, theTreesLotGoes → eo, spliced → eu, wpAny_Assign_Name → eK, wpAny_call → eZ, cameBackBy → fb, newList → fh, subscripted → fq, slicePick_upto' → fx, slicePick_from' → fy, Result → fz, compareOp → fE, sysModules → fG, assignEach → fH, wpAny_newObj_type → fL, standAt → fM, getMethod_builtin → fN, PyData → fR, wpAny_call_entry → fZ, wpAny_callSpecial?_slot → f0, noteFrame → ga, getMethod → gb, compPost → gf, cStatics → gg, rawInt → gn, builtinLookup_eq_fast → gD, wpAny_newTuple → gK, wpAny_newFunctionEnv → gL, wpAny_BinOp → gM, letTemporaryGo → gN, isSubtype_type → gO, firstArgMember → gP, FuncData → gU, codeAny_forLoop_any → gZ, wpAny_onRaise → g7, wpAny_newList → g8, swappedStores → g9, assignInOrder → hJ, wpAny_Constant_int → ib, pyNext → ic, call_meets → ie, wpAny_truthy_bool → iu, wpAny_pyIter_list → iv, wpAny_pyIter_enum → iw, operate → ix, getItem → iy, bindArgs → iz, backToKw → iA, wpAny_updatePart → iM, wpAny_execs_cons → iN, wpAny_askSetting → iO, storeName → iP, slicePick → iQ, inplaceOp → iR, denote → iS, wpAny_field → iY, wpAny_alloc → iZ, typeLookup_type → i7, wpAny_loadPart → jd, typeIs_str → je, recursionLimit → jf
open PyProof.Rows renaming assignInOrder_cons → ak, assignInOrder_nil → aL, spliced_more → bJ, StrsAre → cg, spliced_none → c8, subscriptTail → dU, IntsAre → d6, fit_lower → fv, bindName_ → fF, Attribute_name → fI, evalArgs_none → gH, fit_swapcase → gQ, AllBare → gY, add_str → ip
open Bool renaming false_ne_true → ax, and_eq_true_iff → aU, eq_iff_iff → bF, and_eq_true → co, or_eq_true → cA, false_and → cP, and_false → cQ, not_eq_true → dB, not_eq_true' → ez, false_eq_true → gJ, noConfusion → ia, true_and → i5, false_or → i6
open PySem.Heap renaming get?_push_size → aG, lt_size → aJ, SameBut → c0, get?_push_of_some → dH, get?_update_self → dP, size_push → fw, get? → hZ
open PySem.Txt renaming swapcase → aI, lower → aQ, slice → bk, split → cz, item → dp, join → dC, slice_le → d8, replace → gq
open PySem.W renaming emptyDict → aV, instObj → fj, hideAll → gp, methodCall_KW → hH, codeRec_of → jg
open Int renaming ofNat → aZ, toNat_natCast → bf, natCast_nonneg → bm, ofNat_lt → bu, fmod_nonneg_of_pos → cx, fdiv_eq_ediv_of_nonneg → cy, fmod_lt_of_pos → db, fmod_eq_emod_of_nonneg → dc, toNat_of_nonneg → dA, ofNat_eq_natCast → eU, lt_of_lt_of_le → gS
open PySem.Data renaming fields → ba
open PySem.Builtin.Str renaming occurrences → bj, tooLong → bw, partsBetween → de, glued → eX, strKind → iL
open Option renaming map_eq_some_iff → bN, getD_some → dW, map_some → fK
open PySem.Builtin.Range renaming small → bO, rangeSize → di
open LawfulBEq renaming eq_of_beq → bT
open PySem.Obj renaming mk → bZ, mapDictKeys → fc
open PySem.Expr renaming Name → b8, ListComp → eM
open PySem.NameKind renaming free → cq, cell → dF
open Array renaming getElem?_eq_getElem → cB, toList_extract → dl, toList_inj → dw, getElem?_toList → dM, length_toList → eY, getD_eq_getD_getElem? → fg, getElem?_eq_some_iff → fu, toList → gV, getElem?_append_left → iI, findIdx?_empty → jk, extract_size → jp
open Inhabited renaming default → cD
open PySem.Value renaming int → cF, none → dT, str → dZ, ref → d0, bytes → gh, type → gE
open PySem.Sem renaming wp → cJ, bind_eq_wrap' → eA, wrap_wrap → eN, bind_eq_wrap → ig, onRaise_eq_wrap → jq
open Option.some renaming inj → cK
open PySem.DictEntry renaming mk → dd
open PySem.Heap.SameBut renaming update → dh
open PySem.Builtin renaming bitAnd → dR, bitOr → gl, bitXor → im
open ForInStep renaming yield → d7
open PySem.Calls renaming Constant_str → ed, Name_function_global → gR, call_function_entry → g0
open PySem.W.KBw renaming iter_typeIs → eg, slot_next → eS, IsBytesIter → fX
open PySem.PyData renaming keyHash → ej, int → iq
open PySem.Around renaming frames_deeper → fY
open PySem.Builtin.Generator renaming genWake → gm
open PySem.Builtin.List renaming listFitsIndex → gI
open PySem.Code renaming builtin → gX
open PySem.F renaming args_str_split_2 → g6, entry_str_split → il, slot_str_split → iH
open PySem.W.WShape renaming hasItems → hO
open PySem.Walks renaming list → iB
open PySem.SeqAt renaming EqAt → iC, eq_list_lengthsAt → i3
open PySem.SC renaming swapcase → iD
open PySem.Shared renaming setGen → iJ
open PyProof renaming noPylong_small → iT
open PySem.ScopeKind renaming function → i8
open PySem PySem.W PySem.Calls PySem.Spec PyProof.Rows
set_option Elab.async false
set_option linter.all false
set_option maxRecDepth 100000
set_option maxHeartbeats 8000000
set_option compiler.extract_closed false
set_option genInjectivity false
set_option genSizeOf false
set_option genSizeOfSpec false
namespace Mine
noncomputable abbrev VP := Value → Shared → Prop
noncomputable abbrev VH := Nat → Value → Heap → Prop
section
theorem mSg {α : Type} {a b : α} (h : a ∈ [b]) : a = b := cm.mp h
theorem mAp {α : Type} {a : α} {s t : List α} (h : a ∈ s ++ t) : a ∈ s ∨ a ∈ t := an.mp h
theorem mCo {α : Type} {a b : α} {l : List α} (h : a ∈ b :: l) : a = b ∨ a ∈ l := b9.mp h
theorem mMa {α β : Type} {f : α → β} {b : β} {l : List α} (h : b ∈ l.map f) : ∃ a, a ∈ l ∧ f a = b := fo.mp h
theorem mz {α : Type} {zs : List α} {j : Nat} {d : α} (h : j < zs.length) : zs[j]? = some (zs.getD j d) := by rw [ab, ac h]; rfl
theorem qd {α : Type} {ts : List α} {i : Nat} {t d : α} (h : ts[i]? = some t) : ts.getD i d = t := by rw [ab, h]; rfl
theorem kM {α : Type} {zs : List α} {j : Nat} {d : α} (h : j < zs.length) : zs.getD j d ∈ zs := av (mz h)
theorem r110l {α ω : Type} {o : α → ω} {y : ω} (h : ∃ a, y = o a) {z : ω → Prop} (k : ∀ a, z (o a)) : z y := by obtain ⟨a, rfl⟩ := h; exact k a
theorem r330l {α β γ ω : Type} {q r : α → β → γ → Prop} {o : α → β → γ → ω} {y : ω} (h : ∃ a b c, y = o a b c ∧ q a b c ∧ r a b c) {z : ω → Prop} (k : ∀ a b c, q a b c → r a b c → z (o a b c)) : z y := by obtain ⟨a, b, c, rfl, h1, h2⟩ := h; exact k a b c h1 h2
theorem r340l {α β γ ω : Type} {q r s : α → β → γ → Prop} {o : α → β → γ → ω} {y : ω} (h : ∃ a b c, y = o a b c ∧ q a b c ∧ r a b c ∧ s a b c) {z : ω → Prop} (k : ∀ a b c, q a b c → r a b c → s a b c → z (o a b c)) : z y := by obtain ⟨a, b, c, rfl, h1, h2, h3⟩ := h; exact k a b c h1 h2 h3
theorem x03 {p q r : Prop} {z : Prop} (h : p ∧ q ∧ r) (k : p → q → r → z) : z := by obtain ⟨h0, h1, h2⟩ := h; exact k h0 h1 h2
theorem x04 {p q r s : Prop} {z : Prop} (h : p ∧ q ∧ r ∧ s) (k : p → q → r → s → z) : z := by obtain ⟨h0, h1, h2, h3⟩ := h; exact k h0 h1 h2 h3
theorem x07 {p q r s t u v : Prop} {z : Prop} (h : p ∧ q ∧ r ∧ s ∧ t ∧ u ∧ v) (k : p → q → r → s → t → u → v → z) : z := by obtain ⟨h0, h1, h2, h3, h4, h5, h6⟩ := h; exact k h0 h1 h2 h3 h4 h5 h6
theorem x12 {α : Type} {p q : α → Prop} {z : Prop} (h : ∃ a, p a ∧ q a) (k : ∀ a, p a → q a → z) : z := by obtain ⟨a, h0, h1⟩ := h; exact k a h0 h1
theorem x13 {α : Type} {p q r : α → Prop} {z : Prop} (h : ∃ a, p a ∧ q a ∧ r a) (k : ∀ a, p a → q a → r a → z) : z := by obtain ⟨a, h0, h1, h2⟩ := h; exact k a h0 h1 h2
theorem x15 {α : Type} {p q r s t : α → Prop} {z : Prop} (h : ∃ a, p a ∧ q a ∧ r a ∧ s a ∧ t a) (k : ∀ a, p a → q a → r a → s a → t a → z) : z := by obtain ⟨a, h0, h1, h2, h3, h4⟩ := h; exact k a h0 h1 h2 h3 h4
theorem x16 {α : Type} {p q r s t u : α → Prop} {z : Prop} (h : ∃ a, p a ∧ q a ∧ r a ∧ s a ∧ t a ∧ u a) (k : ∀ a, p a → q a → r a → s a → t a → u a → z) : z := by obtain ⟨a, h0, h1, h2, h3, h4, h5⟩ := h; exact k a h0 h1 h2 h3 h4 h5
theorem x21 {α β : Type} {p : α → β → Prop} {z : Prop} (h : ∃ a b, p a b) (k : ∀ a b, p a b → z) : z := by obtain ⟨a, b, h0⟩ := h; exact k a b h0
theorem x22 {α β : Type} {p q : α → β → Prop} {z : Prop} (h : ∃ a b, p a b ∧ q a b) (k : ∀ a b, p a b → q a b → z) : z := by obtain ⟨a, b, h0, h1⟩ := h; exact k a b h0 h1
theorem x23 {α β : Type} {p q r : α → β → Prop} {z : Prop} (h : ∃ a b, p a b ∧ q a b ∧ r a b) (k : ∀ a b, p a b → q a b → r a b → z) : z := by obtain ⟨a, b, h0, h1, h2⟩ := h; exact k a b h0 h1 h2
theorem x24 {α β : Type} {p q r s : α → β → Prop} {z : Prop} (h : ∃ a b, p a b ∧ q a b ∧ r a b ∧ s a b) (k : ∀ a b, p a b → q a b → r a b → s a b → z) : z := by obtain ⟨a, b, h0, h1, h2, h3⟩ := h; exact k a b h0 h1 h2 h3
theorem x25 {α β : Type} {p q r s t : α → β → Prop} {z : Prop} (h : ∃ a b, p a b ∧ q a b ∧ r a b ∧ s a b ∧ t a b) (k : ∀ a b, p a b → q a b → r a b → s a b → t a b → z) : z := by obtain ⟨a, b, h0, h1, h2, h3, h4⟩ := h; exact k a b h0 h1 h2 h3 h4
theorem x31 {α β γ : Type} {p : α → β → γ → Prop} {z : Prop} (h : ∃ a b c, p a b c) (k : ∀ a b c, p a b c → z) : z := by obtain ⟨a, b, c, h0⟩ := h; exact k a b c h0
theorem x32 {α β γ : Type} {p q : α → β → γ → Prop} {z : Prop} (h : ∃ a b c, p a b c ∧ q a b c) (k : ∀ a b c, p a b c → q a b c → z) : z := by obtain ⟨a, b, c, h0, h1⟩ := h; exact k a b c h0 h1
theorem x34 {α β γ : Type} {p q r s : α → β → γ → Prop} {z : Prop} (h : ∃ a b c, p a b c ∧ q a b c ∧ r a b c ∧ s a b c) (k : ∀ a b c, p a b c → q a b c → r a b c → s a b c → z) : z := by obtain ⟨a, b, c, h0, h1, h2, h3⟩ := h; exact k a b c h0 h1 h2 h3
theorem x43 {α β γ δ : Type} {p q r : α → β → γ → δ → Prop} {z : Prop} (h : ∃ a b c d, p a b c d ∧ q a b c d ∧ r a b c d) (k : ∀ a b c d, p a b c d → q a b c d → r a b c d → z) : z := by obtain ⟨a, b, c, d, h0, h1, h2⟩ := h; exact k a b c d h0 h1 h2
theorem x44 {α β γ δ : Type} {p q r s : α → β → γ → δ → Prop} {z : Prop} (h : ∃ a b c d, p a b c d ∧ q a b c d ∧ r a b c d ∧ s a b c d) (k : ∀ a b c d, p a b c d → q a b c d → r a b c d → s a b c d → z) : z := by obtain ⟨a, b, c, d, h0, h1, h2, h3⟩ := h; exact k a b c d h0 h1 h2 h3
theorem x45 {α β γ δ : Type} {p q r s t : α → β → γ → δ → Prop} {z : Prop} (h : ∃ a b c d, p a b c d ∧ q a b c d ∧ r a b c d ∧ s a b c d ∧ t a b c d) (k : ∀ a b c d, p a b c d → q a b c d → r a b c d → s a b c d → t a b c d → z) : z := by obtain ⟨a, b, c, d, h0, h1, h2, h3, h4⟩ := h; exact k a b c d h0 h1 h2 h3 h4
theorem x54 {α β γ δ ε : Type} {p q r s : α → β → γ → δ → ε → Prop} {z : Prop} (h : ∃ a b c d e, p a b c d e ∧ q a b c d e ∧ r a b c d e ∧ s a b c d e) (k : ∀ a b c d e, p a b c d e → q a b c d e → r a b c d e → s a b c d e → z) : z := by obtain ⟨a, b, c, d, e, h0, h1, h2, h3⟩ := h; exact k a b c d e h0 h1 h2 h3
theorem al1 {α : Type} {P : α → Prop} {x : α} (h : P x) : ∀ b ∈ [x], P b := fun b hb => cm.mp hb ▸ h
theorem al2 {α : Type} {P : α → Prop} {x : α} {l : List α} (h : P x) (hl : ∀ b ∈ l, P b) : ∀ b ∈ x :: l, P b := by
 intro b hb; rcases b9.mp hb with rfl | hb
 · exact h
 exact hl b hb
theorem lt2 {P : Nat → Prop} (h0 : P 0) (h1 : P 1) : ∀ i, i < 2 → P i := by
 intro i h; rcases i with _ | _ | i
 · exact h0
 · exact h1
 exact absurd h (fB.mpr (aq 2 i))
theorem lt5 {P : Nat → Prop} (h0 : P 0) (h1 : P 1) (h2 : P 2) (h3 : P 3) (h4 : P 4) : ∀ i, i < 5 → P i := by
 intro i h; rcases i with _ | _ | _ | i
 · exact h0
 · exact h1
 · exact h2
 exact lt2 (P := fun j => P (j + 3)) h3 h4 i (Nat.lt_of_add_lt_add_right h)
theorem lt6 {P : Nat → Prop} (h0 : P 0) (h1 : P 1) (h2 : P 2) (h3 : P 3) (h4 : P 4) (h5 : P 5) : ∀ i, i < 6 → P i := by
 intro i h; rcases i with _ | i
 · exact h0
 exact lt5 (P := fun j => P (j + 1)) h1 h2 h3 h4 h5 i (jh h)
theorem len6 {α : Type} {P : List α → Prop} (h : ∀ a b c d e f, P [a, b, c, d, e, f]) : ∀ l, l.length = 6 → P l := by
 intro l e; rcases l with _ | ⟨a, _ | ⟨b, _ | ⟨c, _ | ⟨d, _ | ⟨g, _ | ⟨f, _ | ⟨x, l⟩⟩⟩⟩⟩⟩⟩
 · cases e
 · cases e
 · cases e
 · cases e
 · cases e
 · cases e
 · exact h ..
 simp at e
theorem len4 {α : Type} {l : List α} (h : l.length = 4) : ∃ a b c d, l = [a, b, c, d] := by
 rcases l with _ | ⟨a, _ | ⟨b, _ | ⟨c, _ | ⟨d, _ | ⟨x, l⟩⟩⟩⟩⟩
 · cases h
 · cases h
 · cases h
 · cases h
 · exact ⟨a, b, c, d, rfl⟩
 simp at h
end
section
noncomputable abbrev P0 : Program := PySem.Challenge.pw_kl0125_01
noncomputable def mI (l : List Stmt) (i : Nat) : Stmt := l.getD i (.Pass ⟨0, 0, 0, 0⟩)
noncomputable def kids : Stmt → List Stmt
 | .ClassDef _ _ _ body .. => body
 | _ => []
noncomputable abbrev dE (P : Params) (k : Str) (t : Nat) (v : Value) : dL := ⟨ej P k, .str k t, v⟩
noncomputable def fnO (st : Stmt) (q : Str) (df : Value) (md : Str) (t : Nat) (code : Addr) : Obj := match st with
 | .FunctionDef name args body _ _ _ scope _ _ _ => ⟨.type "function", none, .func { name := name, qualname := q, params := args, body := .stmts body, scope := scope, globals := 3, closure := [], defaults := df, kwdefaults := .none, pyModule := .str md t, code := .ref code }, #[]⟩
 | _ => ⟨.none, none, .plain, #[]⟩
noncomputable def KH (P : Params) : Frag := [
 (3, (bZ (.type "dict") none (Data.dict (aN [(dE P "__name__" 165 (.str "law_kl0125_01" 676)), (dE P "__doc__" 166 .none), (dE P "__package__" 167 .none), (dE P "__loader__" 168 (.builtin "__main__.__loader__#opaque")), (dE P "__spec__" 169 .none), (dE P "__annotations__" 170 (.ref 6)), (dE P "__builtins__" 171 (.ref 4)), (dE P "__file__" 173 (.str "/claim/cut.py" 172)), (dE P "__cached__" 174 .none), (dE P "_sre" 275 (.ref 12)), (dE P "_wall" 288 (.ref 38)), (dE P "_iter_escaped_chars" 300 (.ref 45)), (dE P "_strip_quoted_realnames" 312 (.ref 52)), (dE P "_check_parenthesis" 322 (.ref 59)), (dE P "COMPILER_FLAG_NAMES" 355 (.ref 60)), (dE P "pretty_flags" 365 (.ref 67)), (dE P "_Unknown" 392 (.ref 84)), (dE P "UNKNOWN" 393 (.ref 90)), (dE P "_get_name_info" 403 (.ref 97)), (dE P "_parse_varint" 412 (.ref 104)), (dE P "tspecials" 448 (.ref 109)), (dE P "_name_disallowed_re" 474 (.ref 114)), (dE P "_value_disallowed_re" 508 (.ref 119)), (dE P "_formatparam" 518 (.ref 127)), (dE P "Headers" 675 (.ref 248)), (dE P "_law_sums" 683 (.ref 257)), (dE P "_law_word" 690 (.ref 264)), (dE P "_law_octets" 698 (.ref 271)), (dE P "_law_numbers" 708 (.ref 278)), (dE P "_law_formula" 714 (.ref 283)), (dE P "_law_tree" 727 (.ref 290)), (dE P "_law_written" 735 (.ref 297)), (dE P "_law_ties" 741 (.ref 302)), (dE P "_law_one_tree" 747 (.ref 307)), (dE P "_law_letters" 753 (.ref 312)), (dE P "_law_proved" 759 (.ref 317)), (dE P "law" 765 (.ref 322))]) 37) #[])),
 (44, (bZ (.type "code") none (ba (aN [(.str "_iter_escaped_chars" 291), (.str "_iter_escaped_chars" 292), (.str "/claim/cut.py" 293), (.int 6 0), (.int 1 0), (.int 0 0), (.int 0 0), (.int 35 0), (.ref 39), (.bool true), (.int 276 0), (.ref 40), .none, (.ref 41), (.ref 42), (.ref 43), (.int 298 0), (.int 6 0), (.str "/claim/cut.py" 299)])) #[])),
 (45, fnO (mI P0.main.body 3) "_iter_escaped_chars" .none "cpy313.email.utils" 289 44),
 (51, (bZ (.type "code") none (ba (aN [(.str "_strip_quoted_realnames" 301), (.str "_strip_quoted_realnames" 302), (.str "/claim/cut.py" 303), (.int 19 0), (.int 1 0), (.int 0 0), (.int 0 0), (.int 3 0), (.ref 46), (.bool true), (.int 276 0), (.ref 47), .none, (.ref 48), (.ref 49), (.ref 50), (.int 310 0), (.int 19 0), (.str "/claim/cut.py" 311)])) #[])),
 (52, fnO (mI P0.main.body 4) "_strip_quoted_realnames" .none "cpy313.email.utils" 289 51),
 (58, (bZ (.type "code") none (ba (aN [(.str "_check_parenthesis" 313), (.str "_check_parenthesis" 314), (.str "/claim/cut.py" 315), (.int 37 0), (.int 1 0), (.int 0 0), (.int 0 0), (.int 3 0), (.ref 53), (.bool true), (.int 276 0), (.ref 54), .none, (.ref 55), (.ref 56), (.ref 57), (.int 320 0), (.int 37 0), (.str "/claim/cut.py" 321)])) #[])),
 (59, fnO (mI P0.main.body 5) "_check_parenthesis" .none "cpy313.email.utils" 289 58),
 (60, (bZ (.type "dict") none (Data.dict (aN [(dd 1 (.int 1 325) (.str "OPTIMIZED" 326)), (dd 2 (.int 2 327) (.str "NEWLOCALS" 328)), (dd 4 (.int 4 329) (.str "VARARGS" 330)), (dd 8 (.int 8 331) (.str "VARKEYWORDS" 332)), (dd 16 (.int 16 333) (.str "NESTED" 334)), (dd 32 (.int 32 335) (.str "GENERATOR" 336)), (dd 64 (.int 64 337) (.str "NOFREE" 338)), (dd 128 (.int 128 339) (.str "COROUTINE" 340)), (dd 256 (.int 256 341) (.str "ITERABLE_COROUTINE" 342)), (dd 512 (.int 512 343) (.str "ASYNC_GENERATOR" 344))]) 10) #[])),
 (66, (bZ (.type "code") none (ba (aN [(.str "pretty_flags" 356), (.str "pretty_flags" 357), (.str "/claim/cut.py" 358), (.int 50 0), (.int 1 0), (.int 0 0), (.int 0 0), (.int 3 0), (.ref 61), (.bool true), (.int 276 0), (.ref 62), .none, (.ref 63), (.ref 64), (.ref 65), (.int 363 0), (.int 50 0), (.str "/claim/cut.py" 364)])) #[])),
 (67, fnO (mI P0.main.body 8) "pretty_flags" .none "cpy313.dis" 323 66),
 (96, (bZ (.type "code") none (ba (aN [(.str "_get_name_info" 394), (.str "_get_name_info" 395), (.str "/claim/cut.py" 396), (.int 67 0), (.int 2 0), (.int 0 0), (.int 0 0), (.int 11 0), (.ref 91), (.bool true), (.int 276 0), (.ref 92), .none, (.ref 93), (.ref 94), (.ref 95), (.int 401 0), (.int 67 0), (.str "/claim/cut.py" 402)])) #[])),
 (97, fnO (mI P0.main.body 11) "_get_name_info" .none "cpy313.dis" 323 96),
 (103, (bZ (.type "code") none (ba (aN [(.str "_parse_varint" 404), (.str "_parse_varint" 405), (.str "/claim/cut.py" 406), (.int 73 0), (.int 1 0), (.int 0 0), (.int 0 0), (.int 3 0), (.ref 98), (.bool true), (.int 276 0), (.ref 99), .none, (.ref 100), (.ref 101), (.ref 102), (.int 410 0), (.int 73 0), (.str "/claim/cut.py" 411)])) #[])),
 (104, fnO (mI P0.main.body 12) "_parse_varint" .none "cpy313.dis" 323 103),
 (113, (bZ (.type "tuple") none (Data.seq (aN [(.int 14 0), (.int 10 0), (.int 4 0), (.int 1 0), (.int 1 0), (.int 22 0), (.int 0 0), (.int 31 0), (.int 16 0), (.int 127 0), (.int 0 0), (.int 13 0), (.int 7 0), (.int 22 0), (.int 0 0), (.int 31 0), (.int 16 0), (.int 127 0), (.int 0 0), (.int 1 0)]) 0) #[])),
 (114, (bZ (.type "re.Pattern") none (ba (aN [(.str "[\\x00-\\x1F\\x7F]" 450), (.int 32 473), (.int 0 0), .none, .none, (.ref 113), (.int 0 0)])) #[])),
 (118, (bZ (.type "tuple") none (Data.seq (aN [(.int 14 0), (.int 14 0), (.int 4 0), (.int 1 0), (.int 1 0), (.int 9 0), (.int 4294966783 0), (.int 0 0), (.int 0 0), (.int 2147483648 0), (.int 0 0), (.int 0 0), (.int 0 0), (.int 0 0), (.int 0 0), (.int 13 0), (.int 11 0), (.int 9 0), (.int 4294966783 0), (.int 0 0), (.int 0 0), (.int 2147483648 0), (.int 0 0), (.int 0 0), (.int 0 0), (.int 0 0), (.int 0 0), (.int 1 0)]) 0) #[])),
 (119, (bZ (.type "re.Pattern") none (ba (aN [(.str "[\\x00-\\x08\\x0A-\\x1F\\x7F]" 476), (.int 32 507), (.int 0 0), .none, .none, (.ref 118), (.int 0 0)])) #[])),
 (135, (bZ (.type "tuple") none (Data.seq (aN [.none]) 0) #[])),
 (141, (bZ (.type "code") none (ba (aN [(.str "__init__" 531), (.str "Headers.__init__" 532), (.str "/claim/cut.py" 533), (.int 96 0), (.int 2 0), (.int 0 0), (.int 0 0), (.int 3 0), (.ref 136), (.bool true), (.int 276 0), (.ref 137), .none, (.ref 138), (.ref 139), (.ref 140), (.int 538 0), (.int 96 0), (.str "/claim/cut.py" 539)])) #[])),
 (142, fnO (mI (kids (mI P0.main.body 18)) 0) "Headers.__init__" (.ref 135) "cpy313.wsgiref.headers" 413 141),
 (148, (bZ (.type "code") none (ba (aN [(.str "_convert_string_type" 541), (.str "Headers._convert_string_type" 542), (.str "/claim/cut.py" 543), (.int 106 0), (.int 2 0), (.int 0 0), (.int 1 0), (.int 3 0), (.ref 143), (.bool true), (.int 276 0), (.ref 144), .none, (.ref 145), (.ref 146), (.ref 147), (.int 548 0), (.int 106 0), (.str "/claim/cut.py" 549)])) #[])),
 (149, fnO (mI (kids (mI P0.main.body 18)) 1) "Headers._convert_string_type" .none "cpy313.wsgiref.headers" 413 148),
 (186, (bZ (.type "code") none (ba (aN [(.str "get_all" 589), (.str "Headers.get_all" 590), (.str "/claim/cut.py" 591), (.int 131 0), (.int 2 0), (.int 0 0), (.int 0 0), (.int 3 0), (.ref 183), (.bool true), (.int 276 0), (.ref 184), .none, .none, .none, (.ref 185), (.int 592 0), (.int 131 0), (.str "/claim/cut.py" 593)])) #[])),
 (187, fnO (mI (kids (mI P0.main.body 18)) 7) "Headers.get_all" .none "cpy313.wsgiref.headers" 413 186),
 (188, (bZ (.type "tuple") none (Data.seq (aN [.none]) 0) #[])),
 (194, (bZ (.type "code") none (ba (aN [(.str "get" 595), (.str "Headers.get" 596), (.str "/claim/cut.py" 597), (.int 135 0), (.int 3 0), (.int 0 0), (.int 0 0), (.int 3 0), (.ref 189), (.bool true), (.int 276 0), (.ref 190), .none, (.ref 191), (.ref 192), (.ref 193), (.int 603 0), (.int 135 0), (.str "/claim/cut.py" 604)])) #[])),
 (195, fnO (mI (kids (mI P0.main.body 18)) 8) "Headers.get" (.ref 188) "cpy313.wsgiref.headers" 413 194),
 (199, (bZ (.type "code") none (ba (aN [(.str "keys" 606), (.str "Headers.keys" 607), (.str "/claim/cut.py" 608), (.int 142 0), (.int 1 0), (.int 0 0), (.int 0 0), (.int 3 0), (.ref 196), (.bool true), (.int 276 0), (.ref 197), .none, .none, .none, (.ref 198), (.int 609 0), (.int 142 0), (.str "/claim/cut.py" 610)])) #[])),
 (200, fnO (mI (kids (mI P0.main.body 18)) 9) "Headers.keys" .none "cpy313.wsgiref.headers" 413 199),
 (244, (bZ (.type "code") none (ba (aN [(.str "add_header" 654), (.str "Headers.add_header" 655), (.str "/claim/cut.py" 656), (.int 163 0), (.int 3 0), (.int 0 0), (.int 0 0), (.int 11 0), (.ref 239), (.bool true), (.int 276 0), (.ref 240), .none, (.ref 241), (.ref 242), (.ref 243), (.int 664 0), (.int 163 0), (.str "/claim/cut.py" 665)])) #[])),
 (245, fnO (mI (kids (mI P0.main.body 18)) 16) "Headers.add_header" .none "cpy313.wsgiref.headers" 413 244),
 (247, (bZ (.type "dict") none (Data.dict (aN [(dE P "__module__" 526 (.str "cpy313.wsgiref.headers" 413)), (dE P "__firstlineno__" 530 (.int 94 529)), (dE P "__init__" 540 (.ref 142)), (dE P "_convert_string_type" 550 (.ref 149)), (dE P "__len__" 557 (.ref 156)), (dE P "__setitem__" 566 (.ref 163)), (dE P "__delitem__" 572 (.ref 168)), (dE P "__getitem__" 580 (.ref 175)), (dE P "__contains__" 588 (.ref 182)), (dE P "get_all" 594 (.ref 187)), (dE P "get" 605 (.ref 195)), (dE P "keys" 611 (.ref 200)), (dE P "values" 617 (.ref 205)), (dE P "items" 624 (.ref 212)), (dE P "__repr__" 631 (.ref 219)), (dE P "__str__" 637 (.ref 224)), (dE P "__bytes__" 644 (.ref 231)), (dE P "setdefault" 653 (.ref 238)), (dE P "add_header" 666 (.ref 245)), (dE P "__static_attributes__" 668 (.ref 246)), (dE P "__dict__" 670 (.ref 249)), (dE P "__weakref__" 672 (.ref 250)), (dE P "__doc__" 673 .none)]) 4) #[])),
 (248, (bZ (.type "type") none (Data.cls (ClassData.mk "Headers" [(.type "object")] [(.ref 248), (.type "object")] 247 "Headers" true [] [] false none false)) (aN [none, none, (some (.str "Headers" 519)), (some (.str "Headers" 527)), (some (.builtin "object.__new__")), (some (.bool true))]))),
 (249, (bZ (.type "getset_descriptor") none (ba (aN [(.str "__dict__" 669), (.ref 248), (.builtin "function.__dict__"), (.builtin "function.__dict__#set")])) #[])),
 (250, (bZ (.type "getset_descriptor") none (ba (aN [(.str "__weakref__" 671), (.ref 248), (.builtin "ExceptionGroup.__weakref__"), .none])) #[])),
 (256, (bZ (.type "code") none (ba (aN [(.str "_law_sums" 678), (.str "_law_sums" 679), (.str "/claim/cut.py" 680), (.int 177 0), (.int 2 0), (.int 0 0), (.int 0 0), (.int 3 0), (.ref 253), (.bool true), (.int 276 0), (.ref 254), .none, .none, .none, (.ref 255), (.int 681 0), (.int 177 0), (.str "/claim/cut.py" 682)])) #[])),
 (257, fnO (mI P0.main.body 20) "_law_sums" .none "law_kl0125_01" 676 256),
 (263, (bZ (.type "code") none (ba (aN [(.str "_law_word" 684), (.str "_law_word" 685), (.str "/claim/cut.py" 686), (.int 179 0), (.int 1 0), (.int 0 0), (.int 0 0), (.int 3 0), (.ref 258), (.bool true), (.int 276 0), (.ref 259), .none, (.ref 260), (.ref 261), (.ref 262), (.int 688 0), (.int 179 0), (.str "/claim/cut.py" 689)])) #[])),
 (264, fnO (mI P0.main.body 21) "_law_word" .none "law_kl0125_01" 676 263),
 (270, (bZ (.type "code") none (ba (aN [(.str "_law_octets" 691), (.str "_law_octets" 692), (.str "/claim/cut.py" 693), (.int 181 0), (.int 2 0), (.int 0 0), (.int 0 0), (.int 3 0), (.ref 265), (.bool true), (.int 276 0), (.ref 266), .none, (.ref 267), (.ref 268), (.ref 269), (.int 696 0), (.int 181 0), (.str "/claim/cut.py" 697)])) #[])),
 (271, fnO (mI P0.main.body 22) "_law_octets" .none "law_kl0125_01" 676 270),
 (277, (bZ (.type "code") none (ba (aN [(.str "_law_numbers" 699), (.str "_law_numbers" 700), (.str "/claim/cut.py" 701), (.int 183 0), (.int 1 0), (.int 0 0), (.int 0 0), (.int 3 0), (.ref 272), (.bool true), (.int 276 0), (.ref 273), .none, (.ref 274), (.ref 275), (.ref 276), (.int 706 0), (.int 183 0), (.str "/claim/cut.py" 707)])) #[])),
 (278, fnO (mI P0.main.body 23) "_law_numbers" .none "law_kl0125_01" 676 277),
 (282, (bZ (.type "code") none (ba (aN [(.str "_law_formula" 709), (.str "_law_formula" 710), (.str "/claim/cut.py" 711), (.int 191 0), (.int 4 0), (.int 0 0), (.int 0 0), (.int 3 0), (.ref 279), (.bool true), (.int 276 0), (.ref 280), .none, .none, .none, (.ref 281), (.int 712 0), (.int 191 0), (.str "/claim/cut.py" 713)])) #[])),
 (283, fnO (mI P0.main.body 24) "_law_formula" .none "law_kl0125_01" 676 282),
 (289, (bZ (.type "code") none (ba (aN [(.str "_law_tree" 715), (.str "_law_tree" 716), (.str "/claim/cut.py" 717), (.int 202 0), (.int 2 0), (.int 0 0), (.int 0 0), (.int 3 0), (.ref 284), (.bool true), (.int 276 0), (.ref 285), .none, (.ref 286), (.ref 287), (.ref 288), (.int 725 0), (.int 202 0), (.str "/claim/cut.py" 726)])) #[])),
 (290, fnO (mI P0.main.body 25) "_law_tree" .none "law_kl0125_01" 676 289),
 (296, (bZ (.type "code") none (ba (aN [(.str "_law_written" 728), (.str "_law_written" 729), (.str "/claim/cut.py" 730), (.int 213 0), (.int 2 0), (.int 0 0), (.int 0 0), (.int 3 0), (.ref 291), (.bool true), (.int 276 0), (.ref 292), .none, (.ref 293), (.ref 294), (.ref 295), (.int 733 0), (.int 213 0), (.str "/claim/cut.py" 734)])) #[])),
 (297, fnO (mI P0.main.body 26) "_law_written" .none "law_kl0125_01" 676 296),
 (301, (bZ (.type "code") none (ba (aN [(.str "_law_ties" 736), (.str "_law_ties" 737), (.str "/claim/cut.py" 738), (.int 215 0), (.int 2 0), (.int 0 0), (.int 0 0), (.int 3 0), (.ref 298), (.bool true), (.int 276 0), (.ref 299), .none, .none, .none, (.ref 300), (.int 739 0), (.int 215 0), (.str "/claim/cut.py" 740)])) #[])),
 (302, fnO (mI P0.main.body 27) "_law_ties" .none "law_kl0125_01" 676 301),
 (306, (bZ (.type "code") none (ba (aN [(.str "_law_one_tree" 742), (.str "_law_one_tree" 743), (.str "/claim/cut.py" 744), (.int 221 0), (.int 1 0), (.int 0 0), (.int 0 0), (.int 3 0), (.ref 303), (.bool true), (.int 276 0), (.ref 304), .none, .none, .none, (.ref 305), (.int 745 0), (.int 221 0), (.str "/claim/cut.py" 746)])) #[])),
 (307, fnO (mI P0.main.body 28) "_law_one_tree" .none "law_kl0125_01" 676 306),
 (311, (bZ (.type "code") none (ba (aN [(.str "_law_letters" 748), (.str "_law_letters" 749), (.str "/claim/cut.py" 750), (.int 228 0), (.int 2 0), (.int 0 0), (.int 0 0), (.int 3 0), (.ref 308), (.bool true), (.int 276 0), (.ref 309), .none, .none, .none, (.ref 310), (.int 751 0), (.int 228 0), (.str "/claim/cut.py" 752)])) #[])),
 (312, fnO (mI P0.main.body 29) "_law_letters" .none "law_kl0125_01" 676 311),
 (316, (bZ (.type "code") none (ba (aN [(.str "_law_proved" 754), (.str "_law_proved" 755), (.str "/claim/cut.py" 756), (.int 230 0), (.int 3 0), (.int 0 0), (.int 0 0), (.int 3 0), (.ref 313), (.bool true), (.int 276 0), (.ref 314), .none, .none, .none, (.ref 315), (.int 757 0), (.int 230 0), (.str "/claim/cut.py" 758)])) #[])),
 (317, fnO (mI P0.main.body 30) "_law_proved" .none "law_kl0125_01" 676 316),
 (321, (bZ (.type "code") none (ba (aN [(.str "law" 760), (.str "law" 761), (.str "/claim/cut.py" 762), (.int 244 0), (.int 1 0), (.int 0 0), (.int 0 0), (.int 3 0), (.ref 318), (.bool true), (.int 276 0), (.ref 319), .none, .none, .none, (.ref 320), (.int 763 0), (.int 244 0), (.str "/claim/cut.py" 764)])) #[])),
 (322, fnO (mI P0.main.body 31) "law" .none "law_kl0125_01" 676 321)]
noncomputable def KA : List Addr := [3, 44, 45, 51, 52, 58, 59, 60, 66, 67, 96, 97, 103, 104, 113, 114, 118, 119, 135, 141, 142, 148, 149, 186, 187, 188, 194, 195, 199, 200, 244, 245, 247, 248, 249, 250, 256, 257, 263, 264, 270, 271, 277, 278, 282, 283, 289, 290, 296, 297, 301, 302, 306, 307, 311, 312, 316, 317, 321, 322]
noncomputable def qq : Program := view P0 [0, 1, 3, 4, 5, 7, 8, 9, 10, 11, 12, 14, 15, 16, 18, 20, 21, 22, 23, 24, 25, 26, 27, 28, 29, 30, 31]
noncomputable def lo : List Str := ["COMPILER_FLAG_NAMES", "UNKNOWN", "tspecials", "_name_disallowed_re", "_value_disallowed_re", "_formatparam"]
end
section
section
variable {a b c d e f g k l m n p q r s t : Nat}
theorem a0 (h0 : a ≤ b) : a ≤ b + 1 := bL h0
theorem a1 (h0 : a ≤ b) (h1 : c < a) (h2 : d ≤ c) : d ≤ b := by lia
theorem a2 (h0 : a + (b + 1) < c) : a < c := bg (aK _ _) h0
theorem a3 (h0 : a ≤ 16777216) : (↑a : Int) < 9223372036854775808 := bu.mpr (bg h0 (by decide))
theorem a4 (h0 : a ≤ 16777216) : ¬(↑a : Int) ≥ 2 ^ 63 := by lia
theorem a5 {a : Int} (h0 : a.toNat < b) : 0 ≤ max a 0 ∧ max a 0 < (↑b : Int) := by lia
theorem a6 {a : Int} (h0 : 0 ≤ a) : a = (↑a.toNat : Int) := by lia
theorem a7 {a : Int} (h0 : 0 ≤ a) : -2 ^ 63 ≤ a := by lia
theorem a8 {a : Int} (h0 : a ≤ 1000000) : ¬a ≥ 2 ^ 63 := by lia
theorem a9 {a : Int} (h0 : -1000000 ≤ a) : ¬a < -2 ^ 63 := by lia
theorem a10 (h0 : a = b) (h1 : c < b) : c < a := h0 ▸ h1
theorem a11 : (↑a : Int) - 0 = (↑a : Int) := rfl
theorem a12 : 0 ≤ (↑a : Int) := bm _
theorem a13 (h0 : a ≤ b) (h1 : ¬a < b) : a = b := Nat.le_antisymm h0 (c6 h1)
theorem a14 (h0 : a = b - c) (h1 : c < b) : b - (c + 1) < a := h0 ▸ jr h1 (ik c)
theorem a15 : 0 ≤ a := be _
theorem a16 : a = a - 0 := rfl
theorem a17 (h0 : a + b ≤ c) (h1 : d < b) (h2 : e = d) : a + e ≤ c := by subst_vars; lia
theorem a18 (h0 : a ≤ b) (h1 : c + b < d) : c + a < d := bg (Nat.add_le_add_left h0 c) h1
theorem a19 (h0 : a + (b + 3) < c) : a + 3 + b < c := by lia
theorem a20 (h0 : a + (b + 1) < c) : a + 1 + b < c := by lia
theorem a21 (h0 : a + (b + 2) < c) : a + 1 + b < c := by lia
theorem a22 (h0 : a < b) (h1 : c < a) : c < b := cN h1 h0
theorem a23 (h0 : a ≤ 1000) (h1 : b < a) : (↑b : Int) < 2 ^ 63 - 1 := bu.mpr (ao h1 (ad h0 (by decide)))
theorem a24 : ¬a + 1 = a := by lia
theorem a25 (h0 : a < b) : ¬a = b := ci h0
theorem a26 (h0 : a < b) : ¬a = b + 1 := ci (ao h0 (aK _ _))
theorem a27 {a : Int} {b : Int} (h0 : a ≤ b) (h1 : b ≤ a) : 0 = b - a := by lia
theorem a28 (h0 : a ≤ 1000) (h1 : b < a) : (↑b : Int) < 2 ^ 63 := bu.mpr (ao h1 (ad h0 (by decide)))
theorem a29 (h0 : (↑a : Int) = 2) : 1 < a := by lia
theorem a30 (h0 : (↑a : Int) = 2) : 0 < a := by lia
theorem a31 (h0 : (↑a : Int) = 2) : a = 2 := by lia
theorem a32 (h0 : a + b ≤ 20) (h1 : c = a) : c ≤ 16777216 := by lia
theorem a33 (h0 : 1 ≤ a) : 4 * (a - 1) + 50 ≤ 4 * a + 47 := by lia
theorem a34 (h0 : 1 ≤ a) : a - 1 + 10 ≤ a + 9 := by lia
theorem a35 (h0 : a ≤ 20) : a - 1 ≤ 20 := ad (dI _ _) h0
theorem a36 (h0 : 1 ≤ a) : a - 1 < a := Nat.sub_lt h0 (by decide)
theorem a37 (h0 : a ≤ b) (h1 : a = c + d + e) (h2 : d = f + g + 1) : 1 ≤ b := ao (h1 ▸ ao (h2 ▸ Nat.succ_pos _ : 0 < d) (ad (aq _ _) (aK _ _)) : 0 < a) h0
theorem a38 (h0 : a ≤ b) (h1 : a = c + d + e) (h2 : d = f + g + 1) (h3 : k = e + c) (h4 : l ≤ k) (h5 : m = f) : l + m ≤ b - 1 := by subst h1 h2 h5; exact d4 (ad (by rw [Nat.add_assoc]; exact cp (h3 ▸ h4) _) (ad (by simp only [Nat.add_assoc, dK, Nat.add_left_comm]; lia) h0))
theorem a39 (h0 : a ≤ b) (h1 : a = c + d + e) (h2 : d = f + g + 1) (h3 : k = e + c) (h4 : l ≤ k) : g + l ≤ b - 1 := by lia
theorem a40 (h0 : a + (4 * b + 47) < c) : a < c := bg (aK _ _) h0
theorem a41 (h0 : a ≤ 20) (h1 : b ≤ a) (h2 : c = d) (h3 : d ≤ 100 * (b + 1)) : c ≤ 16777216 := h2 ▸ ad h3 (ad (aW 100 (Nat.succ_le_succ (ad h1 h0))) (by decide))
theorem a42 : 4 * 6 + 4 ≤ 4 * a + 47 := aq _ _
theorem a43 : 6 + 1 ≤ a + 9 := aq _ _
theorem a44 (h0 : a ≤ 20) (h1 : b ≤ a) : b ≤ 99 := by lia
theorem a45 (h0 : max a b + 1 ≤ 6) : a ≤ 6 := ad (cX a b) (dS h0)
theorem a46 (h0 : a + b + 1 ≤ 100) : a ≤ 100 := by lia
theorem a47 (h0 : max a b + 1 ≤ 6) : b ≤ 6 := ad (cL a b) (dS h0)
theorem a48 (h0 : a + b + 1 ≤ 100) : b ≤ 100 := by lia
theorem a49 (h0 : a ≤ 20) (h1 : b = c) (h2 : c ≤ a) : b ≤ 16777215 := by subst_vars; lia
theorem a50 (h0 : a ≤ 20) (h1 : b < a) : (↑b : Int) < 2 ^ 63 := bu.mpr (ao h1 (ad h0 (by decide)))
theorem a51 (h0 : a ≤ 20) : a ≤ 16777216 := ad h0 (by decide)
theorem a52 (h0 : a ≤ 20) : a ≤ 21 := bL h0
theorem a53 (h0 : a ≤ 20) (h1 : b = a) : b ≤ 16777216 := h1 ▸ ad h0 (by decide)
theorem a54 (h0 : a ≤ 20) (h1 : b = c) (h2 : c ≤ a) : 1 + b ≤ 16777216 := by subst_vars; lia
theorem a55 (h0 : a ≤ 20) : a + 1 ≤ 21 := dt h0
theorem a56 (h0 : a ≤ 20) : a + 1 ≤ 16777216 := bg h0 (by decide)
theorem a57 (h0 : a = b) : (↑a : Int) + 1 = (↑(b + 1) : Int) := by subst_vars; lia
theorem a58 (h0 : a ≤ 21) : a < 22 := dt h0
theorem a59 (h0 : a + b ≤ 20) (h1 : c = a - 1) : c ≤ 20 := h1 ▸ ad (dI _ _) (ad (aK _ _) h0)
theorem a60 (h0 : a = b) (h1 : c < a) : b - (c + 1) + min c b = b - 1 := by
 subst h0; rw [Nat.min_eq_left (bD h1), dK c 1, ← Nat.sub_sub]; exact Nat.sub_add_cancel (d4 h1)
theorem a61 (h0 : a + b ≤ 20) (h1 : c = a) : c - (d + 1) + min d c ≤ 16777216 := by have h : c ≤ 20 := h1 ▸ ad (aK _ _) h0; exact ad (bc (ad (dI _ _) h) (ad (bV _ _) h)) (by decide)
theorem a62 : (↑a : Int) + 1 = (↑(a + 1) : Int) := rfl
theorem a63 (h0 : a ≤ b) (h1 : c + b ≤ 20) (h2 : d = c) (h3 : e < d) (h4 : a = f + g + k) (h5 : g = l + m + 1) : min e c + (c - (e + 1) + 1 + 1) + (b - 1) ≤ 20 := by
 subst h2; have hb : 1 ≤ b := ad (h5 ▸ Nat.succ_pos _ : 0 < g) (ad (ad (aq g f) (aK _ k)) (h4 ▸ h0)); rw [Nat.min_eq_left (bD h3)]; refine ad (bd ?_) h1; rw [← Nat.add_assoc, ← Nat.add_assoc, Nat.add_right_comm e _ 1, Nat.add_sub_of_le h3, Nat.add_assoc, Nat.add_sub_of_le hb]
theorem a67 (h0 : a ≤ b) (h1 : a = c + d + e) (h2 : d = f + g + 1) (h3 : k = f + g) : c + k + e ≤ b - 1 := by subst h1 h2 h3; exact d4 (ad (bd (Nat.add_right_comm _ e 1)) h0)
theorem a68 (h0 : a + b ≤ 20) (h1 : c = a) : min d c + 2 + (c - (d + 1)) ≤ 16777216 := by have h : c ≤ 20 := h1 ▸ ad (aK _ _) h0; exact ad (bc (cp (ad (bV _ _) h) 2) (ad (dI _ _) h)) (by decide)
theorem a69 (h0 : a + b ≤ 20) (h1 : c = a) : min d c ≤ 16777214 := ad (bV _ _) (h1 ▸ ad (ad (aK _ _) h0) (by decide))
theorem a70 (h0 : a ≤ b) : c + a ≤ c + b := by lia
theorem a71 (h0 : a ≤ b) : a ≤ c + b := by lia
theorem a72 : a + (b + c) = a + b + c := by lia
theorem a73 (h0 : a + b = 0) : b = 0 := by lia
theorem a74 (h0 : a ≤ 32) (h1 : b ≤ 30 * (a + (0 + 1))) : b + (a + (0 + 1)) * 2 ≤ 16777216 := ad (bc (ad h1 (aW 30 (cp h0 _))) (gu 2 (cp h0 _))) (by decide)
theorem a75 (h0 : a < 32) (h1 : b < a + 1) : b < 32 := ao h1 h0
theorem a76 (h0 : (↑a : Int) = 0) : a = 0 := by lia
theorem a77 : (↑(a + b) : Int) + (↑b : Int) - 2 * (↑b : Int) = (↑a : Int) := by lia
theorem a78 (h0 : a ≤ 100) : a ≤ 16777216 := ad h0 (by decide)
theorem a79 (h0 : a ≤ 32) (h1 : b = a) : b ≤ 16777216 := h1 ▸ ad h0 (by decide)
theorem a80 (h0 : a < 32) (h1 : b ≤ a) : b ≤ 32 := by lia
theorem a81 (h0 : a ≤ 30 * b) (h1 : c ≤ 30) : c + a ≤ 30 * (b + 1) := by lia
theorem a82 : a ≤ a + b := aK _ _
theorem a83 (h0 : a ≤ 32) : 32 = a + (32 - a) := (fn h0).symm
theorem a84 (h0 : a < b) (h1 : ¬a + 1 < b) : a + 1 = b := Nat.le_antisymm h0 (c6 h1)
theorem a85 (h0 : a + 1 < b) : b - (a + 1) < b - a := jr (Nat.lt_of_succ_lt h0) (ik a)
theorem a86 : (↑a : Int) % 64 = (↑(a % 64) : Int) := rfl
theorem a87 (h0 : a ≤ 8) (h1 : b + 1 < a) : min (b + 1) a ≤ 7 := ad (cW _ _) (cw (ao h1 h0))
theorem a88 (h0 : a ≤ 8) : min (b + 1) a ≤ 8 := ad (bV _ _) h0
theorem a89 : (↑a : Int) % 64 = (↑(0 * 64 + a % 64) : Int) := by lia
theorem a90 : a + (b + 1) = a + 1 + b := by lia
theorem a91 (h0 : a < b) : a * 64 + c % 64 < b * 64 := ao (Nat.add_lt_add_left (bR _ (by decide)) _) (Nat.succ_mul a 64 ▸ gu 64 h0)
theorem a92 : (↑(a * 64) : Int) + (↑b : Int) - (↑0 : Int) = (↑(a * 64 + b) : Int) := rfl
theorem a93 : 4 ≤ 4 := aq _ _
theorem a94 : 1 ≤ 1 := aq _ _
theorem a95 (h0 : a ≤ 1000) (h1 : b ≤ a) : min c b ≤ 16777216 := ad (bV _ _) (ad h1 (ad h0 (by decide)))
theorem a96 (h0 : a ≤ 1000) : a + 1 ≤ 16777216 := bg h0 (by decide)
theorem a97 (h0 : a ≤ 1000) : a ≤ 16777216 := ad h0 (by decide)
theorem a98 (h0 : a < 256) : (↑a : Int) < 256 := bu.mpr h0
theorem a99 (h0 : a ≤ b) (h1 : 0 < c) : a + 1 ≤ c + b := by lia
theorem a100 (h0 : ¬a % 4 = b) : (↑a : Int) % 4 ≠ (↑b : Int) := by lia
theorem a101 (h0 : a % 4 = b) : (↑a : Int) % 4 = (↑b : Int) := by subst_vars; lia
theorem a102 : min 60 a ≤ 1000 := ad (cW _ _) (by decide)
theorem a103 (h0 : a ≤ 70 * b) (h1 : b ≤ 1000) (h2 : c ≤ 60) : c + a ≤ 16777216 := by lia
theorem a104 (h0 : a ≤ 1000) : 70 * a ≤ 16777216 := by lia
theorem a105 (h0 : a ≤ 1000) : min a b ≤ 1000 := ad (cW _ _) h0
theorem a106 (h0 : a < min b (c - 1)) : a < b := ao h0 (cW _ _)
theorem a107 (h0 : a ≤ 10) (h1 : b ≤ 60) : a + b ≤ 16777216 := by lia
theorem a108 (h0 : a ≤ 1000) (h1 : b = a) : min b c ≤ 16777216 := ad (cW b c) (ad (bd h1) (ad h0 (by decide)))
theorem a109 (h0 : a = b) (h1 : 0 < b ∧ b ≤ 1000) : a ≤ 16777216 := by subst_vars; lia
theorem a110 (h0 : a ≤ 60) (h1 : b ≤ c + 1) (h2 : c = a) : b ≤ 1000 := by subst_vars; lia
theorem a111 (h0 : a ≤ 60) (h1 : b = a) (h2 : c ≤ 0 + b) : c ≤ 60 := by subst_vars; lia
theorem a112 (h0 : a ≤ 60) (h1 : b ≤ a + 1) : b ≤ 16777216 := by lia
theorem a113 (h0 : a ≤ 60) : a ≤ 16777216 := ad h0 (by decide)
theorem a114 (h0 : a ≤ 36 + 3 * 5) (h1 : b ≤ a) : b ≤ 60 := by lia
theorem a115 (h0 : a = 6 - 5) : 0 < a := by subst_vars; decide
theorem a116 : 5 ≤ 5 := aq _ _
theorem a117 (h0 : a = 6 - b) (h1 : c = a) : min d c + 1 + (c - (d + 2)) ≤ 16777216 := by have h : c ≤ 6 := h1 ▸ h0 ▸ dI _ _; exact ad (bc (bc (ad (bV _ _) h) (ap 1)) (ad (dI _ _) h)) (by decide)
theorem a118 : (↑a : Int) + 2 = (↑(a + 2) : Int) := rfl
theorem a119 (h0 : a < 5 - b) : min a c ≤ 16777215 := ad (cW _ _) (ad (bD h0) (ad (dI _ _) (by decide)))
theorem a120 (h0 : a ≤ 60) (h1 : b ≤ 60) (h2 : c = 1) (h3 : d = 1) (h4 : e = 1) : c + a + d + b + e ≤ 16777216 := by subst_vars; lia
theorem a121 (h0 : a ≤ 60) (h1 : b ≤ 60) (h2 : c = 1) (h3 : d = 1) : c + a + d + b ≤ 16777216 := by subst_vars; lia
theorem a122 (h0 : a < 5 - b) : (↑(a + 1) : Int) < 2 ^ 63 := gS (bu.mpr (dt (ad h0 (dI 5 b)))) (by decide)
theorem a123 : 0 ≤ (↑(a + 1) : Int) := bm _
theorem a124 (h0 : a ≤ 60) (h1 : b = 1) (h2 : c = 1) : b + a + c ≤ 16777216 := by subst_vars; lia
theorem a125 (h0 : a ≤ 60) (h1 : b = 1) : b + a ≤ 16777216 := by subst_vars; lia
theorem a126 (h0 : a < 5 - b) : (↑a : Int) < 2 ^ 63 := bu.mpr (ao h0 (ad (dI _ _) (by decide)))
theorem a127 (h0 : a < 5) (h1 : b ≤ 36 + 3 * a) (h2 : c ≤ b) : c ≤ 60 := by lia
theorem a128 (h0 : a = 6 - b) (h1 : c < 5 - b) : c + 1 < a := h0 ▸ (Nat.succ_sub (bD (Nat.lt_of_sub_pos (bg (be c) h1))) ▸ Nat.succ_lt_succ h1 : c + 1 < 6 - b)
theorem a129 (h0 : a = 6 - b) (h1 : c < 5 - b) : c < a := h0 ▸ ao h1 (jm (by decide) b)
theorem a130 : 6 - a ≤ 16777216 := ad (dI _ _) (by decide)
theorem a131 (h0 : a < 5) : 0 < 5 - a := dq h0
theorem a132 (h0 : a < 5) : (↑(5 - a) : Int) ≠ 0 := by omega
theorem a133 (h0 : a < 5) : a ≤ 5 := bD h0
theorem a134 : 6 ≤ 6 := aq _ _
theorem a135 (h0 : a = 6 - b) (h1 : c < a) : (↑(6 - b) : Int) ≠ 0 := by subst_vars; lia
theorem a136 (h0 : a < 6) (h1 : b = a) : b ≤ 16777216 := by subst_vars; lia
theorem a137 (h0 : a + b ≤ 6) : a + b ≤ 16777216 := ad h0 (by decide)
theorem a138 (h0 : a = 6 - b) (h1 : c = a) : c ≤ 1000 := ad (bd (h1.trans h0)) (ad (dI 6 b) (by decide))
theorem a139 (h0 : a < 6) : 0 < 6 - a := dq h0
theorem a140 {b : Int} (h0 : (↑(a % 6) : Int) = b) : b < 2 ^ 63 := h0 ▸ bu.mpr (cN (bR _ (by decide)) (by decide))
theorem a141 {b : Int} (h0 : (↑(a % 6) : Int) = b) : 0 ≤ b := by subst_vars; lia
theorem a142 (h0 : a < 6) : a ≤ 6 := bD h0
theorem a143 (h0 : a ≤ 36 + 3 * b) (h1 : a = c + d + e) (h2 : f = d + 3) : c + f + e ≤ 36 + 3 * (b + 1) := by subst_vars; lia
theorem a144 : a + b + 3 + 0 = a + (b + 0) + 3 := rfl
theorem a145 (h0 : a = 6 - b) (h1 : c < 5 - b) : min c a + (0 + 1) + (a - (c + 2)) = 6 - (b + 1) := by
 subst h0; have hb : b ≤ 5 := bD (Nat.lt_of_sub_pos (bg (be c) h1)); rw [Nat.succ_sub hb, Nat.succ_sub_succ, Nat.succ_sub_succ, Nat.min_eq_left (bD (Nat.lt_succ_of_lt h1))]; exact Nat.add_sub_of_le h1
theorem a146 (h0 : a + 1 ≤ 5) : 0 < 5 - a := dq h0
theorem a147 (h0 : a + 1 ≤ 5) : a ≤ 5 := bD h0
theorem a148 (h0 : a + 1 < b) : a < b := Nat.lt_of_succ_lt h0
theorem a149 (h0 : a = 1) (h1 : b = 1) (h2 : c = 1) : a + d + b + e + c = d + e + 3 := by subst_vars; lia
theorem a150 (h0 : a ≤ b) (h1 : c ≤ d) : c + a ≤ b + d := by lia
theorem a151 : 6 - a - 1 = 6 - (a + 1) := rfl
theorem a152 (h0 : a + 1 ≤ 6) : 0 < 6 - a := dq h0
theorem a153 (h0 : a + 1 ≤ 6) : a ≤ 6 := bD h0
theorem a154 : -2 ^ 63 ≤ (↑a : Int) := bm _
theorem a155 : 6 + 3 + 2 ≤ 12 := aq _ _
theorem a156 : 2 + 1 + 2 ≤ 5 := aq _ _
theorem a157 : ¬a + 32 < 32 := by lia
theorem a158 (h0 : a ≤ 1000) : a + 0 + 1 * 2 ≤ 16777216 := by lia
theorem a159 : 4 ≤ 7 := aq _ _
theorem a160 : 1 ≤ 2 := aq _ _
theorem a161 : 7 + 3 ≤ 10 := aq _ _
theorem a162 : 2 + 1 ≤ 3 := aq _ _
theorem a163 (h0 : a = b) (h1 : c < a) (h2 : d < c) : d < b := by subst_vars; lia
theorem a164 (h0 : a ≤ 1000) (h1 : b = a) : b ≤ 16777216 := h1 ▸ ad h0 (by decide)
theorem a165 (h0 : a + 1 ≤ 20) (h1 : b = c) (h2 : c ≤ a + 1) : b ≤ 16777215 := by subst_vars; lia
theorem a166 : 4 * a + 4 ≤ 4 * a + 5 := by lia
theorem a167 : a + 1 ≤ a + 1 := by lia
theorem a168 {a : Int} (h0 : 0 ≤ a) : 0 ≤ a / 64 := by lia
theorem a169 (h0 : a + 1 ≤ 20) : a ≤ 20 := bD h0
theorem a170 : 10 ≤ 10 := aq _ _
theorem a171 : 3 ≤ 3 := aq _ _
theorem a172 (h0 : (↑a : Int) < 46656) : a < 46656 := by lia
theorem a173 (h0 : (↑a : Int) < 120) : a < 120 := by lia
theorem a174 (h0 : (↑a : Int) < 720) : a < 720 := bu.mp h0
theorem a175 (h0 : a < 12) : (↑a : Int) < 2 ^ 63 := bu.mpr (ao h0 (by decide))
theorem a176 (h0 : (↑a : Int) < 12) : a < 12 := by lia
theorem a177 : 4 ≤ 300 := aq _ _
theorem a178 : 1 ≤ 60 := aq _ _
theorem a179 (h0 : a < 24) (h1 : b < 5) : a + b < 32 := ao (Nat.add_lt_add h0 h1) (by decide)
theorem a180 : (↑a : Int) + (↑b : Int) = (↑(a + b) : Int) := rfl
theorem a181 (h0 : (↑a : Int) < 24) : a < 24 := by lia
theorem a182 : 7 ≤ 300 := aq _ _
theorem a183 : 2 ≤ 60 := aq _ _
theorem a184 (h0 : a = b) : b = a := by lia
theorem a185 : (↑a : Int) + 128 * (((↑b : Int) + (↑c : Int)) % 2) = (↑(a + 128 * ((b + c) % 2)) : Int) := rfl
theorem a186 : 4 * 4 + 4 ≤ 300 := aq _ _
theorem a187 : 4 + 1 ≤ 60 := aq _ _
theorem a188 (h0 : a < 64 ^ 5) : (↑a : Int) < (↑(64 ^ 5) : Int) := bu.mpr h0
theorem a189 (h0 : a < 46656) : a < 64 ^ 5 := ao h0 (by decide)
theorem a190 (h0 : a < 120) : a < 64 ^ 5 := ao h0 (by decide)
theorem a191 (h0 : a < 720) : a < 64 ^ 5 := ao h0 (by decide)
theorem a192 (h0 : a ≤ 30 * 2 ^ 23) : a < 64 ^ 5 := bg h0 (by decide)
theorem a193 (h0 : a < 24) : a ≤ 23 := cw h0
theorem a194 (h0 : a ≤ 30 ∧ a ≠ 0) : a < 32 := by lia
theorem a195 (h0 : a < 5) : (↑a : Int) < 2 ^ 63 := bu.mpr (ao h0 (by decide))
theorem a196 (h0 : a ≤ 30 * b) (h1 : b ≤ 5) : a + b * 2 ≤ 16777216 := ad (bc (ad h0 (aW 30 h1)) (gu 2 h1)) (by decide)
theorem a197 (h0 : a ≤ 31 * 2 ^ 23) : a < 2 ^ 32 := bg h0 (by decide)
theorem a198 (h0 : a < 32) : a ≤ 31 := cw h0
theorem a199 (h0 : a + 300 < b) : a < b := bg (aK _ _) h0
theorem a200 (h0 : a < b) (h1 : a = b) : False := by subst_vars; lia
theorem a201 (h0 : a < 24) (h1 : b < 5) (h2 : c < b) : a + c < 32 := ao (Nat.add_lt_add h0 (cN h2 h1)) (by decide)
theorem a202 (h0 : a < 5) (h1 : b < a) : b < 5 := cN h1 h0
theorem a203 (h0 : a = b) (h1 : b ≤ 5) : a ≤ 16777216 := h0 ▸ ad h1 (by decide)
theorem a204 (h0 : a ≤ 200) (h1 : b ≤ a + 2) : b ≤ 16777216 := by lia
theorem a205 (h0 : a ≤ 200) : a ≤ 16777216 := ad h0 (by decide)
theorem a206 (h0 : a ≤ 6) : 4 * a + 20 ≤ 300 := by lia
theorem a207 (h0 : a ≤ 6) : a + 5 ≤ 60 := by lia
theorem a208 : 12 ≤ 300 := aq _ _
theorem a209 : 5 ≤ 60 := aq _ _
theorem a210 : 10 ≤ 300 := aq _ _
theorem a211 : 3 ≤ 60 := aq _ _
theorem a212 (h0 : a ≤ 11) : a ≤ 1000 := ad h0 (by decide)
theorem a213 (h0 : a = 11) : a ≤ 11 := bd h0
theorem a214 (h0 : a = 6) (h1 : b < a) : b < 6 := h0 ▸ h1
theorem a215 (h0 : a < 5) : a < 6 := Nat.lt_succ_of_lt h0
theorem a216 (h0 : a = 6) (h1 : b = a) (h2 : c = 5) (h3 : d = b) : c + d ≤ 16777216 := by subst_vars; decide
theorem a217 (h0 : a = 6) (h1 : b = a) : b ≤ 16777216 := by subst_vars; decide
theorem a218 (h0 : a < 6) : (↑a : Int) < 10 ^ 10 := bu.mpr (ao h0 (by decide))
theorem a219 (h0 : a = 3) (h1 : b = 3) (h2 : c < b) : c < a := by subst_vars; omega
theorem a220 (h0 : a = 3) (h1 : b < a) : b < 3 := h0 ▸ h1
theorem a221 (h0 : a = 3) (h1 : b ≤ 100) (h2 : c ≤ 2 * b) : a + c ≤ 1000 := by subst_vars; lia
theorem a222 (h0 : a ≤ 100) (h1 : b = 3) (h2 : c = d) (h3 : d ≤ 2 * a) : b + c ≤ 16777216 := by subst_vars; lia
theorem a223 (h0 : a ≤ 6) : 4 * a + 4 ≤ 300 := by lia
theorem a224 (h0 : a ≤ 6) : a + 1 ≤ 60 := bg h0 (by decide)
theorem a225 {a : Int} (h0 : a.toNat < 10) : (↑a.toNat : Int) < 10 ^ 10 := bu.mpr (ao h0 (by decide))
theorem a226 {a : Int} : 0 ≤ (↑a.toNat : Int) := bm _
theorem a227 (h0 : a ≤ 5) (h1 : b = a) : b ≤ 16777216 := h1 ▸ ad h0 (by decide)
theorem a228 (h0 : a = b) (h1 : c < a) : c < b := h0 ▸ h1
theorem a229 : 13 ≤ 300 := aq _ _
theorem a230 : 4 ≤ 60 := aq _ _
theorem a231 (h0 : a ≤ 5) : a ≤ 16777216 := ad h0 (by decide)
theorem a232 : ((↑a : Int) + (↑b : Int)).toNat = a + b := rfl
theorem a233 (h0 : a < 24) (h1 : b < 5) : (↑a : Int) + (↑b : Int) ≤ 1000000 := by lia
theorem a234 : 0 ≤ (↑a : Int) + (↑b : Int) := bm _
theorem a235 (h0 : a ≤ 4) : a ≤ 16777216 := ad h0 (by decide)
theorem a236 (h0 : a ≤ 4) : a = 0 ∨ a = 1 ∨ a = 2 ∨ a = 3 ∨ a = 4 := by lia
theorem a237 : 4 * 5 + 50 ≤ 300 := aq _ _
theorem a238 : 5 + 10 ≤ 60 := aq _ _
theorem a239 (h0 : a = 6) : a ≤ 1000 := by subst_vars; decide
theorem a240 (h0 : a = 6) (h1 : b ≤ a) : b ≤ 1000 := by subst_vars; lia
theorem a241 : 6 + a * 0 ≤ 16777216 := aq _ _
theorem a242 (h0 : a = 6) : a ≤ 16777216 := by subst_vars; decide
theorem a243 {a : Int} (h0 : 0 ≤ a ∧ a < 8) : a = (↑a.toNat : Int) := (dA h0.1).symm
theorem a244 {a : Int} (h0 : 0 ≤ a ∧ a < 8) : a.toNat < 8 := (Int.toNat_lt h0.1).mpr h0.2
theorem a245 {a : Int} (h0 : 0 ≤ a ∧ a < 4) : a ≤ 1000000 := by lia
theorem a246 {a : Int} (h0 : 0 ≤ a ∧ a < 4) : -1000000 ≤ a := by lia
theorem a247 {a : Int} (h0 : 0 ≤ a ∧ a < 4) : -(↑b : Int) ≤ a := by lia
theorem a248 (h0 : a < 32) : 0 ≤ (↑a : Int) / 4 ∧ (↑a : Int) / 4 < 8 := by lia
theorem a249 (h0 : 10 ≤ (↑a : Int)) : ¬a < 10 := by lia
theorem a250 (h0 : a < 10) : (↑a : Int) < 2 ^ 63 := bu.mpr (ao h0 (by decide))
theorem a251 (h0 : (↑a : Int) < 10) : a < 10 := by lia
theorem a252 (h0 : a = 6) (h1 : b = c) (h2 : d = a) (h3 : c = 5) : b + d ≤ 16777216 := by subst_vars; decide
theorem a253 (h0 : a = b + 1) : b ≠ a := by subst_vars; lia
theorem a254 (h0 : a = b + 1) : a ≠ 0 := by subst_vars; lia
theorem a255 (h0 : 1 ≤ a) : a ≠ 0 := Nat.ne_of_gt h0
theorem a256 (h0 : a ≤ 100 ∧ b ≤ 100) : a + (a + 1) * 0 ≤ 16777216 := by lia
theorem a257 (h0 : 1 ≤ a ∧ a ≤ 100) : a + (a + 1) * 0 ≤ 16777216 := by lia
theorem a258 (h0 : a = b + 1) : 1 ≤ a := by subst_vars; lia
theorem a259 : -1 < (↑a : Int) := bm _
theorem a260 (h0 : 1 ≤ a ∧ a ≤ 100) : -(↑a : Int) ≤ -1 := by lia
theorem a261 (h0 : a ≤ 63) (h1 : b = a) : b ≤ 1000 := h1 ▸ ad h0 (by decide)
theorem a262 (h0 : 63 < a) : 63 < (↑a : Int) := bu.mpr h0
theorem a263 (h0 : a ≤ 1000) (h1 : b ≤ c + 1) (h2 : c = a) (h3 : d ≤ 0 + b) : d ≤ 1002 := by subst_vars; lia
theorem a264 (h0 : ¬(↑a : Int) < (↑b : Int)) : ¬a < b := by lia
theorem a265 (h0 : a ≤ 1000) (h1 : b ≤ c + 1) (h2 : c = a) (h3 : d ≤ 0 + b) : d ≤ 1001 := by subst_vars; lia
theorem a266 (h0 : a ≤ 1000) (h1 : b ≤ c + 1) (h2 : c = a) (h3 : d ≤ 0 + b) : d ≤ 16777216 := by subst_vars; lia
theorem a267 (h0 : (↑a : Int) < (↑b : Int)) : a < b := bu.mp h0
theorem a268 (h0 : (↑a : Int) = (↑b : Int)) : ¬a ≠ b := by lia
theorem a269 (h0 : ¬(↑a : Int) = (↑b : Int)) : a ≠ b := by lia
theorem a270 (h0 : a ≤ 1000) (h1 : b = c) (h2 : c ≤ 0 + d) (h3 : e ≤ f + 1) (h4 : d ≤ e) (h5 : f = a) : b ≤ 16777216 := by subst_vars; lia
theorem a271 (h0 : a ≤ b + 1) : a ≤ b + 1 + 1 := bL h0
theorem a272 (h0 : a ≤ b + c) (h1 : b ≤ d + 1) : a ≤ d + (c + 1) := by lia
theorem a273 (h0 : ¬a = 10) : ¬(↑a : Int) = 10 := by lia
theorem a274 {a : Int} {b : Int} (h0 : 0 ≤ a ∧ a < 11 ∧ 0 ≤ b ∧ b < 11) : b < 2 ^ 63 := gS h0.2.2.2 (by decide)
theorem a275 {a : Int} {b : Int} (h0 : 0 ≤ a ∧ a < 11 ∧ 0 ≤ b ∧ b < 11) : a < 2 ^ 63 := gS h0.2.1 (by decide)
theorem a276 (h0 : a = 11) (h1 : b = a) : b ≤ 16777216 := by subst_vars; decide
theorem a277 {b : Int} {c : Int} (h0 : a = 11) (h1 : 0 ≤ b ∧ b < 11 ∧ 0 ≤ c ∧ c < 11) : c.toNat < a := h0 ▸ (Int.toNat_lt h1.2.2.1).mpr h1.2.2.2
theorem a278 {b : Int} {c : Int} (h0 : a = 11) (h1 : 0 ≤ b ∧ b < 11 ∧ 0 ≤ c ∧ c < 11) : b.toNat < a := h0 ▸ (Int.toNat_lt h1.1).mpr h1.2.1
theorem a279 (h0 : a = 1) (h1 : b ≤ 100 ∧ c ≤ 100) (h2 : d ≤ 100 * b) (h3 : e ≤ 100 * c) (h4 : f = 1) (h5 : g = 1) : f + d + a + e + g ≤ 16777216 := ad (bc (bc (bc (bc (bd h4) (ad h2 (aW 100 h1.1))) (bd h0)) (ad h3 (aW 100 h1.2))) (bd h5)) (by decide)
theorem a280 (h0 : a = 1) (h1 : b ≤ 100 ∧ c ≤ 100) (h2 : d ≤ 100 * b) (h3 : e ≤ 100 * c) (h4 : f = 1) : f + d + a + e ≤ 16777216 := ad (bc (bc (bc (bd h4) (ad h2 (aW 100 h1.1))) (bd h0)) (ad h3 (aW 100 h1.2))) (by decide)
theorem a281 : 4 * a + 4 ≤ 4 * max b a + 5 := bc (aW 4 (cL _ _)) (by decide)
theorem a282 : a + 1 ≤ max b a + 1 := by lia
theorem a283 (h0 : a = 1) (h1 : b ≤ 100 ∧ c ≤ 100) (h2 : d ≤ 100 * b) (h3 : e = 1) : e + d + a ≤ 16777216 := by subst_vars; lia
theorem a284 (h0 : a ≤ 100 ∧ b ≤ 100) (h1 : c ≤ 100 * a) (h2 : d = 1) : d + c ≤ 16777216 := by subst_vars; lia
theorem a285 : 4 * a + 4 ≤ 4 * max a b + 5 := bc (aW 4 (cX _ _)) (by decide)
theorem a286 : a + 1 ≤ max a b + 1 := by lia
theorem a287 (h0 : a + b + 1 ≤ 100) : a ≤ 100 ∧ b ≤ 100 := by lia
theorem a288 (h0 : a = 1) (h1 : b ≤ 100 * c) (h2 : d ≤ 100 * e) : 1 + b + a + d + 1 ≤ 100 * (c + e + 1) := by subst_vars; lia
theorem a289 : 100 ≤ 100 * 1 := aq _ _
theorem a290 (h0 : a ≤ 100 ∧ b ≤ 100) (h1 : c ≤ 2 * a) (h2 : d ≤ 2 * b) (h3 : e ≤ 2) : e + c + d ≤ 10000 := ad (bc (bc h3 (ad h1 (aW 2 h0.1))) (ad h2 (aW 2 h0.2))) (by decide)
theorem a291 (h0 : a ≤ 100 ∧ b ≤ 100) (h1 : c ≤ 2 * a) (h2 : d ≤ 2) : d + c ≤ 10000 := ad (bc h2 (ad h1 (aW 2 h0.1))) (by decide)
theorem a292 (h0 : a ≤ 2) : a ≤ 16777216 := ad h0 (by decide)
theorem a293 (h0 : a + b ≤ 10000) (h1 : c = a) (h2 : d = b) : c + d ≤ 16777216 := by subst_vars; lia
theorem a294 (h0 : a ≤ 2 * b) (h1 : c ≤ 2 * d) (h2 : e ≤ 2) : e + a + c ≤ 2 * (b + d + 1) := by lia
theorem a295 (h0 : a ≤ 100) (h1 : b = c) (h2 : c ≤ a) (h3 : d ≤ 10000) : d + b ≤ 16777216 := by subst_vars; lia
theorem a296 (h0 : a ≤ 100) (h1 : b ≤ 100 * c) (h2 : c ≤ a) : b ≤ 10000 := by lia
theorem a297 (h0 : max a b + 1 ≤ c) : max a b ≤ c - 1 := d4 h0
theorem a298 (h0 : max a b + 1 ≤ c) : 4 * (c - 1) + 4 ≤ 4 * c + 1 := by lia
theorem a299 (h0 : max a b + 1 ≤ c) : c - 1 + 1 ≤ c := bd (Nat.sub_add_cancel (ad (aq 1 _) h0))
theorem a300 (h0 : max a b + 1 ≤ c) : c - 1 < c := Nat.sub_lt (ad (Nat.succ_pos _) h0) (by decide)
theorem a301 (h0 : a ≤ 100 * b) (h1 : c ≤ d) (h2 : d ≤ 100) : c + a ≤ 100 * (b + 1) := dK a c ▸ bc h0 (ad h1 h2)
theorem a302 (h0 : a ≤ b) (h1 : c ≤ d) : a + c ≤ b + d + 1 := by lia
theorem a303 (h0 : a < b) : ¬b ≤ a := by lia
theorem a304 (h0 : a ≤ b) (h1 : a ≠ b) : a + 1 ≤ b := Nat.lt_of_le_of_ne h0 h1
theorem a305 (h0 : 1 ≤ a) (h1 : b = a) : (↑b : Int) - 1 = (↑(a - 1) : Int) := by subst_vars; lia
theorem a306 : 4 * a + 20 ≤ 4 * max b a + 21 := bL (cp (aW 4 (cL b a)) 20)
theorem a307 : a + 5 ≤ max b a + 5 := cp (cL _ _) 5
theorem a308 (h0 : a ≤ 1000) (h1 : b ≤ a) : b ≤ 1000 := ad h1 h0
theorem a309 (h0 : a ≤ 1000) (h1 : b ≤ a) : b ≤ 16777216 := by lia
theorem a310 (h0 : a ≤ 1000) (h1 : b ≤ a) (h2 : c = b) : c ≤ 16777216 := by subst_vars; lia
theorem a311 : 4 * a + 20 ≤ 4 * max a b + 21 := bL (cp (aW 4 (cX a b)) 20)
theorem a312 : a + 5 ≤ max a b + 5 := cp (cX _ _) 5
theorem a313 : 13 ≤ 4 * max a b + 21 := aq _ _
theorem a314 : 4 ≤ max a b + 5 := aq _ _
theorem a315 (h0 : 1 ≤ a) : 0 < (↑a : Int) := bu.mpr h0
theorem a316 : -(↑a : Int) ≤ 0 := by lia
theorem a317 (h0 : a = b) (h1 : b ≤ 1000) : a ≤ 16777215 := h0 ▸ ad h1 (by decide)
theorem a318 (h0 : a = b) (h1 : b ≤ 1000) : a ≤ 16777216 := h0 ▸ ad h1 (by decide)
theorem a319 (h0 : a + b ≤ 1000) : a ≤ 1000 := by lia
theorem a320 (h0 : 1 ≤ a) : -(↑a : Int) ≤ -1 := by lia
theorem a321 : 10 ≤ 17 := aq _ _
theorem a322 : 3 ≤ 4 := aq _ _
theorem a323 (h0 : a + 1 = b) : ¬b = a := by subst_vars; lia
theorem a324 (h0 : a = b) (h1 : c ≤ a) : Min.min (Min.min (b + 1) c + 1) (Min.min (b + 1) c + (0 + 1)) ≤ b + 1 := by subst_vars; lia
theorem a325 (h0 : a ≤ b + (0 + 1) + c) : a ≤ b + (c + 1) := by lia
theorem a326 (h0 : a ≤ 0 + b) : a ≤ c + (b + 1) := by lia
theorem a327 : a ≤ a + (b + 1) := aK _ _
theorem a328 (h0 : 1 < 1) : False := by lia
theorem a329 (h0 : a = b) (h1 : b = 0) : a = 0 := h1 ▸ h0
theorem a330 (h0 : a < b) (h1 : b = 1) : a = 0 := by subst_vars; lia
theorem a331 (h0 : a = b) (h1 : c ≤ a) : c ≤ b + 1 := by subst_vars; lia
theorem a332 (h0 : a ≤ b) (h1 : c = b + 1) : a ≤ c := by lia
theorem a333 (h0 : a = b + 1) : b + 1 ≤ a := by subst_vars; lia
theorem a334 (h0 : a = b) : a ≤ b := bd h0
theorem a335 (h0 : ¬Min.min a b < a) : a - b = 0 := Nat.sub_eq_zero_of_le (ad (c6 h0) (bV _ _))
theorem a336 (h0 : a < b) : 1 ≤ b - a := dq h0
theorem a337 (h0 : Min.min a b < a) : b < a := by lia
theorem a338 (h0 : a = b) (h1 : c + 1 ≤ b) : 0 + Min.min c a = c := by subst_vars; lia
theorem a339 (h0 : a = b) (h1 : c + 1 ≤ b) : c < a := by subst_vars; exact h1
theorem a340 (h0 : a + 1 ≤ b) : a ≤ b := bD h0
theorem a341 (h0 : a = 1) : b + a - b = 1 := (cS ..).trans h0
theorem a342 : a + 1 + b = a + (b + 1) := by lia
theorem a343 (h0 : a ≤ b + 1) (h1 : c ≤ d) : a + c ≤ d + (b + 1) := by lia
theorem a344 : 0 < a + 1 := aq _ _
theorem a345 (h0 : a ≤ 7) (h1 : b ≤ a) : b + 1 ≤ 8 := by lia
theorem a346 (h0 : ¬a < b) : ¬a + 1 < b + 1 := by lia
theorem a347 (h0 : a % 64 = b) : ¬b / 64 % 2 = 1 := by rw [Nat.div_eq_of_lt (h0 ▸ bR a (by decide))]; decide
theorem a348 (h0 : a % 64 = b) : b + 128 * ((c + d) % 2) < 256 := ao (iV (h0 ▸ bR _ (by decide)) (aW 128 (cw (bR _ (by decide))))) (by decide)
theorem a349 (h0 : ¬a < b) : b ≤ a := c6 h0
theorem a350 (h0 : a < b) : a + 1 < b + 1 := dt h0
theorem a351 (h0 : a / 64 = 1) : a / 64 % 2 = 1 := by lia
theorem a352 (h0 : a / 64 = 1) : a + 128 * ((b + c) % 2) < 256 := ao (iV ((Nat.div_lt_iff_lt_mul (k := 64) (y := 2) (by decide)).mp (h0 ▸ by decide)) (aW 128 (cw (bR _ (by decide))))) (by decide)
theorem a353 (h0 : a = b % 64 + 64) : a / 64 = 1 := by rw [h0, Nat.add_div_right _ (by decide), Nat.div_eq_of_lt (bR b (by decide))]
theorem a354 (h0 : a % 64 = 0) (h1 : ¬63 < b) : 0 * 64 + (b % 64 + a) % 64 = b := by
 rw [Nat.zero_mul, Nat.zero_add, Nat.mod_add_mod, ← Nat.add_mod_mod, h0]; exact Nat.mod_eq_of_lt (dt (c6 h1))
theorem a355 (h0 : a % 64 = 0) : b / 64 * 64 + (b % 64 + a) % 64 = b := by
 rw [Nat.mod_add_mod, ← Nat.add_mod_mod, h0, ft]; exact Nat.div_add_mod b 64
theorem a356 : (a + 128 * (b % 2)) % 64 = a % 64 := by rw [show 128 * (b % 2) = 64 * (2 * (b % 2)) from i9 64 2 _, Nat.add_mul_mod_self_left]
theorem a357 (h0 : ¬63 < a) : ¬63 < (↑a : Int) := by lia
theorem a358 (h0 : a ≤ 5) (h1 : b ≤ 32 * a) : b ≤ 200 := by lia
theorem a359 (h0 : a ≤ 32 * b) (h1 : c ≤ 30) : c + 2 + a ≤ 32 * (b + 1) := by lia
theorem a360 (h0 : a ≤ b) : c + (a + 1 + 1) ≤ c + 2 + b := by lia
theorem a361 (h0 : a ≤ b + 1 - 0) : min (a + 1) (a + (0 + 1)) ≤ b + 2 := by lia
theorem a362 (h0 : a < b) (h1 : a = c + (d + 1 + 1)) (h2 : b = 2) : False := by subst_vars; lia
theorem a363 : a < a + 1 := by lia
theorem a364 : a + (b + 2) = a + b + 2 := rfl
theorem a365 (h0 : a ≤ b) (h1 : b < a + c) : b - a < c := Nat.sub_lt_left_of_lt_add h0 h1
theorem a366 (h0 : a ≤ b) : a + 1 ≤ b + c + 2 := by lia
theorem a367 : ¬a + b + 2 ≤ a + b + 1 := by lia
theorem a368 (h0 : a ≤ b) : a ≤ b + c := ad h0 (aK _ _)
theorem a369 (h0 : a < b) (h1 : c ≤ d) (h2 : a = d + (e + (f + 2))) : c < b := by subst_vars; lia
theorem a370 (h0 : a = b + (c + (d + 2))) : b + c + 1 < a := by subst_vars; lia
theorem a371 (h0 : a = b + (c + (d + 2))) : a + 1 - b = c + (a + 1 - (b + c + 2) + 1 + 1) := by
 subst h0; have e1 : b + (c + (d + 2)) + 1 = b + c + 2 + (d + 1) := by rw [← Nat.add_assoc b, Nat.add_assoc (b + c), Nat.add_assoc (b + c)]; exact congrArg (b + c + ·) (dK (d + 1) 2)
 rw [e1, cS, Nat.add_assoc (b + c), Nat.add_assoc b, cS]; exact congrArg (c + ·) (dK 2 (d + 1))
theorem a372 : a + b + 1 - a - b = 1 := by rw [Nat.sub_sub, cS]
theorem a373 : a ≤ b + a + 1 - b := d4 (bL (bd (dK _ _)))
theorem a374 : a ≤ a + b + 1 := by lia
theorem a375 : a + b - a - b = 0 := by lia
theorem a376 : a ≤ b + a - b := bd (cS ..).symm
theorem a377 (h0 : a = b + (c + (d + 2))) (h1 : e = 2) : b + c + e ≤ a := by subst_vars; lia
theorem a378 (h0 : a < b + 1 + c) : a < b + (c + 1) := by lia
theorem a379 : a < a + (b + 1) := by lia
theorem a380 (h0 : a = 2) (h1 : ¬b + 1 < c) : ¬b + a ≤ c := by subst_vars; exact h1
theorem a381 (h0 : a = 2) : b + a - b = 2 := by subst_vars; lia
theorem a382 (h0 : a = b + 1) (h1 : c < b) : c + 1 < a := by subst_vars; lia
theorem a383 (h0 : a < b) : min a (b + 1) + (b - (a + 1) + 1) = b := by rw [Nat.min_eq_left (bL (bD h0))]; exact (congrArg (a + ·) (Nat.succ_pred_eq_of_pos (dq h0))).trans (Nat.add_sub_of_le (bD h0))
theorem a384 (h0 : a ≤ 5) (h1 : b + 1 ≤ a) : b < 5 := ao h1 h0
theorem qv (h0 : a ≤ 5) (h1 : b + 1 ≤ a) : b ≤ 5 := ad (bD h1) h0
theorem a386 (h0 : a = b) (h1 : a = c) : b = c := h0 ▸ h1
theorem a387 (h0 : a < b) (h1 : c + 1 ≤ a) : c < b := cN h1 h0
theorem a388 (h0 : a = b) (h1 : b < c) : a < c := h0 ▸ h1
theorem a389 (h0 : a = 2 * b + 1) (h1 : c = 2 * d + 1) : a + c + 1 = 2 * (b + d + 1) + 1 := by subst_vars; lia
theorem a390 (h0 : a ≤ b) (h1 : c ≤ d) : max a c + 1 ≤ b + d + 1 := Nat.succ_le_succ (Nat.max_le.mpr ⟨ad h0 (aK _ _), ad h1 (aq _ _)⟩)
theorem a391 (h0 : a + b = c) (h1 : d + (c + 1) = e) : a + d + 1 + b = e := by subst_vars; lia
theorem a392 (h0 : a = b) (h1 : a = c) : 0 + b = c := by subst_vars; lia
theorem a393 (h0 : a ≤ b) (h1 : b + 1 ≤ c) : a ≤ c := ad h0 (dS h1)
theorem a394 (h0 : a = b) (h1 : a = c) : b ≤ c := by subst_vars; lia
theorem a395 : 1 ≤ a + 1 := aq _ _
theorem a396 (h0 : a = b + 2) : -1 + (↑a : Int) = (↑(b + 1) : Int) := by subst_vars; lia
theorem a397 (h0 : a = b + 2) : -(↑a : Int) ≤ -1 := by subst_vars; lia
theorem a398 (h0 : a = 42 ∨ a = 43) (h1 : a = 34 ∨ a = b ∨ a = 34) (h2 : ((¬b = 42 ∧ ¬b = 43) ∧ ¬b = 34) ∧ ¬b = 92) : False := by lia
theorem a399 (h0 : a = 42 ∨ a = 43) (h1 : a = 92 ∨ a = b) (h2 : ¬b = 42 ∧ ¬b = 43) : False := by lia
theorem a400 (h0 : 41 = a) : ¬(a = 42 ∨ a = 43) := h0 ▸ by decide
theorem a401 {a : Int} (h0 : 0 ≤ a) : 0 ≤ a + 1 := by lia
theorem a402 {a : Int} (h0 : 0 ≤ a) : 1 ≤ a + 1 := by lia
theorem a403 (h0 : 40 = a) : ¬(a = 42 ∨ a = 43) := h0 ▸ by decide
theorem a404 (h0 : a = b) (h1 : b ≤ 5) : a < 6 := h0 ▸ bg h1 (by decide)
theorem a405 {a : Int} : a + 1 - 1 = a := by lia
theorem a406 {a : Int} (h0 : 0 ≤ a) : ¬a + 1 - 1 < 0 := by lia
theorem a407 {a : Int} (h0 : 1 ≤ a) : a ≠ 0 := by lia
theorem a408 (h0 : a < b) : a ≤ b := bD h0
theorem a409 (h0 : a < b) : a ≤ b + (c + 1) := by lia
theorem a410 (h0 : a = b + (c + 1)) : b < a := by subst_vars; lia
theorem a411 (h0 : a = b + 1) : b = a - 1 := by subst_vars; lia
theorem a412 (h0 : a = b) (h1 : c + b = d + 1) : a + c = d + 1 := by subst_vars; lia
theorem a413 : a + 1 - a = 1 := by lia
theorem a414 : a ≤ a + 1 := aK _ _
theorem a415 : (↑(a + 1) : Int) = (↑a : Int) + 1 := rfl
theorem a416 : a + 1 ≤ a + (b + 1) := by lia
theorem a417 (h0 : a = b) (h1 : c = b) : a = c := h1 ▸ h0
theorem a418 (h0 : a ≤ b) : b + 1 = a + (b + 1 - a) := (fn (bL h0)).symm
theorem a419 (h0 : a ≤ b) (h1 : b + 1 ≤ c) : c + 1 - a = b + 1 - a + (c + 1 - (b + 1)) :=
 (Nat.sub_add_sub_cancel (bL h1) (bL h0)).symm.trans (dK _ _)
theorem a420 (h0 : a = b) (h1 : a = c) : c + 1 - b = 1 := by subst_vars; lia
theorem a421 (h0 : a + b = c + 1) (h1 : d + (c + 1) = e + 1) : a + d + b = e + 1 := by lia
theorem a422 (h0 : a = b) (h1 : a = c) : 1 + b = c + 1 := by subst_vars; lia
theorem a423 (h0 : ¬a < 6) : 6 ≤ a := c6 h0
theorem a424 (h0 : a ≤ 10 * b) (h1 : b = 11) : a ≤ 1000 := by subst_vars; lia
theorem a425 (h0 : a ≤ 5) : a ≤ 6 := bL h0
theorem a426 (h0 : a ≤ 10 * b) (h1 : c ≤ 10 * d) : 1 + (a + (1 + (c + 1))) ≤ 10 * (b + d + 1) := by lia
theorem a427 (h0 : a < b * 2) : a / 2 < b := gy (ft b 2 ▸ h0)
theorem a428 : 2 * a / 2 = a := Nat.mul_div_cancel_left a (by decide)
theorem a429 (h0 : a < b) : 2 * a < b * 2 := by lia
theorem a430 : (2 * a + 1) / 2 = a := by rw [Nat.mul_add_div (by decide)]; rfl
theorem a431 (h0 : a < b) : 2 * a + 1 < b * 2 := by lia
theorem a432 : (a * 2 - 1) / 2 = a - 1 := by
 cases a with
 | zero => rfl
 | succ n => rw [Nat.succ_mul, ft]; exact Nat.mul_add_div (by decide) n 1
theorem a433 (h0 : a ≥ 6) (h1 : a < 6) : False := by lia
theorem a434 : a + b = b + a := by lia
theorem a435 (h0 : a ≤ b) : a < b + 1 := dt h0
theorem a436 (h0 : a < b + 1) : a ≤ b := cw h0
theorem a437 (h0 : a = 10) (h1 : 11 + 1 ≤ b + a) (h2 : b = c) : 2 ≤ c := by subst_vars; lia
theorem a438 (h0 : a + b = 11) (h1 : b = 10) : a = 1 := by subst_vars; lia
theorem a439 (h0 : a + 1 = b) (h1 : a + 1 ≤ c + d) : b + 1 ≤ c + (d + 1) := by subst_vars; lia
theorem a440 (h0 : a + 1 = b) (h1 : c + d = a) : c + (d + 1) = b := by subst_vars; lia
theorem a441 (h0 : 0 < a) : a - 1 + 1 = a := by lia
theorem a442 (h0 : ¬a < 6) : 6 + (a - 6) = a := fn (c6 h0)
theorem a443 (h0 : a < 11) : a - 6 < 5 := bg (jm (cw h0) 6) (by decide)
theorem a444 : 0 ≤ a - 6 := be _
theorem a445 (h0 : a < 6) : a < 11 := ao h0 (by decide)
theorem a446 : 6 + a - 6 = a := by lia
theorem a447 : ¬6 + a < 6 := by lia
theorem a448 (h0 : a + 1 ≤ b) : ¬b < a := by lia
theorem a449 (h0 : a + 1 ≤ b) : ¬b = a := Nat.ne_of_gt h0
theorem a450 (h0 : a + 1 ≤ b) (h1 : c < a) : c < b := cN h1 h0
theorem a451 (h0 : a ≤ 5) (h1 : b ≤ a) : b < 6 := by lia
theorem a452 : (6 + (↑a : Int)).toNat = 6 + a := rfl
theorem a453 (h0 : a ≤ 5) (h1 : b + 1 ≤ a) : 6 + (↑b : Int) < 11 := by lia
theorem a454 : 0 ≤ 6 + (↑a : Int) := bm _
theorem a455 (h0 : a ≤ 5) (h1 : b + 1 ≤ a) : 0 ≤ 6 + (↑b : Int) ∧ 6 + (↑b : Int) < 11 := by lia
theorem a456 (h0 : a = b) (h1 : b ≤ 5) : 0 ≤ (↑a : Int) ∧ (↑a : Int) < 11 := by subst_vars; lia
theorem a457 (h0 : a + b = c + d) (h1 : e + (c + 1) = f + g) : 0 + 1 + (a + e) + b = f + (d + g) := by lia
theorem a458 (h0 : a + b = c + d) (h1 : e + (c + 1) = f + g) : 0 + 1 + 1 + (a + e) + b = f + (d + (g + 1)) := by lia
theorem a459 (h0 : a ≤ b) : a + (b - a) = b := fn h0
theorem a460 (h0 : a ≤ b) (h1 : b + 1 ≤ c) : c - a = b - a + (c - (b + 1) + 1) := by
 have h : c - (b + 1) + 1 = c - b := Nat.succ_pred_eq_of_pos (dq h1); exact (Nat.sub_add_sub_cancel (dS h1) h0).symm.trans ((dK _ _).trans (congrArg (b - a + ·) h.symm))
theorem a461 (h0 : a = b) (h1 : a = c) : 0 + b = c + 0 := by subst_vars; lia
theorem a462 (h0 : a = b) (h1 : a = c) : c - b = 0 := by subst_vars; lia
theorem a463 (h0 : a + 1 ≤ b) (h1 : c ≤ a ∧ d ≤ a) : c ≤ b ∧ d ≤ b := ⟨ad h1.1 (dS h0), ad h1.2 (dS h0)⟩
theorem a464 (h0 : a + 1 ≤ b) (h1 : c ≤ a) : c ≤ b := by lia
theorem a465 {a : Int} {b : Int} (h0 : 0 ≤ a ∧ a < 11 ∧ 0 ≤ b ∧ b < 11) : b.toNat < 11 := (Int.toNat_lt h0.2.2.1).mpr h0.2.2.2
theorem a466 {a : Int} {b : Int} (h0 : 0 ≤ a ∧ a < 11 ∧ 0 ≤ b ∧ b < 11) : a.toNat < 11 := (Int.toNat_lt h0.1).mpr h0.2.1
theorem a467 (h0 : a < 6 ∧ b < 6) : (↑b : Int).toNat < 11 := cN h0.2 (by decide)
theorem a468 (h0 : a < 6 ∧ b < 6) : (↑a : Int).toNat < 11 := cN h0.1 (by decide)
theorem a469 (h0 : ¬a < 64) : 64 ≤ a := c6 h0
theorem a470 (h0 : a ≤ 5 ∧ b ≤ 5) : a < 6 ∧ b < 6 := by lia
theorem a471 (h0 : a ≤ 5) (h1 : b + 1 ≤ a) (h2 : c ≤ b) : c < 6 := by lia
theorem a472 (h0 : a ≤ 5) : a < 6 := dt h0
theorem a473 (h0 : a < 42) : a / 6 < 7 := gy h0
theorem a474 : a % 6 < 6 := bR _ (by decide)
theorem a475 : a = 6 * (a / 6) + a % 6 := by lia
theorem a476 (h0 : a < 6 ∧ b < 6) : (↑b : Int) < 11 := by omega
theorem a477 (h0 : a < 6 ∧ b < 6) : (↑a : Int) < 11 := bu.mpr (cN h0.1 (by decide))
theorem a478 (h0 : a < b) (h1 : b < 6) : a < 6 := cN h0 h1
theorem a479 (h0 : a < 6) (h1 : b < a) : b < min a 6 := Nat.lt_min.mpr ⟨h1, cN h1 h0⟩
theorem a480 (h0 : a < min b 6) : a < b ∧ a < 6 := ⟨ao h0 (cW _ _), ao h0 (bV _ _)⟩
theorem a481 (h0 : a < b ∧ b < 6 ∧ c = b) : a < 6 ∧ b < 6 := ⟨cN h0.1 h0.2.1, h0.2.1⟩
theorem a482 : 120 * 0 + a % 120 = a % 120 := by lia
theorem a483 (h0 : a < 720) : a / 120 < 6 := gy h0
theorem a484 : a % 120 < 120 := bR _ (by decide)
theorem a485 : a = 120 * (a / 120) + a % 120 := by lia
theorem a486 (h0 : a ≤ 30) : a ≤ 100 := ad h0 (by decide)
theorem a487 (h0 : a < 5) : a < 10 := ao h0 (by decide)
theorem a488 (h0 : a ≤ 100) : a ≤ 5592405 := ad h0 (by decide)
theorem a489 (h0 : a ≤ 100) (h1 : b ≤ 3 * a) : b ≤ 5592405 := by lia
theorem a490 (h0 : a < 24) (h1 : b < 5) : a + b < 28 := bg (bc (cw h0) (cw h1)) (by decide)
theorem a491 (h0 : a ≤ 30) : a ≤ 5592405 := ad h0 (by decide)
theorem a492 (h0 : 97 + a / 2 = 97 + b) : a / 2 = b := by lia
theorem a493 : ((↑a : Int) - (↑b : Int)).toNat = a - b := Int.toNat_sub a b
theorem a494 (h0 : a ≤ b) : (↑a : Int) ≤ (↑b : Int) := Int.ofNat_le.mpr h0
theorem a495 (h0 : ¬a ≠ b) : a = b := by lia
theorem a496 (h0 : a ≤ b) : a ≤ b + 2 := ad h0 (aK _ _)
theorem a497 (h0 : a ≤ b) (h1 : ¬a < c) (h2 : c = b) : a = b := by subst_vars; lia
end
theorem szl {n : Nat} (h : n ≤ 16777216) : n ≤ aS := aD ▸ h
end
section
theorem lx {h : Heap} {a : Addr} {mp : Str → Option Value} (n : h.Ns a mp) : ∃ o, h.get? a = some o := by obtain ⟨o, _, _, ho, _⟩ := n; exact ⟨o, ho⟩
noncomputable abbrev Mp := Addr → Option Obj
noncomputable def Mp.le (m m' : Mp) : Prop := ∀ a o, m a = some o → m' a = some o
theorem Mp.le.rfl {m : Mp} : m.le m := fun _ _ e => e
theorem Mp.le.trans {m m' m'' : Mp} (x : m.le m') (y : m'.le m'') : m.le m'' := fun a o e => y a o (x a o e)
noncomputable def Ok (m : Mp) (h : Heap) : Prop := ∀ a o, m a = some o → h.get? a = some o
noncomputable def Kn (m : Mp) (P : Heap → Prop) : Prop := ∀ h, Ok m h → P h
theorem Kn.up {m m' : Mp} {P : Heap → Prop} (k : Kn m P) (l : m.le m') : Kn m' P := fun h o => k h fun a ob e => o a ob (l a ob e)
theorem Kn.map {m : Mp} {P Q : Heap → Prop} (k : Kn m P) (f : ∀ h, P h → Q h) : Kn m Q := fun h o => f h (k h o)
structure Grd (w : World) (h : Heap) : Prop where
 k : Frag.In (KH w.params) h
 g : ∃ mg, h.Ns bS mg ∧ ∀ x v, nsIn (KH w.params) bS x = some v → mg x = v
 b : ∃ mb, h.Ns ca mb ∧ ∀ x : Str, x ≠ "__name__" → mb x = bootBuiltins x
 nolim : h.NoLimit
 nodig : ∃ mc, h.Ns gg mc ∧ mc "sys.int_max_str_digits" = none
structure VE where
 name : Str
 cel : Option Addr
 val : Option Value
structure Vars (env : Env) (own : List Addr) (h : Heap) (ρ : List VE) : Prop where
 kind : env.scope.kind = .function
 glob : env.globals = bS
 bltn : env.builtins = ca
 loc : env.locals ∈ own
 ns : ∃ mp, h.Ns env.locals mp ∧ ∀ e ∈ ρ, e.cel = none → ∀ v, e.val = some v → mp e.name = some v
 kl : ∀ e ∈ ρ, e.cel = none → env.kindOf e.name = some .local
 kc : ∀ e ∈ ρ, ∀ c, e.cel = some c → (env.kindOf e.name = some .cell ∨ env.kindOf e.name = some .free) ∧ env.cells.lookup e.name = some c ∧ c ≠ env.locals ∧ ∃ v, h.IsCell c v ∧ ∀ u, e.val = some u → v = some u
 names : (ρ.map (·.name)).Nodup
 cels : (ρ.filterMap (·.cel)).Nodup
noncomputable abbrev Led := List (Addr × (Obj → Prop))
structure Cx where
 old : Mp
 caps : List Addr
 base : Mp
 G : Array aE
 os : OsState
structure Bd (w : World) (c : Cx) (γ : Array aE) (m : Mp) (env : Env) (own : List Addr) (ρ : List VE) (nw : Led) (s : Shared) : Prop where
 old : ∀ a o, c.old a = some o → s.heap.get? a = some o
 ok : Ok m s.heap
 low : ∀ a o, c.old a = some o → m a = c.base a
 gr : Kn m (Grd w)
 ble : c.base.le m
 os : s.os = c.os
 gens : s.gens = γ
 gpre : ∀ (i : Nat) (x : aE), c.G[i]? = some x → γ[i]? = some x
 bare : gY γ
 vars : Vars env own s.heap ρ
 cin : ∀ e ∈ ρ, ∀ a, e.cel = some a → a ∈ own ∨ a ∈ c.caps
 caps : ∀ a ∈ c.caps, ∃ o, c.old a = some o
 ownok : ∀ a ∈ own, ∃ o, s.heap.get? a = some o
 ledok : ∀ p ∈ nw, ∃ o, s.heap.get? p.1 = some o ∧ p.2 o
 nodup : (own ++ nw.map (·.1)).Nodup
 out : ∀ a ∈ own ++ nw.map (·.1), m a = none ∧ c.old a = none
structure Rm (A : au) (d u : Nat) : Prop where
 handled : A.handled = none
 depth : A.depth + d < jf
 units : A.units + u < cLine
theorem Rm.deeper {A : au} {env : Env} {d u : Nat} (r : Rm A (d + 1) (u + 3)) : Rm (A.deeper env) d u :=
 ⟨r.handled, by have := r.depth; show A.depth + 1 + d < _; exact a20 this, by have := r.units; show A.units + 3 + u < _; exact a19 this⟩
theorem Rm.less {A : au} {d u d' u' : Nat} (r : Rm A d u) (hd : d' ≤ d) (hu : u' ≤ u) : Rm A d' u' :=
 ⟨r.handled, by have := r.depth; exact a18 hd this, by have := r.units; exact a18 hu this⟩
structure Bef (w : World) (m : Mp) (s : Shared) : Prop where
 ok : Ok m s.heap
 gr : Kn m (Grd w)
 bare : gY s.gens
structure Aft (X : List Addr) (m : Mp) (s : Shared) (m' : Mp) (s' : Shared) : Prop where
 le : m.le m'
 ok : Ok m' s'.heap
 keep : ∀ a o, s.heap.get? a = some o → a ∉ X → s'.heap.get? a = some o
 low : ∀ a o, s.heap.get? a = some o → m' a = m a
 os : s'.os = s.os
 gens : ∀ (i : Nat) (x : aE), s.gens[i]? = some x → s'.gens[i]? = some x
 bare : gY s'.gens
section
variable {w : World} {c : Cx} {γ : Array aE} {m : Mp} {env : Env} {own : List Addr} {ρ : List VE} {nw : Led} {s : Shared}
theorem Bd.bef (B : Bd w c γ m env own ρ nw s) : Bef w m s := ⟨B.ok, B.gr, B.gens ▸ B.bare⟩
theorem Vars.keep {h h' : Heap} (V : Vars env own h ρ) (k : ∀ a o, (a = env.locals ∨ ∃ e ∈ ρ, e.cel = some a) → h.get? a = some o → h'.get? a = some o) : Vars env own h' ρ where
 kind := V.kind
 glob := V.glob
 bltn := V.bltn
 loc := V.loc
 ns := by
   refine x12 V.ns fun mp hn hm => ?_; refine x32 hn fun o es ep ho r => ?_; exact ⟨mp, ⟨o, es, ep, k _ _ (.inl rfl) ho, r⟩, hm⟩
 kl := V.kl
 kc := fun e he cc hc => by
   obtain ⟨h1, h2, h3, v, ⟨o, ho, hd⟩, h5⟩ := V.kc e he cc hc; exact ⟨h1, h2, h3, v, ⟨o, k _ _ (.inr ⟨e, he, hc⟩) ho, hd⟩, h5⟩
 names := V.names
 cels := V.cels
theorem Bd.aft {m' : Mp} {s' : Shared} (B : Bd w c γ m env own ρ nw s) (f : Aft [] m s m' s') : Bd w c s'.gens m' env own ρ nw s' where
 old := fun a o e => f.keep a o (B.old a o e) (by simp)
 ok := f.ok
 low := fun a o e => (f.low a o (B.old a o e)).trans (B.low a o e)
 gr := B.gr.up f.le
 ble := B.ble.trans f.le
 os := f.os.trans B.os
 gens := rfl
 gpre := fun i x e => f.gens i x (B.gens ▸ B.gpre i x e)
 bare := f.bare
 vars := B.vars.keep fun a o _ e => f.keep a o e (by simp)
 cin := B.cin
 caps := B.caps
 ownok := fun a ha => by obtain ⟨o, ho⟩ := B.ownok a ha; exact ⟨o, f.keep _ _ ho (by simp)⟩
 ledok := fun p hp => by obtain ⟨o, ho, q⟩ := B.ledok p hp; exact ⟨o, f.keep _ _ ho (by simp), q⟩
 nodup := B.nodup
 out := fun a ha => ⟨by
   have h1 := (B.out a ha).1; have : ∃ o, s.heap.get? a = some o := by
     rcases mAp ha with h | h
     · exact B.ownok a h
     obtain ⟨p, hp, rfl⟩ := mMa h; refine x12 (B.ledok p hp) fun o ho _ => ?_; exact ⟨o, ho⟩
   obtain ⟨o, ho⟩ := this; exact (f.low a o ho).trans h1, (B.out a ha).2⟩
theorem Bd.tk (B : Bd w c γ m env own ρ nw s) (d : Drawn) (t : Nat) : Bd w c γ m env own ρ nw ⟨s.heap, s.gens, d, t, s.os⟩ :=
 ⟨B.old, B.ok, B.low, B.gr, B.ble, B.os, B.gens, B.gpre, B.bare, B.vars, B.cin, B.caps, B.ownok, B.ledok, B.nodup, B.out⟩
theorem Bd.mem_ne {a b : Addr} (B : Bd w c γ m env own ρ nw s) {o : Obj} (ha : m a = some o) (hb : b ∈ own ++ nw.map (·.1)) : a ≠ b := fun e => by
 have := (B.out b hb).1; rw [← e, ha] at this; cases this
theorem Bd.old_ne {a b : Addr} (B : Bd w c γ m env own ρ nw s) {o : Obj} (ha : c.old a = some o) (hb : b ∈ own ++ nw.map (·.1)) : a ≠ b := fun e => by
 have := (B.out b hb).2; rw [← e, ha] at this; cases this
theorem Bd.led {a : Addr} {P : Obj → Prop} (B : Bd w c γ m env own ρ nw s) (h : (a, P) ∈ nw) : ∃ o, s.heap.get? a = some o ∧ P o := B.ledok _ h
theorem Bd.fresh (B : Bd w c γ m env own ρ nw s) : m s.heap.objs.size = none ∧ c.old s.heap.objs.size = none ∧ s.heap.objs.size ∉ own ++ nw.map (·.1) := by
 refine ⟨?_, ?_, fun h => ?_⟩
 · cases e : m s.heap.objs.size with
   | none => rfl
   | some o => exact absurd (aJ (B.ok _ _ e)) (bB _)
 · cases e : c.old s.heap.objs.size with
   | none => rfl
   | some o => exact absurd (aJ (B.old _ _ e)) (bB _)
 rcases mAp h with h | h
 · obtain ⟨o, ho⟩ := B.ownok _ h; exact absurd (aJ ho) (bB _)
 refine x12 (mMa h) fun p hp e => ?_; refine x12 (B.ledok p hp) fun o ho _ => ?_; exact absurd (aJ (e ▸ ho)) (bB _)
noncomputable def Mp.put (m : Mp) (a : Addr) (o : Obj) : Mp := fun b => if b = a then some o else m b
theorem Mp.le_put {m : Mp} {a : Addr} {o : Obj} (h : m a = none) : m.le (m.put a o) := fun b ob e => by
 unfold Mp.put; by_cases q : b = a
 · subst q; rw [h] at e; cases e
 rw [if_neg q]; exact e
theorem Mp.put_self {m : Mp} {a : Addr} {o : Obj} : (m.put a o) a = some o := by unfold Mp.put; rw [if_pos rfl]
theorem Mp.put_ne {m : Mp} {a b : Addr} {o : Obj} (h : b ≠ a) : (m.put a o) b = m b := by unfold Mp.put; rw [if_neg h]
theorem Bd.grow {h' : Heap} {d : Drawn} {t : Nat} (B : Bd w c γ m env own ρ nw s) (k : ∀ a o, s.heap.get? a = some o → h'.get? a = some o) : Bd w c γ m env own ρ nw ⟨h', s.gens, d, t, s.os⟩ :=
 ⟨fun a o e => k a o (B.old a o e), fun a o e => k a o (B.ok a o e), B.low, B.gr, B.ble, B.os, B.gens, B.gpre, B.bare, B.vars.keep fun a o _ e => k a o e, B.cin, B.caps,
   fun a ha => by obtain ⟨o, ho⟩ := B.ownok a ha; exact ⟨o, k _ _ ho⟩, fun p hp => by obtain ⟨o, ho, q⟩ := B.ledok p hp; exact ⟨o, k _ _ ho, q⟩, B.nodup, B.out⟩
theorem Bd.addK {a : Addr} {o : Obj} (B : Bd w c γ m env own ρ nw s) (ho : s.heap.get? a = some o) (h1 : m a = none) (h2 : c.old a = none) (h3 : a ∉ own ++ nw.map (·.1)) :
   Bd w c γ (m.put a o) env own ρ nw s where
 old := B.old
 ok := fun b ob e => by
   unfold Mp.put at e; by_cases q : b = a
   · subst q; rw [if_pos rfl] at e; cases e; exact ho
   rw [if_neg q] at e; exact B.ok b ob e
 low := fun b ob e => by
   rw [Mp.put_ne (fun q => by subst q; rw [h2] at e; cases e)]
   exact B.low b ob e
 gr := B.gr.up (Mp.le_put h1)
 ble := B.ble.trans (Mp.le_put h1)
 os := B.os
 gens := B.gens
 gpre := B.gpre
 bare := B.bare
 vars := B.vars
 cin := B.cin
 caps := B.caps
 ownok := B.ownok
 ledok := B.ledok
 nodup := B.nodup
 out := fun b hb => ⟨by rw [Mp.put_ne (fun q => by subst q; exact h3 hb)]; exact (B.out b hb).1, (B.out b hb).2⟩
theorem Bd.addL {a : Addr} {o : Obj} {P : Obj → Prop} (B : Bd w c γ m env own ρ nw s) (ho : s.heap.get? a = some o) (hP : P o) (h1 : m a = none) (h2 : c.old a = none) (h3 : a ∉ own ++ nw.map (·.1)) :
   Bd w c γ m env own ρ ((a, P) :: nw) s where
 old := B.old
 ok := B.ok
 low := B.low
 gr := B.gr
 ble := B.ble
 os := B.os
 gens := B.gens
 gpre := B.gpre
 bare := B.bare
 vars := B.vars
 cin := B.cin
 caps := B.caps
 ownok := B.ownok
 ledok := fun p hp => by
   rcases mCo hp with rfl | hp
   · exact ⟨o, ho, hP⟩
   exact B.ledok p hp
 nodup := by
   have := B.nodup; rw [ag]; rw [aH] at this ⊢; refine ⟨this.1, aB.mpr ⟨fun hm => h3 (an.mpr (.inr hm)), this.2.1⟩, fun x hx y hy => ?_⟩; rcases mCo hy with rfl | hy
   · exact fun e => h3 (an.mpr (.inl (e ▸ hx)))
   exact this.2.2 x hx y hy
 out := fun b hb => by
   rcases mAp hb with hb | hb
   · exact B.out b (an.mpr (.inl hb))
   rw [ag] at hb; rcases mCo hb with rfl | hb
   · exact ⟨h1, h2⟩
   exact B.out b (an.mpr (.inr hb))
theorem Bd.sub {nw' : Led} (B : Bd w c γ m env own ρ nw s) (h : ∀ p ∈ nw', p ∈ nw) (hn : (nw'.map (·.1)).Nodup) : Bd w c γ m env own ρ nw' s :=
 have mm : ∀ a ∈ nw'.map (·.1), a ∈ nw.map (·.1) := fun a ha => by obtain ⟨p, hp, rfl⟩ := mMa ha; exact aF (h p hp)
 ⟨B.old, B.ok, B.low, B.gr, B.ble, B.os, B.gens, B.gpre, B.bare, B.vars, B.cin, B.caps, B.ownok, fun p hp => B.ledok p (h p hp), by
   have := B.nodup; rw [aH] at this ⊢; exact ⟨this.1, hn, fun x hx y hy => this.2.2 x hx y (mm y hy)⟩, fun a ha => B.out a (by
   rcases mAp ha with ha | ha
   · exact an.mpr (.inl ha)
   exact an.mpr (.inr (mm a ha)))⟩
theorem Bd.drop1 {p : Addr × (Obj → Prop)} (B : Bd w c γ m env own ρ (p :: nw) s) : Bd w c γ m env own ρ nw s :=
 B.sub (fun q hq => .tail _ hq) (by have := B.nodup; rw [aH] at this; exact (aB.mp this.2.1).2)
theorem Bd.freeze {a : Addr} {P : Obj → Prop} (B : Bd w c γ m env own ρ ((a, P) :: nw) s) : ∃ m', m.le m' ∧ Kn m' (fun h => ∃ o, h.get? a = some o ∧ P o) ∧ Bd w c γ m' env own ρ nw s := by
 refine x12 (B.ledok _ (.head _)) fun o ho hP => ?_; have hm : a ∈ own ++ ((a, P) :: nw).map (·.1) := an.mpr (.inr (.head _)); have hn := B.nodup; refine ⟨m.put a o, Mp.le_put (B.out a hm).1, fun h ok => ⟨o, ok a o Mp.put_self, hP⟩, B.drop1.addK ho (B.out a hm).1 (B.out a hm).2 fun h => ?_⟩; rw [ag, aH] at hn; rcases mAp h with h | h
 · exact hn.2.2 a h a (.head _) rfl
 exact (aB.mp hn.2.1).1 h
inductive Upd (a : Addr) (P P' : Obj → Prop) : Led → Led → Prop
 | head {r : Led} : Upd a P P' ((a, P) :: r) ((a, P') :: r)
 | tail {p r r'} : Upd a P P' r r' → Upd a P P' (p :: r) (p :: r')
theorem Upd.keys {a : Addr} {P P' : Obj → Prop} {l l' : Led} (u : Upd a P P' l l') : l'.map (·.1) = l.map (·.1) := by
 induction u with
 | head => rfl
 | tail _ ih => rw [ag, ag, ih]
theorem Upd.mem {a : Addr} {P P' : Obj → Prop} {l l' : Led} (u : Upd a P P' l l') : (a, P) ∈ l := by
 induction u with
 | head => exact .head _
 | tail _ ih => exact .tail _ ih
theorem Upd.split {a : Addr} {P P' : Obj → Prop} {l l' : Led} (u : Upd a P P' l l') (hn : (l.map (·.1)).Nodup) : ∀ p ∈ l', p = (a, P') ∨ (p.1 ≠ a ∧ p ∈ l) := by
 induction u with
 | @head r =>
   intro p hp; rcases mCo hp with rfl | hp
   · exact .inl rfl
   exact .inr ⟨fun e => (aB.mp hn).1 (e ▸ aF (f := (·.1)) hp), .tail _ hp⟩
 | @tail p0 r r' u ih =>
   intro p hp; rw [ag] at hn; rcases mCo hp with rfl | hp
   · exact .inr ⟨fun e => (aB.mp hn).1 (e ▸ aF u.mem), .head _⟩
   rcases ih (aB.mp hn).2 p hp with h | h
   · exact .inl h
   exact .inr ⟨h.1, .tail _ h.2⟩
theorem Bd.turn {a : Addr} {P P' : Obj → Prop} {nw' : Led} {h' : Heap} {d : Drawn} {t : Nat} (B : Bd w c γ m env own ρ nw s) (u : Upd a P P' nw nw') (k : ∀ b o, b ≠ a → s.heap.get? b = some o → h'.get? b = some o)
   (hP : ∃ o, h'.get? a = some o ∧ P' o) : Bd w c γ m env own ρ nw' ⟨h', s.gens, d, t, s.os⟩ := by
 have hm : a ∈ own ++ nw.map (·.1) := an.mpr (.inr (aF u.mem)); have hn := B.nodup; rw [aH] at hn; refine ⟨fun b o e => k b o (B.old_ne e hm) (B.old b o e), fun b o e => k b o (B.mem_ne e hm) (B.ok b o e), B.low, B.gr, B.ble, B.os, B.gens, B.gpre, B.bare, B.vars.keep fun b o hb e => k b o ?_ e, B.cin, B.caps, fun b hb => ?_, fun p hp => ?_, by rw [u.keys]; exact B.nodup, by rw [u.keys]; exact B.out⟩
 · rcases hb with rfl | ⟨x, hx, hc⟩
   · exact fun e => hn.2.2 _ B.vars.loc a (aF u.mem) e
   rcases B.cin x hx b hc with h | h
   · exact fun e => hn.2.2 _ h a (aF u.mem) e
   obtain ⟨ob, h⟩ := B.caps b h; exact B.old_ne h hm
 · obtain ⟨o, ho⟩ := B.ownok b hb; exact ⟨o, k b o (fun e => hn.2.2 b hb a (aF u.mem) e) ho⟩
 rcases u.split hn.2.1 p hp with rfl | ⟨h1, h2⟩
 · exact hP
 refine x12 (B.ledok p h2) fun o ho q => ?_; exact ⟨o, k _ _ h1 ho, q⟩
end
end
section
inductive PutV (x : Str) (k : Option Addr) (v : Value) : List VE → List VE → Prop
 | head {u r} : PutV x k v (⟨x, k, u⟩ :: r) (⟨x, k, some v⟩ :: r)
 | tail {e r r'} : PutV x k v r r' → PutV x k v (e :: r) (e :: r')
section
variable {x : Str} {k : Option Addr} {v : Value} {ρ ρ' : List VE}
theorem PutV.names (p : PutV x k v ρ ρ') : ρ'.map (·.name) = ρ.map (·.name) := by
 induction p with
 | head => rfl
 | tail _ ih => rw [ag, ag, ih]
theorem PutV.cels (p : PutV x k v ρ ρ') : ρ'.filterMap (·.cel) = ρ.filterMap (·.cel) := by
 induction p with
 | head => rfl
 | tail _ ih => rw [b7, b7, ih]
theorem PutV.mem (p : PutV x k v ρ ρ') : ∃ u, (⟨x, k, u⟩ : VE) ∈ ρ := by
 induction p with
 | head => exact ⟨_, .head _⟩
 | tail _ ih => obtain ⟨u, h⟩ := ih; exact ⟨u, .tail _ h⟩
theorem PutV.split (p : PutV x k v ρ ρ') (hn : (ρ.map (·.name)).Nodup) : ∀ e ∈ ρ', e = ⟨x, k, some v⟩ ∨ (e.name ≠ x ∧ e ∈ ρ) := by
 induction p with
 | @head u r =>
   intro e he; rcases mCo he with rfl | he
   · exact .inl rfl
   exact .inr ⟨fun q => (aB.mp hn).1 (q ▸ aF (f := (·.name)) he), .tail _ he⟩
 | @tail e0 r r' p ih =>
   intro e he; rw [ag] at hn; rcases mCo he with rfl | he
   · obtain ⟨u, hu⟩ := p.mem; exact .inr ⟨fun q => (aB.mp hn).1 (q ▸ aF (f := (·.name)) hu), .head _⟩
   rcases ih (aB.mp hn).2 e he with h | h
   · exact .inl h
   exact .inr ⟨h.1, .tail _ h.2⟩
theorem qp {a : Addr} : ∀ {ρ : List VE}, (ρ.filterMap (·.cel)).Nodup → ∀ {e e' : VE}, e ∈ ρ → e' ∈ ρ → e.cel = some a → e'.cel = some a → e = e'
 | [], _, _, _, h, _, _, _ => nomatch h
 | y :: r, hn, e, e', he, he', h1, h2 => by
   have mem : ∀ {z : VE}, z ∈ r → z.cel = some a → a ∈ r.filterMap (·.cel) := fun hz hc => bQ.mpr ⟨_, hz, hc⟩; rw [b7] at hn; rcases mCo he with q | g <;> rcases mCo he' with q' | g'
   · rw [q, q']
   · subst q; rw [h1] at hn; exact absurd (mem g' h2) (aB.mp hn).1
   · subst q'; rw [h2] at hn; exact absurd (mem g h1) (aB.mp hn).1
   cases hy : y.cel with
   | none => rw [hy] at hn; exact qp hn g g' h1 h2
   | some b => rw [hy] at hn; exact qp (aB.mp hn).2 g g' h1 h2
end
noncomputable def setV (x : Str) (v : Value) (ρ : List VE) : List VE := ρ.map fun e => if e.name = x then ⟨e.name, e.cel, some v⟩ else e
theorem setV_id {x : Str} {v : Value} {ρ : List VE} (h : x ∉ ρ.map (·.name)) : setV x v ρ = ρ := by
 unfold setV; conv => rhs; rw [← eR ρ]
 refine bW fun e he => ?_; rw [if_neg (show ¬ e.name = x from fun q => h (q ▸ aF (f := (·.name)) he))]; rfl
theorem putV_set {x : Str} {k : Option Addr} {u : Option Value} {v : Value} {ρ : List VE} (hn : (ρ.map (·.name)).Nodup) (h : (⟨x, k, u⟩ : VE) ∈ ρ) : PutV x k v ρ (setV x v ρ) := by
 induction ρ with
 | nil => cases h
 | cons e r ih =>
   rw [ag, aB] at hn; show PutV x k v _ ((if e.name = x then ⟨e.name, e.cel, some v⟩ else e) :: setV x v r)
   rcases mCo h with rfl | h
   · rw [if_pos rfl, setV_id hn.1]; exact .head
   rw [if_neg (show ¬ e.name = x from fun q => hn.1 (q ▸ aF (f := (·.name)) h))]; exact .tail (ih hn.2 h)
noncomputable def Hn (x : Str) (k : Option Addr) (ρ : List VE) : Prop := ∃ u, (⟨x, k, u⟩ : VE) ∈ ρ
theorem Hn.mk {x : Str} {k : Option Addr} {u : Option Value} {ρ : List VE} (h : (⟨x, k, u⟩ : VE) ∈ ρ) : Hn x k ρ := ⟨u, h⟩
section
variable {w : World} {c : Cx} {γ : Array aE} {m : Mp} {env : Env} {own : List Addr} {ρ ρ' : List VE} {nw : Led} {s : Shared}
variable {prog : Program} {A : au} {E : VP}
theorem sJ {M : Model} {name : Str} {a : Addr} {v₀ : Option Value} {v : Value} {Q : Unit → Shared → Prop} (hk : env.scope.kind = .function) (hl : env.kindOf name = some .cell ∨ env.kindOf name = some .free)
   (hc : env.cells.lookup name = some a) (hv : s.heap.IsCell a v₀)
   (h : ∀ h', h'.IsCell a (some v) → c0 a s.heap h' → Q () { s with heap := h' }) : wpAny M A (iP env name v) Q E s := by
 rcases hl with hl | hl
 · exact wpAny_storeName_cell hk hl hc hv h
 unfold iP; simp only [hl, hk]; exact ai (wpAny_cellOf hc (wpAny_cellSet hv h))
theorem r_store {M : Model} {x : Str} {k : Option Addr} {v : Value} {Q : Unit → Shared → Prop} (B : Bd w c γ m env own ρ nw s) (hp : PutV x k v ρ ρ') (hk : ∀ a, k = some a → a ∈ own)
   (h : ∀ s', Bd w c γ m env own ρ' nw s' → Q () s') : wpAny M A (iP env x v) Q E s := by
 obtain ⟨u, hu⟩ := hp.mem; have V := B.vars; have hsp := hp.split V.names; have own_ne : ∀ b, b ∈ own → (∀ a o, m a = some o → a ≠ b) ∧ (∀ a o, c.old a = some o → a ≠ b) ∧ ∀ p ∈ nw, p.1 ≠ b := fun b hb => by
   have hm : b ∈ own ++ nw.map (·.1) := an.mpr (.inl hb); refine ⟨fun a o e => B.mem_ne e hm, fun a o e => B.old_ne e hm, fun p hp q => ?_⟩; have := B.nodup; rw [aH] at this; exact this.2.2 b hb p.1 (aF hp) q.symm
 have go : ∀ b, b ∈ own → ∀ h' t, c0 b s.heap h' → (∃ o, h'.get? b = some o) → Vars env own h' ρ' → Bd w c γ m env own ρ' nw ⟨h', s.gens, s.drawn, t, s.os⟩ := fun b hb h' t hs hbo V' => by
   refine x03 (own_ne b hb) fun n1 n2 n3 => ?_; refine ⟨fun a o e => hs.extBut a o (n2 a o e) (B.old a o e), fun a o e => hs.extBut a o (n1 a o e) (B.ok a o e), B.low, B.gr, B.ble, B.os, B.gens, B.gpre, B.bare, V', fun e he a ha => ?_, B.caps, fun a ha => ?_, fun p hp => ?_, B.nodup, B.out⟩
   · rcases hsp e he with rfl | ⟨_, h2⟩
     · exact B.cin _ hu a ha
     exact B.cin e h2 a ha
   · obtain ⟨o, ho⟩ := B.ownok a ha; by_cases q : a = b
     · subst q; exact hbo
     exact ⟨o, hs.extBut a o q ho⟩
   refine x12 (B.ledok p hp) fun o ho q => ?_; exact ⟨o, hs.extBut _ o (n3 p hp) ho, q⟩
 cases k with
 | none =>
   refine x12 V.ns fun mp hn hmp => ?_; refine cM (V.kl _ hu rfl) hn (fun h' hn' hs => h _ (go _ V.loc h' _ hs ?_ ?_)) (by rw [V.kind]; rfl)
   · refine x32 hn' fun o _ _ ho _ => ?_; exact ⟨o, ho⟩
   refine ⟨V.kind, V.glob, V.bltn, V.loc, ⟨_, hn', fun e he hc v' hv' => ?_⟩, fun e he hc => ?_, fun e he a ha => ?_, by rw [hp.names]; exact V.names, by rw [hp.cels]; exact V.cels⟩
   · rcases hsp e he with rfl | ⟨h1, h2⟩
     · cases hv'; show (if x = x then _ else _) = _; rw [if_pos rfl]
     show (if e.name = x then _ else _) = _; rw [if_neg h1]; exact hmp e h2 hc v' hv'
   · rcases hsp e he with rfl | ⟨h1, h2⟩
     · exact V.kl ⟨x, none, u⟩ hu rfl
     exact V.kl e h2 hc
   rcases hsp e he with rfl | ⟨h1, h2⟩
   · cases ha
   obtain ⟨y1, y2, y3, v', y4, y5⟩ := V.kc e h2 a ha; exact ⟨y1, y2, y3, v', y4.sameBut hs y3, y5⟩
 | some a =>
   obtain ⟨y1, y2, y3, v', y4, y5⟩ := V.kc _ hu a rfl; refine sJ V.kind y1 y2 y4 (fun h' hc' hs => h _ (go _ (hk a rfl) h' _ hs ?_ ?_))
   · refine x12 hc' fun o ho _ => ?_; exact ⟨o, ho⟩
   refine x12 V.ns fun mp hn hmp => ?_; refine ⟨V.kind, V.glob, V.bltn, V.loc, ⟨mp, hn.sameBut hs (Ne.symm y3), fun e he hc v' hv' => ?_⟩, fun e he hc => ?_, fun e he b hb => ?_, by rw [hp.names]; exact V.names, by rw [hp.cels]; exact V.cels⟩
   · rcases hsp e he with rfl | ⟨h1, h2⟩
     · cases hc
     exact hmp e h2 hc v' hv'
   · rcases hsp e he with rfl | ⟨h1, h2⟩
     · cases hc
     exact V.kl e h2 hc
   rcases hsp e he with rfl | ⟨h1, h2⟩
   · cases hb
     exact ⟨y1, y2, y3, _, hc', fun u hu => hu⟩
   obtain ⟨z1, z2, z3, v'', z4, z5⟩ := V.kc e h2 b hb; refine ⟨z1, z2, z3, v'', z4.sameBut hs fun q => ?_, z5⟩; subst q; exact h1 (congrArg VE.name (qp V.cels h2 hu hb rfl))
theorem r_var {M : Model} {x : Str} {k : Option Addr} {v : Value} {pos : Pos} {Q : VP} (B : Bd w c γ m env own ρ nw s) (hm : (⟨x, k, some v⟩ : VE) ∈ ρ) (hd : (x == ("__debug__" : Str)) = false) (hd' : (x == ("__classdict__" : Str)) = false)
   (h : Q v s) : wpAny M A (eval (.Name x pos) env) Q E s := by
 have V := B.vars; refine eb ?_ hd; cases k with
 | none =>
   refine x12 V.ns fun mp hn hmp => ?_; exact bz V.kind (V.kl _ hm rfl) hn (hmp _ hm rfl v rfl) h
 | some a =>
   obtain ⟨y1, y2, y3, v', y4, y5⟩ := V.kc _ hm a rfl; have := y5 v rfl; subst this; rcases y1 with y1 | y1
   · exact wpAny_loadName_cell V.kind y1 y2 y4 h
   exact wpAny_loadName_free V.kind y1 y2 y4 h hd'
theorem r_load {M : Model} {x : Str} {k : Option Addr} {v : Value} {Q : VP} (B : Bd w c γ m env own ρ nw s) (hm : (⟨x, k, some v⟩ : VE) ∈ ρ) (hd' : (x == ("__classdict__" : Str)) = false)
   (h : Q v s) : wpAny M A (loadName env x) Q E s := by
 have V := B.vars; cases k with
 | none =>
   refine x12 V.ns fun mp hn hmp => ?_; exact bz V.kind (V.kl _ hm rfl) hn (hmp _ hm rfl v rfl) h
 | some a =>
   obtain ⟨y1, y2, y3, v', y4, y5⟩ := V.kc _ hm a rfl; have := y5 v rfl; subst this; rcases y1 with y1 | y1
   · exact wpAny_loadName_cell V.kind y1 y2 y4 h
   exact wpAny_loadName_free V.kind y1 y2 y4 h hd'
theorem r_glob {M : Model} {x : Str} {v : Value} {pos : Pos} {Q : VP} (B : Bd w c γ m env own ρ nw s) (hx : env.kindOf x = some .globalImplicit) (e : nsIn (KH w.params) bS x = some (some v))
   (hd : (x == ("__debug__" : Str)) = false) (h : Q v s) : wpAny M A (eval (.Name x pos) env) Q E s := by
 refine x12 ((B.gr _ B.ok).g) fun mg hn hg => ?_; exact gR B.vars.kind hx (loadGlobal_global (by rw [B.vars.glob]; exact hn) (hg x _ e) h) hd
theorem r_blt {M : Model} {x : Str} {v : Value} {pos : Pos} {Q : VP} (B : Bd w c γ m env own ρ nw s) (hx : env.kindOf x = some .globalImplicit) (e : nsIn (KH w.params) bS x = some none)
   (hv : bootBuiltins x = some v) (hn' : x ≠ "__name__") (hd : (x == ("__debug__" : Str)) = false) (h : Q v s) : wpAny M A (eval (.Name x pos) env) Q E s := by
 have G := B.gr _ B.ok; refine x12 G.g fun mg hn hg => ?_; refine x12 G.b fun mb hb hbb => ?_; exact gR B.vars.kind hx (loadGlobal_builtin (by rw [B.vars.glob]; exact hn) (hg x _ e) (by rw [B.vars.bltn]; exact hb) ((hbb x hn').trans hv) h) hd
theorem r_storeO {M : Model} {x : Str} {k : Option Addr} {v : Value} {Q : Unit → Shared → Prop} (B : Bd w c γ m env own ρ nw s) (hn : Hn x k ρ) (hk : ∀ a, k = some a → a ∈ own)
   (h : ∀ ρ' s', PutV x k v ρ ρ' → Bd w c γ m env own ρ' nw s' → Q () s') : wpAny M A (iP env x v) Q E s := by
 obtain ⟨u, hu⟩ := hn; have p := putV_set (v := v) B.vars.names hu; exact r_store B p hk fun s' B => h _ s' p B
end
end
section
noncomputable abbrev PG : Program := PySem.Challenge.rw_kl0125_01.row.prog
noncomputable def Mp.of (h : Heap) (X : List Addr) : Mp := fun a => if a ∈ X then none else h.get? a
theorem Mp.of_get {h : Heap} {X : List Addr} {a : Addr} {o : Obj} (e : (Mp.of h X) a = some o) : h.get? a = some o ∧ a ∉ X := by
 unfold Mp.of at e; by_cases q : a ∈ X
 · rw [if_pos q] at e; cases e
 rw [if_neg q] at e; exact ⟨e, q⟩
theorem Mp.get_of {h : Heap} {X : List Addr} {a : Addr} {o : Obj} (e : h.get? a = some o) (q : a ∉ X) : (Mp.of h X) a = some o := by
 unfold Mp.of; rw [if_neg q]; exact e
theorem Mp.of_none {h : Heap} {X : List Addr} {a : Addr} (q : a ∈ X) : (Mp.of h X) a = none := by
 unfold Mp.of; rw [if_pos q]
structure LedOk (m : Mp) (s : Shared) (nw : Led) : Prop where
 ok : ∀ p ∈ nw, ∃ o, s.heap.get? p.1 = some o ∧ p.2 o
 out : ∀ p ∈ nw, m p.1 = none
 nodup : (nw.map (·.1)).Nodup
theorem LedOk.nil {m : Mp} {s : Shared} : LedOk m s [] := ⟨fun _ h => (nomatch h), fun _ h => (nomatch h), .nil⟩
noncomputable def initV (ns : List Str) (binds : List (Str × Value)) : List VE := ns.map fun n => ⟨n, none, binds.reverse.lookup n⟩
structure EnvOf (env : Env) (sc : Scope) (L : Addr) (cells : List (Str × Addr)) : Prop where
 scope : env.scope = sc
 locals : env.locals = L
 cells : env.cells = cells
theorem EnvOf.kind {env : Env} {sc : Scope} {L : Addr} {cells : List (Str × Addr)} (e : EnvOf env sc L cells) {x : Str} {k : Option br} (h : sc.names.lookup x = k) : env.kindOf x = k := by
 unfold Env.kindOf; rw [e.scope]; exact h
section
variable {w : World} {m : Mp} {nw : Led} {s : Shared} {A : au} {E : VP} {Q : VP}
theorem Grd.keeps {h h' : Heap} (G : Grd w h) (k : ∀ b o, h.get? b = some o → h'.get? b = some o) : Grd w h' where
 k := G.k.keeps k
 g := by obtain ⟨mg, a, b⟩ := G.g; exact ⟨mg, a.keeps k, b⟩
 b := by obtain ⟨mb, a, b⟩ := G.b; exact ⟨mb, a.keeps k, b⟩
 nolim := G.nolim.keeps k
 nodig := by obtain ⟨mc, a, b⟩ := G.nodig; exact ⟨mc, a.keeps k, b⟩
theorem enterF {d u : Nat} {f : Addr} {vals : List Value} {kw : List (Str × Value)} {oc : Value} {od : Option Addr} {osl : Array (Option Value)} {fd : gU} {body : List Stmt} {binds : List (Str × Value)} {ns : List Str} {ρ₀ : List VE}
   (R : Rm A (d + 1) (u + 3)) (b : Bef w m s) (l : LedOk m s nw)
   (ho : (KH w.params).lookup f = some ⟨oc, od, .func fd, osl⟩) (hcd : codeIn (KH w.params) fd.code fd.qualname = true) (hbody : fd.body = .stmts body)
   (hbind : iz fd ⟨vals, kw⟩ = pure binds) (hcl : fd.closure = []) (hgl : fd.globals = bS) (hbl : fd.builtins = ca) (hco : fd.scope.isCoroutine = false) (hgen : fd.scope.isGenerator = false) (hk : fd.scope.kind = .function)
   (hcell : (fd.scope.names.all fun x => x.2 != .cell) = true) (hloc : (binds.all fun x => fd.scope.names.lookup x.1 == some .local) = true) (hns : (ns.all fun n => fd.scope.names.lookup n == some .local) = true) (hnd : ns.Nodup)
   (hρ : initV ns binds = ρ₀)
   (h : ∀ (A' : au) (env : Env) (L : Addr) (c : Cx) (s' : Shared), A' = A.deeper env → env.frame = some L → EnvOf env fd.scope L [] → Rm A' d u → c = ⟨Mp.of s.heap (nw.map (·.1)), [], m, s.gens, s.os⟩ → Bd w c s.gens m env [L] ρ₀ nw s' → (∀ a o, s.heap.get? a = some o → a < L) →
     wpAny (model PG w) A' (execs body env) (fun fl s' => Q (match fl with | .ret v => v | _ => .none) s') (fun e s' => wpAny (model PG w) A' (leaving env e) (fun _ s'' => E e s'') E s') s') :
   wpAny (model PG w) A (call (.ref f) vals kw) Q E s := by
 have G := b.gr _ b.ok; refine eZ (codeAny_call_def (fd := fd) (body := body) (binds := binds) (by have := R.depth; exact a2 this) (G.k _ _ ho) rfl G.nolim (jg G.k hcd) hbody (.of_eq hbind) ?_ ?_ (fun h₁ hns₁ hk₁ => ?_) hco hgen hk)
 · intro x hx; have := aA.mp hcell x hx; intro e; rw [e] at this; exact absurd this (by decide)
 · intro x hx; have := aA.mp hloc x hx; simpa using this
 refine am (h _ (callEnv fd s.heap.objs.size f) s.heap.objs.size _ _ rfl rfl ⟨rfl, rfl, hcl⟩ R.deeper rfl ?_ fun a o e => aJ e) (fun _ _ q => q) (fun _ _ x => x); have old_get : ∀ a o, (Mp.of s.heap (nw.map (·.1))) a = some o → s.heap.get? a = some o := fun a o e => (Mp.of_get e).1; have L_fresh : s.heap.get? s.heap.objs.size = none := by
   cases e : s.heap.get? s.heap.objs.size with
   | none => rfl
   | some o => exact absurd (aJ e) (bB _)
 refine ⟨fun a o e => hk₁ a o (old_get a o e), fun a o e => hk₁ a o (b.ok a o e), fun _ _ _ => rfl, b.gr, .rfl, rfl, rfl, fun _ _ e => e, b.bare, ?_, ?_, fun _ h => (nomatch h), ?_, ?_, ?_, ?_⟩
 · subst hρ; refine ⟨hk, hgl, hbl, .head _, ⟨_, hns₁, fun e he _ v hv => ?_⟩, fun e he _ => ?_, fun e he c hc => ?_, ?_, ?_⟩
   · obtain ⟨n, hn, rfl⟩ := mMa he; exact hv
   · obtain ⟨n, hn, rfl⟩ := mMa he; have := aA.mp hns n hn; show fd.scope.names.lookup n = _
     simpa using this
   · obtain ⟨n, hn, rfl⟩ := mMa he; cases hc
   · show ((ns.map _).map _).Nodup
     rw [aT]; show (ns.map fun n => n).Nodup
     rw [cZ]; exact hnd
   show ((ns.map _).filterMap _).Nodup
   rw [c7]; have : (ns.filterMap ((fun (e : VE) => e.cel) ∘ fun n => (⟨n, none, binds.reverse.lookup n⟩ : VE))) = [] := by
     rw [dk]; intro a _; rfl
   rw [this]; exact .nil
 · subst hρ; intro e he a ha; obtain ⟨n, hn, rfl⟩ := mMa he; cases ha
 · intro a ha; rcases mSg ha with rfl
   refine x32 hns₁ fun o _ _ ho' _ => ?_; exact ⟨o, ho'⟩
 · intro p hp; refine x12 (l.ok p hp) fun o ho' q => ?_; exact ⟨o, hk₁ _ _ ho', q⟩
 · rw [aH]; refine ⟨aB.mpr ⟨by simp, .nil⟩, l.nodup, fun x hx y hy e => ?_⟩; subst e; rcases mSg hx with rfl
   refine x12 (mMa hy) fun p hp e => ?_; refine x12 (l.ok p hp) fun o ho' _ => ?_; rw [e, L_fresh] at ho'; cases ho'
 intro a ha; rcases mAp ha with ha | ha
 · rcases mSg ha with rfl
   refine ⟨?_, ?_⟩
   · cases e : m s.heap.objs.size with
     | none => rfl
     | some o => have := b.ok _ _ e; rw [L_fresh] at this; cases this
   show (Mp.of s.heap (nw.map (·.1))) s.heap.objs.size = none
   cases e : (Mp.of s.heap (nw.map (·.1))) s.heap.objs.size with
   | none => rfl
   | some o => have := old_get _ _ e; rw [L_fresh] at this; cases this
 obtain ⟨p, hp, rfl⟩ := mMa ha; exact ⟨l.out p hp, Mp.of_none (aF hp)⟩
theorem nh {d u : Nat} {f : Addr} {vals : List Value} {kw : List (Str × Value)} {oc : Value} {od : Option Addr} {osl : Array (Option Value)} {fd : gU} {body : List Stmt} {binds : List (Str × Value)} {ns : List Str} {ρ₀ : List VE}
   (R : Rm A (d + 1) (u + 3)) (b : Bef w m s) (l : LedOk m s nw)
   (ho : (KH w.params).lookup f = some ⟨oc, od, .func fd, osl⟩) (hcd : codeIn (KH w.params) fd.code fd.qualname = true) (hbody : fd.body = .stmts body)
   (hbind : iz fd ⟨vals, kw⟩ = pure binds) (hcl : fd.closure = []) (hgl : fd.globals = bS) (hbl : fd.builtins = ca) (hco : fd.scope.isCoroutine = false) (hgen : fd.scope.isGenerator = false) (hk : fd.scope.kind = .function)
   (hcell : (fd.scope.names.all fun x => x.2 != .cell) = true) (hloc : (binds.all fun x => fd.scope.names.lookup x.1 == some .local) = true) (hns : (ns.all fun n => fd.scope.names.lookup n == some .local) = true) (hnd : ns.Nodup)
   (hρ : initV ns binds = ρ₀)
   (h : ∀ (A' : au) (env : Env) (L : Addr) (c : Cx) (s' : Shared), EnvOf env fd.scope L [] → Rm A' d u → c = ⟨Mp.of s.heap (nw.map (·.1)), [], m, s.gens, s.os⟩ → Bd w c s.gens m env [L] ρ₀ nw s' → (∀ a o, s.heap.get? a = some o → a < L) →
     wpAny (model PG w) A' (execs body env) (fun fl s' => Q (match fl with | .ret v => v | _ => .none) s') (fun _ _ => False) s') :
   wpAny (model PG w) A (call (.ref f) vals kw) Q E s := by
 refine enterF R b l ho hcd hbody hbind hcl hgl hbl hco hgen hk hcell hloc hns hnd hρ fun A' env L c s' _ _ h1 h2 h3 h4 h5 => am (h A' env L c s' h1 h2 h3 h4 h5) (fun _ _ q => q) fun _ _ x => x.elim
theorem Bd.done {c : Cx} {γ : Array aE} {m' : Mp} {env : Env} {own : List Addr} {ρ : List VE} {nw' : Led} {s' : Shared} (hc : c = ⟨Mp.of s.heap (nw.map (·.1)), [], m, s.gens, s.os⟩) (l : LedOk m s nw)
   (B : Bd w c γ m' env own ρ nw' s') (hkeys : ∀ p ∈ nw, p.1 ∈ nw'.map (·.1)) : Aft (nw.map (·.1)) m s m' s' := by
 subst hc; refine ⟨B.ble, B.ok, fun a o e ha => B.old a o (Mp.get_of e ha), fun a o e => ?_, B.os, fun i x e => ?_, ?_⟩
 · by_cases ha : a ∈ nw.map (·.1)
   · obtain ⟨p, hp, rfl⟩ := mMa ha; rw [(B.out _ (an.mpr (.inr (hkeys p hp)))).1, l.out p hp]
   exact B.low a o (Mp.get_of e ha)
 · rw [B.gens]; exact B.gpre i x e
 rw [B.gens]; exact B.bare
theorem jC {l : List Addr} : ∀ p ∈ ([] : Led), p.1 ∈ l := fun _ h => nomatch h
end
end
section
section
variable {w : World} {c : Cx} {γ : Array aE} {m : Mp} {env : Env} {own : List Addr} {ρ ρ' : List VE} {nw nw' : Led} {s : Shared}
variable {A : au} {E : VP}
theorem i_add {a b : Int} {t u : Tok} {Q : VP} (B : Bd w c γ m env own ρ nw s) (h : ∀ t s', Bd w c γ m env own ρ nw s' → Q (.int (a + b) t) s') :
   wpAny (model PG w) A (dv .Add (.int a t) (.int b u)) Q E s := PyProof.Rows.add_int  (h _ _ (B.tk _ _))
theorem i_sub {a b : Int} {t u : Tok} {Q : VP} (B : Bd w c γ m env own ρ nw s) (h : ∀ t s', Bd w c γ m env own ρ nw s' → Q (.int (a - b) t) s') :
   wpAny (model PG w) A (dv .Sub (.int a t) (.int b u)) Q E s := PyProof.Rows.sub_int  (h _ _ (B.tk _ _))
theorem i_mod {a b : Int} {t u : Tok} {Q : VP} (B : Bd w c γ m env own ρ nw s) (hb : b ≠ 0) (h : ∀ t s', Bd w c γ m env own ρ nw s' → Q (.int (a.fmod b) t) s') :
   wpAny (model PG w) A (dv .Mod (.int a t) (.int b u)) Q E s := PyProof.Rows.mod_int' hb (h _ _ (B.tk _ _))
theorem i_and {a b : Int} {t u : Tok} {Q : VP} (B : Bd w c γ m env own ρ nw s) (h : ∀ t s', Bd w c γ m env own ρ nw s' → Q (.int (dR a b) t) s') :
   wpAny (model PG w) A (dv .BitAnd (.int a t) (.int b u)) Q E s := PyProof.Rows.and_int  (h _ _ (B.tk _ _))
theorem i_or {a b : Int} {t u : Tok} {Q : VP} (B : Bd w c γ m env own ρ nw s) (h : ∀ t s', Bd w c γ m env own ρ nw s' → Q (.int (gl a b) t) s') :
   wpAny (model PG w) A (dv .BitOr (.int a t) (.int b u)) Q E s := PyProof.Rows.or_int  (h _ _ (B.tk _ _))
theorem i_xor {a b : Int} {t u : Tok} {Q : VP} (B : Bd w c γ m env own ρ nw s) (h : ∀ t s', Bd w c γ m env own ρ nw s' → Q (.int (im a b) t) s') :
   wpAny (model PG w) A (dv .BitXor (.int a t) (.int b u)) Q E s := PyProof.Rows.xor_int  (h _ _ (B.tk _ _))
theorem i_shl {a b : Int} {t u : Tok} {Q : VP} (B : Bd w c γ m env own ρ nw s) (h0 : 0 ≤ b) (h1 : b ≤ 1000000) (h2 : a.natAbs < 2 ^ 64) (h : ∀ t s', Bd w c γ m env own ρ nw s' → Q (.int (a * 2 ^ b.toNat) t) s') :
   wpAny (model PG w) A (dv .LShift (.int a t) (.int b u)) Q E s := PyProof.Rows.lshift_int_small h0 h1 h2 (h _ _ (B.tk _ _))
theorem i_shr {a b : Int} {t u : Tok} {Q : VP} (B : Bd w c γ m env own ρ nw s) (h0 : 0 ≤ b) (h : ∀ t s', Bd w c γ m env own ρ nw s' → Q (.int (a.fdiv (2 ^ b.toNat)) t) s') :
   wpAny (model PG w) A (dv .RShift (.int a t) (.int b u)) Q E s := PyProof.Rows.rshift_int h0 (h _ _ (B.tk _ _))
theorem i_pow {a b : Int} {t u : Tok} {Q : VP} (B : Bd w c γ m env own ρ nw s) (h0 : 0 ≤ b) (h1 : b ≤ 1000000) (h2 : a.natAbs < 2 ^ 64) (h : ∀ t s', Bd w c γ m env own ρ nw s' → Q (.int (a ^ b.toNat) t) s') :
   wpAny (model PG w) A (dv .Pow (.int a t) (.int b u)) Q E s := PyProof.Rows.pow_int_small h0 h1 h2 (h _ _ (B.tk _ _))
theorem i_iadd {a b : Int} {t u : Tok} {Q : VP} (B : Bd w c γ m env own ρ nw s) (h : ∀ t s', Bd w c γ m env own ρ nw s' → Q (.int (a + b) t) s') :
   wpAny (model PG w) A (iR .Add (.int a t) (.int b u)) Q E s := PyProof.Rows.iadd_int  (h _ _ (B.tk _ _))
theorem i_isub {a b : Int} {t u : Tok} {Q : VP} (B : Bd w c γ m env own ρ nw s) (h : ∀ t s', Bd w c γ m env own ρ nw s' → Q (.int (a - b) t) s') :
   wpAny (model PG w) A (iR .Sub (.int a t) (.int b u)) Q E s := PyProof.Rows.isub_int  (h _ _ (B.tk _ _))
theorem i_ixor {a b : Int} {t u : Tok} {Q : VP} (B : Bd w c γ m env own ρ nw s) (h : ∀ t s', Bd w c γ m env own ρ nw s' → Q (.int (im a b) t) s') :
   wpAny (model PG w) A (iR .BitXor (.int a t) (.int b u)) Q E s := PyProof.Rows.ixor_int  (h _ _ (B.tk _ _))
theorem i_ior {a b : Int} {t u : Tok} {Q : VP} (B : Bd w c γ m env own ρ nw s) (h : ∀ t s', Bd w c γ m env own ρ nw s' → Q (.int (gl a b) t) s') :
   wpAny (model PG w) A (iR .BitOr (.int a t) (.int b u)) Q E s := PyProof.Rows.ior_int  (h _ _ (B.tk _ _))
theorem i_mul {a b : Int} {t u : Tok} {Q : VP} (B : Bd w c γ m env own ρ nw s) (hm : IntMulOk a b) (h : ∀ t s', Bd w c γ m env own ρ nw s' → Q (.int (a * b) t) s') :
   wpAny (model PG w) A (dv .Mult (.int a t) (.int b u)) Q E s := PyProof.Rows.mul_int (h _ _ (B.tk _ _)) hm
theorem i_div {a b : Int} {t u : Tok} {Q : VP} (B : Bd w c γ m env own ρ nw s) (hb : b ≠ 0) (hp : aO.divisionGoesByPylong a b = false) (h : ∀ t s', Bd w c γ m env own ρ nw s' → Q (.int (a.fdiv b) t) s') :
   wpAny (model PG w) A (dv .FloorDiv (.int a t) (.int b u)) Q E s := PyProof.Rows.floordiv_int hb (h _ _ (B.tk _ _)) (.inl hp)
theorem i_ishl {a b : Int} {t u : Tok} {Q : VP} (B : Bd w c γ m env own ρ nw s) (h0 : 0 ≤ b) (h1 : b ≤ 1000000) (h2 : a.natAbs < 2 ^ 64) (h : ∀ t s', Bd w c γ m env own ρ nw s' → Q (.int (a * 2 ^ b.toNat) t) s') :
   wpAny (model PG w) A (iR .LShift (.int a t) (.int b u)) Q E s := PyProof.Rows.ilshift_int_small h0 h1 h2 (h _ _ (B.tk _ _))
theorem k_int {i : Int} {k : Nat} {pos : Pos} {Q : VP} (B : Bd w c γ m env own ρ nw s) (h : ∀ t s', Bd w c γ m env own ρ nw s' → Q (.int i t) s') :
   wpAny (model PG w) A (eval (.Constant (.int i) k pos) env) Q E s := ib (h _ _ (B.tk _ _))
theorem k_str {x : Str} {k : Nat} {pos : Pos} {Q : VP} (B : Bd w c γ m env own ρ nw s) (h : ∀ t s', Bd w c γ m env own ρ nw s' → Q (.str x t) s') :
   wpAny (model PG w) A (eval (.Constant (.str x) k pos) env) Q E s := ed (h _ _ (B.tk _ _))
theorem lN {x y : Str} {t u : Tok} {Q : VP} (B : Bd w c γ m env own ρ nw s) (hz : x.length + y.length ≤ aS) (h : ∀ t s', Bd w c γ m env own ρ nw s' → Q (.str (x ++ y) t) s') :
   wpAny (model PG w) A (dv .Add (.str x t) (.str y u)) Q E s := ip (fun t' k => h _ _ (B.tk _ _)) hz
theorem jA {h : Heap} (o : Obj) : ∀ a ob, h.get? a = some ob → (h.push o).get? a = some ob := fun _ _ e => dH o e
theorem Bd.pushK {o : Obj} {d : Drawn} {t : Nat} (B : Bd w c γ m env own ρ nw s) (hf : o.isFreed = false) : Bd w c γ (m.put s.heap.objs.size o) env own ρ nw ⟨s.heap.push o, s.gens, d, t, s.os⟩ := by
 refine x03 B.fresh fun h1 h2 h3 => ?_; exact (B.grow (h' := s.heap.push o) (d := d) (t := t) (jA o)).addK (aG _ hf) h1 h2 h3
theorem Bd.pushL {o : Obj} {P : Obj → Prop} {d : Drawn} {t : Nat} (B : Bd w c γ m env own ρ nw s) (hf : o.isFreed = false) (hP : P o) : Bd w c γ m env own ρ ((s.heap.objs.size, P) :: nw) ⟨s.heap.push o, s.gens, d, t, s.os⟩ := by
 refine x03 B.fresh fun h1 h2 h3 => ?_; exact (B.grow (h' := s.heap.push o) (d := d) (t := t) (jA o)).addL (aG _ hf) hP h1 h2 h3
theorem Bd.freshLe (B : Bd w c γ m env own ρ nw s) (o : Obj) : m.le (m.put s.heap.objs.size o) := Mp.le_put B.fresh.1
noncomputable def jB (vs : List Value) (o : Obj) : Prop := ∃ n, o = { cls := .type "list", data := .seq vs.toArray n }
noncomputable def tJ (vs : List Value) (o : Obj) : Prop := o.cls = .type "tuple" ∧ ∃ n, o.data = .seq vs.toArray n
noncomputable def At (a : Addr) (P : Obj → Prop) (h : Heap) : Prop := ∃ o, h.get? a = some o ∧ P o
theorem At.list {a : Addr} {vs : List Value} {h : Heap} (x : At a (jB vs) h) : h.IsList a vs.toArray := by obtain ⟨o, ho, n, e⟩ := x; exact ⟨o, ho, e ▸ rfl, n, e ▸ rfl⟩
theorem At.plain {a : Addr} {vs : List Value} {h : Heap} (x : At a (jB vs) h) : ∃ n, h.get? a = some { cls := .type "list", data := .seq vs.toArray n } := by obtain ⟨o, ho, n, e⟩ := x; exact ⟨n, e ▸ ho⟩
theorem At.tup {a : Addr} {vs : List Value} {h : Heap} (x : At a (tJ vs) h) : h.IsTuple a vs.toArray := by obtain ⟨o, ho, hc, n, hd⟩ := x; exact ⟨o, ho, hc, n, hd⟩
theorem Bd.at {a : Addr} {P : Obj → Prop} (B : Bd w c γ m env own ρ nw s) (h : (a, P) ∈ nw) : At a P s.heap := B.ledok _ h
theorem Bd.kn {P : Heap → Prop} (B : Bd w c γ m env own ρ nw s) (k : Kn m P) : P s.heap := k _ B.ok
theorem n_list {vs : List Value} {Q : VP} (B : Bd w c γ m env own ρ nw s) (hz : vs.length ≤ aS)
   (h : ∀ a m' s', m.le m' → Kn m' (At a (jB vs)) → Bd w c γ m' env own ρ nw s' → Q (.ref a) s') : wpAny (model PG w) A (fh vs) Q E s :=
 g8 (h _ _ _ (B.freshLe _) (fun _ ok => ⟨_, ok _ _ Mp.put_self, _, rfl⟩) (B.pushK rfl)) hz
theorem n_listL {vs : List Value} {Q : VP} (B : Bd w c γ m env own ρ nw s) (hz : vs.length ≤ aS)
   (h : ∀ a s', Bd w c γ m env own ρ ((a, jB vs) :: nw) s' → Q (.ref a) s') : wpAny (model PG w) A (fh vs) Q E s :=
 g8 (h _ _ (B.pushL rfl ⟨_, rfl⟩)) hz
theorem n_tuple {vs : List Value} {Q : VP} (B : Bd w c γ m env own ρ nw s) (hz : vs.length ≤ aS)
   (h : ∀ a m' s', m.le m' → Kn m' (At a (tJ vs)) → Bd w c γ m' env own ρ nw s' → Q (.ref a) s') : wpAny (model PG w) A (newTuple vs) Q E s :=
 gK (h _ _ _ (B.freshLe _) (fun _ ok => ⟨_, ok _ _ Mp.put_self, rfl, _, rfl⟩) (B.pushK rfl)) hz
theorem my {l r : Addr} {vs ws : List Value} {Q : VP} (B : Bd w c γ m env own ρ nw s) (hl : At l (jB vs) s.heap) (hr : At r (jB ws) s.heap) (hz : vs.length + ws.length ≤ aS)
   (h : ∀ a m' s', m.le m' → Kn m' (At a (jB (vs ++ ws))) → Bd w c γ m' env own ρ nw s' → Q (.ref a) s') : wpAny (model PG w) A (dv .Add (.ref l) (.ref r)) Q E s := by
 obtain ⟨n, ho⟩ := hl.plain; obtain ⟨n2, ho2⟩ := hr.plain; have e : vs.toArray ++ ws.toArray = (vs ++ ws).toArray := by simp
 refine concat_meets ⟨_, ho, rfl⟩ ⟨_, ho2, rfl⟩ noFill_list_add seq_list_add PySem.F.slot_list_add PySem.F.entry_list_add (PySem.F.args_list_add_2 _ _) (list_addW l r vs.toArray ws.toArray n n2 none none #[] #[] (by simpa using hz)) ⟨ho, ho2, ?_⟩; rw [e]; exact h _ _ _ (B.freshLe _) (fun _ ok => ⟨_, ok _ _ Mp.put_self, _, rfl⟩) (B.pushK rfl)
theorem kL {l : Addr} {vs : List Value} {x : Value} {Q : VP} (B : Bd w c γ m env own ρ nw s) (u : Upd l (jB vs) (jB (vs ++ [x])) nw nw') (hz : vs.length ≤ aS)
   (h : ∀ s', Bd w c γ m env own ρ nw' s' → Q .none s') : wpAny (model PG w) A (call (.builtin "list.append") [.ref l, x]) Q E s := by
 obtain ⟨n, ho⟩ := (B.at u.mem).plain; refine append_at ho (fun h' hs hl => h _ (B.turn u (fun b o hb e => hs.extBut b o hb e) ⟨_, hl, n + 1, by simp⟩)) (by simpa using hz)
end
end
section
section
variable {w : World} {c : Cx} {γ : Array aE} {m : Mp} {env : Env} {own : List Addr} {ρ ρ' : List VE} {nw nw' : Led} {s : Shared}
variable {A : au} {E : VP}
theorem callWith_f {f : Addr} {e : Expr} {rest : List Expr} {pos : Pos} {Q : VP} {oc : Value} {od : Option Addr} {osl : Array (Option Value)} {fd : gU}
   (ho : (KH w.params).lookup f = some ⟨oc, od, .func fd, osl⟩)
   (h : wpAny (model PG w) A (eu (cV pos (bo (e :: rest) env))) (fun vs s₁ => Grd w s₁.heap ∧ wpAny (model PG w) A (call (.ref f) vs) Q E s₁) E s)
   (he : bo (e :: rest) env = (false, eval e env) :: bo rest env := by rfl) :
   wpAny (model PG w) A (ec pos (.ref f) [] (cV pos (bo (e :: rest) env)) []) Q E s :=
 callWith_def (o := ⟨oc, od, .func fd, osl⟩) rfl (am h (fun vs s₁ q => ⟨q.1.k _ _ ho, q.2⟩) fun _ _ x => x) he
theorem lb {b : Bool} {P R : Prop} (hb : b = true) (h : P) : if b = true then P else R := by rw [if_pos hb]; exact h
theorem j6 {b : Bool} {P R : Prop} (hb : b = false) (h : R) : if b = true then P else R := by rw [if_neg (by rw [hb]; decide)]; exact h
theorem ky {b : Bool} {P R : Prop} (h1 : b = true → P) (h2 : b = false → R) : if b = true then P else R := by
 cases b with
 | true => exact lb rfl (h1 rfl)
 | false => exact j6 rfl (h2 rfl)
end
section
variable {w : World} {c : Cx} {γ : Array aE} {m : Mp} {env : Env} {own : List Addr} {ρ : List VE} {nw : Led} {s : Shared} {A : au} {E : VP}
noncomputable abbrev okn (x : Str) : Prop := (x == ("__debug__" : Str)) = false ∧ (x == ("__classdict__" : Str)) = false
inductive EvI (ρ : List VE) : Expr → Int → Prop
 | name {x k a u p} (hm : (⟨x, k, some (.int a u)⟩ : VE) ∈ ρ) (hd : okn x) : EvI ρ (.Name x p) a
 | lit {a k p} : EvI ρ (.Constant (.int a) k p) a
 | add {l r p a b} (hl : EvI ρ l a) (hr : EvI ρ r b) : EvI ρ (.BinOp l .Add r p) (a + b)
 | sub {l r p a b} (hl : EvI ρ l a) (hr : EvI ρ r b) : EvI ρ (.BinOp l .Sub r p) (a - b)
inductive Ev (ρ : List VE) : Expr → (Tok → Value) → Prop
 | name {x k v p} (hm : (⟨x, k, some v⟩ : VE) ∈ ρ) (hd : okn x) : Ev ρ (.Name x p) (fun _ => v)
 | int {e a} (h : EvI ρ e a) : Ev ρ e (fun t => .int a t)
 | str {x k p} : Ev ρ (.Constant (.str x) k p) (fun t => .str x t)
 | bool {b k p} : Ev ρ (.Constant (.bool b) k p) (fun _ => .bool b)
 | none {k p} : Ev ρ (.Constant .none k p) (fun _ => .none)
theorem ev_i {e : Expr} {a : Int} (h : EvI ρ e a) : ∀ {s : Shared} {Q : VP}, Bd w c γ m env own ρ nw s → (∀ t s', Bd w c γ m env own ρ nw s' → Q (.int a t) s') → wpAny (model PG w) A (eval e env) Q E s := by
 induction h with
 | name hm hd => exact fun B k => r_var B hm hd.1 hd.2 (k _ _ B)
 | lit => exact fun B k => k_int B k
 | add _ _ i1 i2 => exact fun B k => gM (i1 B fun t s' B' => i2 B' fun u s'' B'' => i_add B'' k)
 | sub _ _ i1 i2 => exact fun B k => gM (i1 B fun t s' B' => i2 B' fun u s'' B'' => i_sub B'' k)
theorem ev {e : Expr} {f : Tok → Value} (h : Ev ρ e f) {Q : VP} (B : Bd w c γ m env own ρ nw s) (k : ∀ t s', Bd w c γ m env own ρ nw s' → Q (f t) s') : wpAny (model PG w) A (eval e env) Q E s := by
 cases h with
 | name hm hd => exact r_var B hm hd.1 hd.2 (k 0 _ B)
 | int h => exact ev_i h B k
 | str => exact k_str B k
 | bool => exact eh (k 0 _ B)
 | none => exact wpAny_Constant_none (k 0 _ B)
theorem ev_star {e : Expr} {f : Tok → Value} (h : Ev ρ e f) (rest : List Expr) : bo (e :: rest) env = (false, eval e env) :: bo rest env := by
 cases h with
 | int h => cases h <;> rfl
 | _ => rfl
theorem lw {e : Expr} {rest : List Expr} {pos : Pos} {f : Tok → Value} (h : Ev ρ e f) {Q : List Value → Shared → Prop} (B : Bd w c γ m env own ρ nw s)
   (k : ∀ t s', Bd w c γ m env own ρ nw s' → wpAny (model PG w) A (eu (cV pos (bo rest env))) (fun vs s₂ => Q (f t :: vs) s₂) E s') : wpAny (model PG w) A (eu (cV pos (bo (e :: rest) env))) Q E s :=
 bJ (ev h B k) (ev_star h rest)
section
variable {e1 e2 e3 e4 : Expr} {f1 f2 f3 f4 : Tok → Value} {pos : Pos} {Q : List Value → Shared → Prop}
theorem sp1 (B : Bd w c γ m env own ρ nw s) (h1 : Ev ρ e1 f1) (k : ∀ t1 s', Bd w c γ m env own ρ nw s' → Q [f1 t1] s') : wpAny (model PG w) A (eu (cV pos (bo [e1] env))) Q E s :=
 lw h1 B fun t1 _ B => c8 (k t1 _ B)
theorem sp2 (B : Bd w c γ m env own ρ nw s) (h1 : Ev ρ e1 f1) (h2 : Ev ρ e2 f2) (k : ∀ t1 t2 s', Bd w c γ m env own ρ nw s' → Q [f1 t1, f2 t2] s') : wpAny (model PG w) A (eu (cV pos (bo [e1, e2] env))) Q E s :=
 lw h1 B fun t1 _ B => lw h2 B fun t2 _ B => c8 (k t1 t2 _ B)
theorem sp3 (B : Bd w c γ m env own ρ nw s) (h1 : Ev ρ e1 f1) (h2 : Ev ρ e2 f2) (h3 : Ev ρ e3 f3) (k : ∀ t1 t2 t3 s', Bd w c γ m env own ρ nw s' → Q [f1 t1, f2 t2, f3 t3] s') : wpAny (model PG w) A (eu (cV pos (bo [e1, e2, e3] env))) Q E s :=
 lw h1 B fun t1 _ B => lw h2 B fun t2 _ B => lw h3 B fun t3 _ B => c8 (k t1 t2 t3 _ B)
theorem sp4 (B : Bd w c γ m env own ρ nw s) (h1 : Ev ρ e1 f1) (h2 : Ev ρ e2 f2) (h3 : Ev ρ e3 f3) (h4 : Ev ρ e4 f4) (k : ∀ t1 t2 t3 t4 s', Bd w c γ m env own ρ nw s' → Q [f1 t1, f2 t2, f3 t3, f4 t4] s') : wpAny (model PG w) A (eu (cV pos (bo [e1, e2, e3, e4] env))) Q E s :=
 lw h1 B fun t1 _ B => lw h2 B fun t2 _ B => lw h3 B fun t3 _ B => lw h4 B fun t4 _ B => c8 (k t1 t2 t3 t4 _ B)
variable {x1 x2 x3 : Str} {k1 k2 k3 : Option Addr} {v1 v2 v3 : Value} {p1 p2 p3 : Pos}
theorem na1 (B : Bd w c γ m env own ρ nw s) (h1 : (⟨x1, k1, some v1⟩ : VE) ∈ ρ) (d1 : okn x1) (k : Q [v1] s) : wpAny (model PG w) A (eu (cV pos (bo [.Name x1 p1] env))) Q E s :=
 bJ (r_var B h1 d1.1 d1.2 (c8 k)) rfl
theorem na2 (B : Bd w c γ m env own ρ nw s) (h1 : (⟨x1, k1, some v1⟩ : VE) ∈ ρ) (h2 : (⟨x2, k2, some v2⟩ : VE) ∈ ρ) (d1 : okn x1) (d2 : okn x2) (k : Q [v1, v2] s) : wpAny (model PG w) A (eu (cV pos (bo [.Name x1 p1, .Name x2 p2] env))) Q E s :=
 bJ (r_var B h1 d1.1 d1.2 (bJ (r_var B h2 d2.1 d2.2 (c8 k)) rfl)) rfl
theorem na3 (B : Bd w c γ m env own ρ nw s) (h1 : (⟨x1, k1, some v1⟩ : VE) ∈ ρ) (h2 : (⟨x2, k2, some v2⟩ : VE) ∈ ρ) (h3 : (⟨x3, k3, some v3⟩ : VE) ∈ ρ) (d1 : okn x1) (d2 : okn x2) (d3 : okn x3) (k : Q [v1, v2, v3] s) : wpAny (model PG w) A (eu (cV pos (bo [.Name x1 p1, .Name x2 p2, .Name x3 p3] env))) Q E s :=
 bJ (r_var B h1 d1.1 d1.2 (bJ (r_var B h2 d2.1 d2.2 (bJ (r_var B h3 d3.1 d3.2 (c8 k)) rfl)) rfl)) rfl
end
section
variable {l r : Expr} {f g : Tok → Value} {pos : Pos}
theorem ev_cmp {op : CmpOp} {Q : VP} (B : Bd w c γ m env own ρ nw s) (h1 : Ev ρ l f) (h2 : Ev ρ r g) (hb : behindInMarks op r = false) (k : ∀ t u s', Bd w c γ m env own ρ nw s' → wpAny (model PG w) A (fE op (f t) (g u)) Q E s') :
   wpAny (model PG w) A (eval (.Compare l [op] [r] pos) env) Q E s := wpAny_Compare1 (ev h1 B fun t _ B => ev h2 B fun u _ B => k t u _ B) hb
theorem ev_test {op : CmpOp} {whole : Sem Value} {Q : Bool → Shared → Prop} (B : Bd w c γ m env own ρ nw s) (h1 : Ev ρ l f) (h2 : Ev ρ r g) (hb : behindInMarks op r = false) (k : ∀ t u s', Bd w c γ m env own ρ nw s' → wpAny (model PG w) A (fE op (f t) (g u)) (fun v s₃ => wpAny (model PG w) A (truthy v) Q E s₃) E s') :
   wpAny (model PG w) A (PySem.isTrue (.Compare l [op] [r] pos) env whole) Q E s := wpAny_isTrue_Compare1 (ev h1 B fun t _ B => ev h2 B fun u _ B => k t u _ B) hb
theorem ev_bin {op : Operator} {Q : VP} (B : Bd w c γ m env own ρ nw s) (h1 : Ev ρ l f) (h2 : Ev ρ r g) (k : ∀ t u s', Bd w c γ m env own ρ nw s' → wpAny (model PG w) A (dv op (f t) (g u)) Q E s') :
   wpAny (model PG w) A (eval (.BinOp l op r pos) env) Q E s := gM (ev h1 B fun t _ B => ev h2 B fun u _ B => k t u _ B)
theorem ev_sub {Q : VP} (B : Bd w c γ m env own ρ nw s) (h1 : Ev ρ l f) (h2 : Ev ρ r g) (k : ∀ t u s', Bd w c γ m env own ρ nw s' → wpAny (model PG w) A (dU l r (f t) (g u)) Q E s') :
   wpAny (model PG w) A (eval (.Subscript l r pos) env) Q E s := Subscript_ (ev h1 B fun t _ B => ev h2 B fun u _ B => k t u _ B)
end
end
theorem mem0 {α : Type} {x : α} {l : List α} : x ∈ x :: l := .head _
theorem mem1 {α : Type} {a0 x : α} {l : List α} : x ∈ a0 :: x :: l := .tail _ (.head _)
theorem mem2 {α : Type} {a0 a1 x : α} {l : List α} : x ∈ a0 :: a1 :: x :: l := .tail _ (.tail _ (.head _))
theorem mem3 {α : Type} {a0 a1 a2 x : α} {l : List α} : x ∈ a0 :: a1 :: a2 :: x :: l := .tail _ (.tail _ (.tail _ (.head _)))
theorem mem4 {α : Type} {a0 a1 a2 a3 x : α} {l : List α} : x ∈ a0 :: a1 :: a2 :: a3 :: x :: l := .tail _ (.tail _ (.tail _ (.tail _ (.head _))))
theorem mem5 {α : Type} {a0 a1 a2 a3 a4 x : α} {l : List α} : x ∈ a0 :: a1 :: a2 :: a3 :: a4 :: x :: l := .tail _ (.tail _ (.tail _ (.tail _ (.tail _ (.head _)))))
theorem mem6 {α : Type} {a0 a1 a2 a3 a4 a5 x : α} {l : List α} : x ∈ a0 :: a1 :: a2 :: a3 :: a4 :: a5 :: x :: l := .tail _ (.tail _ (.tail _ (.tail _ (.tail _ (.tail _ (.head _))))))
theorem mem7 {α : Type} {a0 a1 a2 a3 a4 a5 a6 x : α} {l : List α} : x ∈ a0 :: a1 :: a2 :: a3 :: a4 :: a5 :: a6 :: x :: l := .tail _ (.tail _ (.tail _ (.tail _ (.tail _ (.tail _ (.tail _ (.head _)))))))
theorem mem8 {α : Type} {a0 a1 a2 a3 a4 a5 a6 a7 x : α} {l : List α} : x ∈ a0 :: a1 :: a2 :: a3 :: a4 :: a5 :: a6 :: a7 :: x :: l := .tail _ (.tail _ (.tail _ (.tail _ (.tail _ (.tail _ (.tail _ (.tail _ (.head _))))))))
theorem mem9 {α : Type} {a0 a1 a2 a3 a4 a5 a6 a7 a8 x : α} {l : List α} : x ∈ a0 :: a1 :: a2 :: a3 :: a4 :: a5 :: a6 :: a7 :: a8 :: x :: l := .tail _ (.tail _ (.tail _ (.tail _ (.tail _ (.tail _ (.tail _ (.tail _ (.tail _ (.head _)))))))))
theorem mem10 {α : Type} {a0 a1 a2 a3 a4 a5 a6 a7 a8 a9 x : α} {l : List α} : x ∈ a0 :: a1 :: a2 :: a3 :: a4 :: a5 :: a6 :: a7 :: a8 :: a9 :: x :: l := .tail _ (.tail _ (.tail _ (.tail _ (.tail _ (.tail _ (.tail _ (.tail _ (.tail _ (.tail _ (.head _))))))))))
theorem mem11 {α : Type} {a0 a1 a2 a3 a4 a5 a6 a7 a8 a9 a10 x : α} {l : List α} : x ∈ a0 :: a1 :: a2 :: a3 :: a4 :: a5 :: a6 :: a7 :: a8 :: a9 :: a10 :: x :: l := .tail _ (.tail _ (.tail _ (.tail _ (.tail _ (.tail _ (.tail _ (.tail _ (.tail _ (.tail _ (.tail _ (.head _)))))))))))
theorem mem12 {α : Type} {a0 a1 a2 a3 a4 a5 a6 a7 a8 a9 a10 a11 x : α} {l : List α} : x ∈ a0 :: a1 :: a2 :: a3 :: a4 :: a5 :: a6 :: a7 :: a8 :: a9 :: a10 :: a11 :: x :: l := .tail _ (.tail _ (.tail _ (.tail _ (.tail _ (.tail _ (.tail _ (.tail _ (.tail _ (.tail _ (.tail _ (.tail _ (.head _))))))))))))
theorem mem13 {α : Type} {a0 a1 a2 a3 a4 a5 a6 a7 a8 a9 a10 a11 a12 x : α} {l : List α} : x ∈ a0 :: a1 :: a2 :: a3 :: a4 :: a5 :: a6 :: a7 :: a8 :: a9 :: a10 :: a11 :: a12 :: x :: l := .tail _ (.tail _ (.tail _ (.tail _ (.tail _ (.tail _ (.tail _ (.tail _ (.tail _ (.tail _ (.tail _ (.tail _ (.tail _ (.head _)))))))))))))
theorem mem14 {α : Type} {a0 a1 a2 a3 a4 a5 a6 a7 a8 a9 a10 a11 a12 a13 x : α} {l : List α} : x ∈ a0 :: a1 :: a2 :: a3 :: a4 :: a5 :: a6 :: a7 :: a8 :: a9 :: a10 :: a11 :: a12 :: a13 :: x :: l := .tail _ (.tail _ (.tail _ (.tail _ (.tail _ (.tail _ (.tail _ (.tail _ (.tail _ (.tail _ (.tail _ (.tail _ (.tail _ (.tail _ (.head _))))))))))))))
theorem mem15 {α : Type} {a0 a1 a2 a3 a4 a5 a6 a7 a8 a9 a10 a11 a12 a13 a14 x : α} {l : List α} : x ∈ a0 :: a1 :: a2 :: a3 :: a4 :: a5 :: a6 :: a7 :: a8 :: a9 :: a10 :: a11 :: a12 :: a13 :: a14 :: x :: l := .tail _ (.tail _ (.tail _ (.tail _ (.tail _ (.tail _ (.tail _ (.tail _ (.tail _ (.tail _ (.tail _ (.tail _ (.tail _ (.tail _ (.tail _ (.head _)))))))))))))))
theorem mem16 {α : Type} {a0 a1 a2 a3 a4 a5 a6 a7 a8 a9 a10 a11 a12 a13 a14 a15 x : α} {l : List α} : x ∈ a0 :: a1 :: a2 :: a3 :: a4 :: a5 :: a6 :: a7 :: a8 :: a9 :: a10 :: a11 :: a12 :: a13 :: a14 :: a15 :: x :: l := .tail _ (.tail _ (.tail _ (.tail _ (.tail _ (.tail _ (.tail _ (.tail _ (.tail _ (.tail _ (.tail _ (.tail _ (.tail _ (.tail _ (.tail _ (.tail _ (.head _))))))))))))))))
theorem mem17 {α : Type} {a0 a1 a2 a3 a4 a5 a6 a7 a8 a9 a10 a11 a12 a13 a14 a15 a16 x : α} {l : List α} : x ∈ a0 :: a1 :: a2 :: a3 :: a4 :: a5 :: a6 :: a7 :: a8 :: a9 :: a10 :: a11 :: a12 :: a13 :: a14 :: a15 :: a16 :: x :: l := .tail _ (.tail _ (.tail _ (.tail _ (.tail _ (.tail _ (.tail _ (.tail _ (.tail _ (.tail _ (.tail _ (.tail _ (.tail _ (.tail _ (.tail _ (.tail _ (.tail _ (.head _)))))))))))))))))
theorem mem18 {α : Type} {a0 a1 a2 a3 a4 a5 a6 a7 a8 a9 a10 a11 a12 a13 a14 a15 a16 a17 x : α} {l : List α} : x ∈ a0 :: a1 :: a2 :: a3 :: a4 :: a5 :: a6 :: a7 :: a8 :: a9 :: a10 :: a11 :: a12 :: a13 :: a14 :: a15 :: a16 :: a17 :: x :: l := .tail _ (.tail _ (.tail _ (.tail _ (.tail _ (.tail _ (.tail _ (.tail _ (.tail _ (.tail _ (.tail _ (.tail _ (.tail _ (.tail _ (.tail _ (.tail _ (.tail _ (.tail _ (.head _))))))))))))))))))
theorem mem19 {α : Type} {a0 a1 a2 a3 a4 a5 a6 a7 a8 a9 a10 a11 a12 a13 a14 a15 a16 a17 a18 x : α} {l : List α} : x ∈ a0 :: a1 :: a2 :: a3 :: a4 :: a5 :: a6 :: a7 :: a8 :: a9 :: a10 :: a11 :: a12 :: a13 :: a14 :: a15 :: a16 :: a17 :: a18 :: x :: l := .tail _ (.tail _ (.tail _ (.tail _ (.tail _ (.tail _ (.tail _ (.tail _ (.tail _ (.tail _ (.tail _ (.tail _ (.tail _ (.tail _ (.tail _ (.tail _ (.tail _ (.tail _ (.tail _ (.head _)))))))))))))))))))
theorem mem20 {α : Type} {a0 a1 a2 a3 a4 a5 a6 a7 a8 a9 a10 a11 a12 a13 a14 a15 a16 a17 a18 a19 x : α} {l : List α} : x ∈ a0 :: a1 :: a2 :: a3 :: a4 :: a5 :: a6 :: a7 :: a8 :: a9 :: a10 :: a11 :: a12 :: a13 :: a14 :: a15 :: a16 :: a17 :: a18 :: a19 :: x :: l := .tail _ (.tail _ (.tail _ (.tail _ (.tail _ (.tail _ (.tail _ (.tail _ (.tail _ (.tail _ (.tail _ (.tail _ (.tail _ (.tail _ (.tail _ (.tail _ (.tail _ (.tail _ (.tail _ (.tail _ (.head _))))))))))))))))))))
theorem mem21 {α : Type} {a0 a1 a2 a3 a4 a5 a6 a7 a8 a9 a10 a11 a12 a13 a14 a15 a16 a17 a18 a19 a20 x : α} {l : List α} : x ∈ a0 :: a1 :: a2 :: a3 :: a4 :: a5 :: a6 :: a7 :: a8 :: a9 :: a10 :: a11 :: a12 :: a13 :: a14 :: a15 :: a16 :: a17 :: a18 :: a19 :: a20 :: x :: l := .tail _ (.tail _ (.tail _ (.tail _ (.tail _ (.tail _ (.tail _ (.tail _ (.tail _ (.tail _ (.tail _ (.tail _ (.tail _ (.tail _ (.tail _ (.tail _ (.tail _ (.tail _ (.tail _ (.tail _ (.tail _ (.head _)))))))))))))))))))))
theorem mem22 {α : Type} {a0 a1 a2 a3 a4 a5 a6 a7 a8 a9 a10 a11 a12 a13 a14 a15 a16 a17 a18 a19 a20 a21 x : α} {l : List α} : x ∈ a0 :: a1 :: a2 :: a3 :: a4 :: a5 :: a6 :: a7 :: a8 :: a9 :: a10 :: a11 :: a12 :: a13 :: a14 :: a15 :: a16 :: a17 :: a18 :: a19 :: a20 :: a21 :: x :: l := .tail _ (.tail _ (.tail _ (.tail _ (.tail _ (.tail _ (.tail _ (.tail _ (.tail _ (.tail _ (.tail _ (.tail _ (.tail _ (.tail _ (.tail _ (.tail _ (.tail _ (.tail _ (.tail _ (.tail _ (.tail _ (.tail _ (.head _))))))))))))))))))))))
theorem mem23 {α : Type} {a0 a1 a2 a3 a4 a5 a6 a7 a8 a9 a10 a11 a12 a13 a14 a15 a16 a17 a18 a19 a20 a21 a22 x : α} {l : List α} : x ∈ a0 :: a1 :: a2 :: a3 :: a4 :: a5 :: a6 :: a7 :: a8 :: a9 :: a10 :: a11 :: a12 :: a13 :: a14 :: a15 :: a16 :: a17 :: a18 :: a19 :: a20 :: a21 :: a22 :: x :: l := .tail _ (.tail _ (.tail _ (.tail _ (.tail _ (.tail _ (.tail _ (.tail _ (.tail _ (.tail _ (.tail _ (.tail _ (.tail _ (.tail _ (.tail _ (.tail _ (.tail _ (.tail _ (.tail _ (.tail _ (.tail _ (.tail _ (.tail _ (.head _)))))))))))))))))))))))
theorem mem24 {α : Type} {a0 a1 a2 a3 a4 a5 a6 a7 a8 a9 a10 a11 a12 a13 a14 a15 a16 a17 a18 a19 a20 a21 a22 a23 x : α} {l : List α} : x ∈ a0 :: a1 :: a2 :: a3 :: a4 :: a5 :: a6 :: a7 :: a8 :: a9 :: a10 :: a11 :: a12 :: a13 :: a14 :: a15 :: a16 :: a17 :: a18 :: a19 :: a20 :: a21 :: a22 :: a23 :: x :: l := .tail _ (.tail _ (.tail _ (.tail _ (.tail _ (.tail _ (.tail _ (.tail _ (.tail _ (.tail _ (.tail _ (.tail _ (.tail _ (.tail _ (.tail _ (.tail _ (.tail _ (.tail _ (.tail _ (.tail _ (.tail _ (.tail _ (.tail _ (.tail _ (.head _))))))))))))))))))))))))
theorem put0 {x : Str} {k : Option Addr} {u : Option Value} {v : Value} {r : List VE} : PutV x k v (⟨x, k, u⟩ :: r) (⟨x, k, some v⟩ :: r) := .head
theorem put1 {x : Str} {k : Option Addr} {u : Option Value} {v : Value} {a0 : VE} {r : List VE} : PutV x k v (a0 :: ⟨x, k, u⟩ :: r) (a0 :: ⟨x, k, some v⟩ :: r) := .tail (.head)
theorem put2 {x : Str} {k : Option Addr} {u : Option Value} {v : Value} {a0 a1 : VE} {r : List VE} : PutV x k v (a0 :: a1 :: ⟨x, k, u⟩ :: r) (a0 :: a1 :: ⟨x, k, some v⟩ :: r) := .tail (.tail (.head))
theorem put3 {x : Str} {k : Option Addr} {u : Option Value} {v : Value} {a0 a1 a2 : VE} {r : List VE} : PutV x k v (a0 :: a1 :: a2 :: ⟨x, k, u⟩ :: r) (a0 :: a1 :: a2 :: ⟨x, k, some v⟩ :: r) := .tail (.tail (.tail (.head)))
theorem put4 {x : Str} {k : Option Addr} {u : Option Value} {v : Value} {a0 a1 a2 a3 : VE} {r : List VE} : PutV x k v (a0 :: a1 :: a2 :: a3 :: ⟨x, k, u⟩ :: r) (a0 :: a1 :: a2 :: a3 :: ⟨x, k, some v⟩ :: r) := .tail (.tail (.tail (.tail (.head))))
theorem put5 {x : Str} {k : Option Addr} {u : Option Value} {v : Value} {a0 a1 a2 a3 a4 : VE} {r : List VE} : PutV x k v (a0 :: a1 :: a2 :: a3 :: a4 :: ⟨x, k, u⟩ :: r) (a0 :: a1 :: a2 :: a3 :: a4 :: ⟨x, k, some v⟩ :: r) := .tail (.tail (.tail (.tail (.tail (.head)))))
theorem put6 {x : Str} {k : Option Addr} {u : Option Value} {v : Value} {a0 a1 a2 a3 a4 a5 : VE} {r : List VE} : PutV x k v (a0 :: a1 :: a2 :: a3 :: a4 :: a5 :: ⟨x, k, u⟩ :: r) (a0 :: a1 :: a2 :: a3 :: a4 :: a5 :: ⟨x, k, some v⟩ :: r) := .tail (.tail (.tail (.tail (.tail (.tail (.head))))))
theorem put7 {x : Str} {k : Option Addr} {u : Option Value} {v : Value} {a0 a1 a2 a3 a4 a5 a6 : VE} {r : List VE} : PutV x k v (a0 :: a1 :: a2 :: a3 :: a4 :: a5 :: a6 :: ⟨x, k, u⟩ :: r) (a0 :: a1 :: a2 :: a3 :: a4 :: a5 :: a6 :: ⟨x, k, some v⟩ :: r) := .tail (.tail (.tail (.tail (.tail (.tail (.tail (.head)))))))
theorem put8 {x : Str} {k : Option Addr} {u : Option Value} {v : Value} {a0 a1 a2 a3 a4 a5 a6 a7 : VE} {r : List VE} : PutV x k v (a0 :: a1 :: a2 :: a3 :: a4 :: a5 :: a6 :: a7 :: ⟨x, k, u⟩ :: r) (a0 :: a1 :: a2 :: a3 :: a4 :: a5 :: a6 :: a7 :: ⟨x, k, some v⟩ :: r) := .tail (.tail (.tail (.tail (.tail (.tail (.tail (.tail (.head))))))))
theorem put9 {x : Str} {k : Option Addr} {u : Option Value} {v : Value} {a0 a1 a2 a3 a4 a5 a6 a7 a8 : VE} {r : List VE} : PutV x k v (a0 :: a1 :: a2 :: a3 :: a4 :: a5 :: a6 :: a7 :: a8 :: ⟨x, k, u⟩ :: r) (a0 :: a1 :: a2 :: a3 :: a4 :: a5 :: a6 :: a7 :: a8 :: ⟨x, k, some v⟩ :: r) := .tail (.tail (.tail (.tail (.tail (.tail (.tail (.tail (.tail (.head)))))))))
theorem nocel {own : List Addr} : ∀ a, (none : Option Addr) = some a → a ∈ own := fun _ h => nomatch h
theorem somecel {own : List Addr} {b : Addr} (h : b ∈ own) : ∀ a, some b = some a → a ∈ own := fun a e => by cases e; exact h
theorem ce_nil {P : VE → Prop} : ∀ e ∈ ([] : List VE), P e := fun _ h => nomatch h
theorem ce_cons {n : Str} {a : Addr} {v : Option Value} {l ρ : List VE} (hm : (⟨n, some a, v⟩ : VE) ∈ ρ) (h : ∀ e ∈ l, e ∈ ρ ∧ ∃ a, e.cel = some a) : ∀ e ∈ ((⟨n, some a, v⟩ : VE) :: l), e ∈ ρ ∧ ∃ a, e.cel = some a := fun e he => by
 rcases mCo he with rfl | he
 · exact ⟨hm, a, rfl⟩
 exact h e he
theorem execs_cut {M : Model} {A : au} {E : VP} {s : Shared} {env : Env} {st : Stmt} {rest : List Stmt} {Q : Flow → Shared → Prop}
   (h : ∀ Q1 : Flow → Shared → Prop, (∀ f s', (match f with | .next => wpAny M A (execs rest env) Q E s' | f => Q f s') → Q1 f s') → wpAny M A (exec st env) Q1 E s) : wpAny M A (execs (st :: rest) env) Q E s :=
 iN (h _ fun f s' x => x)
set_option hygiene false in
local macro_rules | `(tactic| walk_at "mem") => `(tactic| (repeat (first | exact List.Mem.head _ | refine List.Mem.tail _ ?_)))
set_option hygiene false in
local macro_rules | `(tactic| walk_at "st") => `(tactic| first
 | with_reducible refine iN ?_
 | with_reducible refine gM ?_
 | with_reducible refine wpAny_Return_some ?_)
end
section
noncomputable abbrev NoE : VP := fun _ _ => False
structure Ch (wr : List Addr) (gw : Nat → Prop) (s s' : Shared) : Prop where
 keep : ∀ b o, b ∉ wr → s.heap.get? b = some o → s'.heap.get? b = some o
 gens : ∀ (j : Nat) (x : aE), ¬ gw j → s.gens[j]? = some x → s'.gens[j]? = some x
 os : s'.os = s.os
 bare : gY s.gens → gY s'.gens
theorem Ch.heap {wr : List Addr} {gw : Nat → Prop} {s : Shared} {h' : Heap} {d : Drawn} {t : Nat} (k : ∀ b o, b ∉ wr → s.heap.get? b = some o → h'.get? b = some o) : Ch wr gw s ⟨h', s.gens, d, t, s.os⟩ :=
 ⟨k, fun _ _ _ e => e, rfl, id⟩
structure Itr (w : World) (A : au) (target : Expr) (I : Addr) (fp : List Addr) (gw : Nat → Prop) (n : Nat) (V : VH) (St : List Addr → Nat → Shared → Prop) : Prop where
 frame : ∀ wr i s s', St wr i s → (∀ b ∈ fp, ∀ o, s.heap.get? b = some o → s'.heap.get? b = some o) → (∀ b ∈ wr, ∀ o, s.heap.get? b = some o → s'.heap.get? b = some o) → (∀ (j : Nat) (x : aE), gw j → s.gens[j]? = some x → s'.gens[j]? = some x) → St wr i s'
 live : ∀ wr i s, St wr i s → ∀ b ∈ wr, ∃ o, s.heap.get? b = some o
 item : ∀ wr i s (Q : VP), i < n → St wr i s → (∀ v s' wr', St wr' (i + 1) s' → (∀ b ∈ wr', b ∈ wr ∨ s.heap.get? b = none) → V i v s'.heap → Ch wr gw s s' → Q v s') →
   wpAny (model PG w) A (ic (.ref I)) (fun r s₁ => match r with | none => False | some v => wpAny (model PG w) A (cG target (.ref I) v) (fun _ s₂ => Q v s₂) NoE s₁) NoE s
 done : ∀ wr s (Q : Shared → Prop), St wr n s → (∀ s', Ch wr gw s s' → Q s') → wpAny (model PG w) A (ic (.ref I)) (fun r s₁ => match r with | none => Q s₁ | some _ => False) NoE s
 self : ∀ wr i s (Q : VP), St wr i s → Q (.ref I) s → wpAny (model PG w) A (cC (.ref I)) Q NoE s
noncomputable def Cx.guard (c : Cx) (wr : List Addr) (h : Heap) (γ : Array aE) : Cx := { c with old := fun a => if a ∈ wr then h.get? a else c.old a, G := γ }
structure Priv (wr : List Addr) (c : Cx) (m : Mp) (own : List Addr) (nw : Led) : Prop where
 m : ∀ b ∈ wr, m b = none
 own : ∀ b ∈ wr, b ∉ own ++ nw.map (·.1)
 old : ∀ b ∈ wr, c.old b = none
section
variable {w : World} {c : Cx} {γ : Array aE} {m : Mp} {env : Env} {own : List Addr} {ρ ρ' : List VE} {nw nw' : Led} {s s' : Shared} {wr : List Addr} {gw : Nat → Prop}
theorem Bd.ch (B : Bd w c γ m env own ρ nw s) (k : Ch wr gw s s') (p : Priv wr c m own nw) (hg : ∀ j, gw j → c.G[j]? = none) : Bd w c s'.gens m env own ρ nw s' where
 old := fun a o e => k.keep a o (fun h => by rw [p.old a h] at e; cases e) (B.old a o e)
 ok := fun a o e => k.keep a o (fun h => by rw [p.m a h] at e; cases e) (B.ok a o e)
 low := B.low
 gr := B.gr
 ble := B.ble
 os := k.os.trans B.os
 gens := rfl
 gpre := fun i x e => k.gens i x (fun h => by rw [hg i h] at e; cases e) (B.gens ▸ B.gpre i x e)
 bare := k.bare (B.gens ▸ B.bare)
 vars := B.vars.keep fun a o ha e => k.keep a o (fun h => by
   rcases ha with rfl | ⟨x, hx, hc⟩
   · exact p.own _ h (an.mpr (.inl B.vars.loc))
   rcases B.cin x hx a hc with q | q
   · exact p.own _ h (an.mpr (.inl q))
   obtain ⟨ob, q⟩ := B.caps a q; rw [p.old a h] at q; cases q) e
 cin := B.cin
 caps := B.caps
 ownok := fun a ha => by obtain ⟨o, ho⟩ := B.ownok a ha; exact ⟨o, k.keep a o (fun h => p.own _ h (an.mpr (.inl ha))) ho⟩
 ledok := fun q hq => by obtain ⟨o, ho, r⟩ := B.ledok q hq; exact ⟨o, k.keep _ o (fun h => p.own _ h (an.mpr (.inr (aF hq)))) ho, r⟩
 nodup := B.nodup
 out := B.out
theorem Bd.privNew {wr' : List Addr} (B : Bd w c γ m env own ρ nw s) (p : Priv wr c m own nw) (h : ∀ b ∈ wr', b ∈ wr ∨ s.heap.get? b = none) : Priv wr' c m own nw := by
 refine ⟨fun b hb => ?_, fun b hb hm => ?_, fun b hb => ?_⟩
 · rcases h b hb with q | q
   · exact p.m b q
   cases e : m b with
   | none => rfl
   | some o => have := B.ok _ _ e; rw [q] at this; cases this
 · rcases h b hb with q | q
   · exact p.own b q hm
   rcases mAp hm with hm | hm
   · obtain ⟨o, ho⟩ := B.ownok b hm; rw [q] at ho; cases ho
   obtain ⟨x, hx, rfl⟩ := mMa hm; refine x12 (B.ledok x hx) fun o ho _ => ?_; rw [q] at ho; cases ho
 rcases h b hb with q | q
 · exact p.old b q
 cases e : c.old b with
 | none => rfl
 | some o => have := B.old _ _ e; rw [q] at this; cases this
theorem Bd.guard (B : Bd w c γ m env own ρ nw s) (p : Priv wr c m own nw) : Bd w (c.guard wr s.heap γ) γ m env own ρ nw s where
 old := fun a o e => by
   simp only [Cx.guard] at e; by_cases h : a ∈ wr
   · rw [if_pos h] at e; exact e
   rw [if_neg h] at e; exact B.old a o e
 ok := B.ok
 low := fun a o e => by
   simp only [Cx.guard] at e; by_cases h : a ∈ wr
   · show m a = c.base a
     rw [p.m a h]; cases q : c.base a with
     | none => rfl
     | some ob => have := B.ble a ob q; rw [p.m a h] at this; cases this
   rw [if_neg h] at e; exact B.low a o e
 gr := B.gr
 ble := B.ble
 os := B.os
 gens := B.gens
 gpre := fun _ _ e => e
 bare := B.bare
 vars := B.vars
 cin := B.cin
 caps := fun a ha => by
   simp only [Cx.guard]; obtain ⟨o, ho⟩ := B.caps a ha; by_cases h : a ∈ wr
   · rw [p.old a h] at ho; cases ho
   rw [if_neg h]; exact ⟨o, ho⟩
 ownok := B.ownok
 ledok := B.ledok
 nodup := B.nodup
 out := fun a ha => ⟨(B.out a ha).1, by
   simp only [Cx.guard]; rw [if_neg (fun h => p.own a h ha)]; exact (B.out a ha).2⟩
theorem Bd.unguard {h₀ : Heap} {γ₀ : Array aE} {s₀ : Shared} {m₀ : Mp} {env₀ : Env} {own₀ : List Addr} {ρ₀ : List VE} {nw₀ : Led} (B₀ : Bd w c γ₀ m₀ env₀ own₀ ρ₀ nw₀ s₀) (p : ∀ b ∈ wr, c.old b = none) (B : Bd w (c.guard wr h₀ γ₀) γ m env own ρ nw s) : Bd w c γ m env own ρ nw s := by
 have up : ∀ a o, c.old a = some o → (c.guard wr h₀ γ₀).old a = some o := fun a o e => by
   simp only [Cx.guard]; rw [if_neg (fun h => by rw [p a h] at e; cases e)]; exact e
 refine ⟨fun a o e => B.old a o (up a o e), B.ok, fun a o e => B.low a o (up a o e), B.gr, B.ble, B.os, B.gens, fun i x e => B.gpre i x (B₀.gpre i x e), B.bare, B.vars, B.cin, B₀.caps, B.ownok, B.ledok, B.nodup, fun a ha => ⟨(B.out a ha).1, ?_⟩⟩; cases e : c.old a with
 | none => rfl
 | some o => have := (B.out a ha).2; rw [up a o e] at this; cases this
theorem Bd.priv {h₀ : Heap} {γ₀ : Array aE} {s₀ : Shared} {m₀ : Mp} {env₀ : Env} {own₀ : List Addr} {ρ₀ : List VE} {nw₀ : Led} (B₀ : Bd w c γ₀ m₀ env₀ own₀ ρ₀ nw₀ s₀) (p : Priv wr c m₀ own₀ nw₀) (l : ∀ b ∈ wr, ∃ o, h₀.get? b = some o) (B : Bd w (c.guard wr h₀ γ₀) γ m env own ρ nw s) :
   Priv wr c m own nw ∧ ∀ b ∈ wr, ∀ o, h₀.get? b = some o → s.heap.get? b = some o := by
 have at' : ∀ b ∈ wr, ∀ o, h₀.get? b = some o → (c.guard wr h₀ γ₀).old b = some o := fun b hb o e => by
   simp only [Cx.guard]; rw [if_pos hb]; exact e
 refine ⟨⟨fun b hb => ?_, fun b hb h => ?_, p.old⟩, fun b hb o e => B.old b o (at' b hb o e)⟩
 · obtain ⟨o, ho⟩ := l b hb; have h1 : m b = c.base b := B.low b o (at' b hb o ho); rw [h1]; cases q : c.base b with
   | none => rfl
   | some ob => have := B₀.ble b ob q; rw [p.m b hb] at this; cases this
 obtain ⟨o, ho⟩ := l b hb; have := (B.out b h).2; rw [at' b hb o ho] at this; cases this
end
end
section
theorem oz {M : Model} {Γ : PySem.Ctx} {p : Pos} {t : Sem Fin} {fs : List Frame} {s : Shared} {e : End} {s' : Shared} (h : Runs M Γ p t fs s e s') : s.toks ≤ s'.toks := by
 induction h <;> first
   | exact ap _
   | assumption
   | (rename_i ih; exact ad (eT _) ih)
   | (rename_i ih1 ih2; exact ad ih1 ih2)
   | (rename_i ih1 _ ih2; exact ad ih1 ih2)
theorem sF {M : Model} {Γ : PySem.Ctx} {p : Pos} {g : Nat} {r : Resume} {s : Shared} {res : GenResult} {s' : Shared} (h : Wakes M Γ p g r s res s') : s.toks ≤ s'.toks := by
 unfold Wakes at h; split at h
 · exact h.elim
 · split at h
   · obtain ⟨e₁, s₁, h1, _, _, rfl⟩ := h; have := oz h1; exact this
   · obtain ⟨_, rfl⟩ := h; exact ap _
   obtain ⟨_, rfl⟩ := h; exact ap _
 · obtain ⟨e₁, s₁, h1, _, _, rfl⟩ := h; have := oz h1; exact this
 · obtain ⟨_, rfl⟩ := h; exact ap _
 obtain ⟨_, rfl⟩ := h; exact ap _
theorem wp_toks {α : Type} {M : Model} {Γ : PySem.Ctx} {k : Nat} : ∀ (t : Sem α) {Q : α → Pos → Shared → Prop} {E : Value → Pos → Shared → Prop} {p : Pos} {s : Shared}, k ≤ s.toks →
   cJ M Γ t (fun a p' s' => k ≤ s'.toks → Q a p' s') (fun e p' s' => k ≤ s'.toks → E e p' s') p s → cJ M Γ t Q E p s := by
 intro t; induction t with
 | pure a => intro Q E p s hk h; rw [cJ] at h ⊢; exact h hk
 | raise e => intro Q E p s hk h; rw [cJ] at h ⊢; exact h hk
 | «unsupported» w => intro Q E p s hk h; rw [cJ] at h; exact h.elim
 | finish e => intro Q E p s hk h; rw [cJ] at h; exact h.elim
 | rule tag k ih => intro Q E p s hk h; rw [cJ] at h ⊢; exact ih _ hk h
 | «at» p' k ih => intro Q E p s hk h; rw [cJ] at h ⊢; exact ih _ hk h
 | load a part k ih => intro Q E p s hk h; rw [cJ] at h ⊢; refine x12 h fun o ho h => ?_; exact ⟨o, ho, ih _ hk h⟩
 | update a part f k ih => intro Q E p s hk h; rw [cJ] at h ⊢; exact ⟨h.1, ih _ hk h.2⟩
 | loadIfAlive a k ih => intro Q E p s hk h; rw [cJ] at h ⊢; exact ih _ hk h
 | point l k ih => intro Q E p s hk h; rw [cJ] at h ⊢; exact ih _ hk h
 | register a k ih => intro Q E p s hk h; rw [cJ] at h; exact h.elim
 | alloc o k ih => intro Q E p s hk h; rw [cJ] at h ⊢; exact ih _ hk h
 | fresh k ih => intro Q E p s hk h; rw [cJ] at h ⊢; exact ih _ (bL hk) h
 | ask k ih => intro Q E p s hk h; rw [cJ] at h ⊢; exact ih _ hk h
 | choose src n k ih => intro Q E p s hk h; rw [cJ] at h ⊢; exact ⟨h.1, ih _ hk h.2⟩
 | os q l k ih => intro Q E p s hk h; rw [cJ] at h ⊢; exact ih _ hk h
 | call c hd g l k ih =>
   intro Q E p s hk h; rw [cJ] at h ⊢; refine x22 h fun r s' h1 h2 => ?_; exact ⟨r, s', h1, ih _ (ad hk (oz h1)) h2⟩
 | handled own k ih => intro Q E p s hk h; rw [cJ] at h ⊢; exact ih _ hk h
 | genState g k ih => intro Q E p s hk h; rw [cJ] at h ⊢; refine x12 h fun o ho h => ?_; exact ⟨o, ho, ih _ hk h⟩
 | newGen c k ih => intro Q E p s hk h; rw [cJ] at h ⊢; exact ih _ hk h
 | resume g r l k ih =>
   intro Q E p s hk h; rw [cJ] at h ⊢; refine x22 h fun r s' h1 h2 => ?_; exact ⟨r, s', h1, ih _ (ad hk (sF h1)) h2⟩
 | yield v g l k ih => intro Q E p s hk h; rw [cJ] at h; exact h.elim
 | stack k ih => intro Q E p s hk h; rw [cJ] at h ⊢; exact ih _ hk h
 | fork c k ih => intro Q E p s hk h; rw [cJ] at h; exact h.elim
 | thread k ih => intro Q E p s hk h; rw [cJ] at h ⊢; exact ih _ hk h
 | await a f d l k ih => intro Q E p s hk h; rw [cJ] at h; exact h.elim
theorem ks {α : Type} {M : Model} {A : au} {t : Sem α} {k : Nat} {Q : α → Shared → Prop} {E : VP} {s : Shared} (hk : k ≤ s.toks) (h : wpAny M A t (fun a s' => k ≤ s'.toks → Q a s') (fun e s' => k ≤ s'.toks → E e s') s) : wpAny M A t Q E s :=
 fun Γ p hΓ => wp_toks t hk (h Γ p hΓ)
end
section
noncomputable abbrev kz (ifs : List Expr) (env : Env) : Sem Bool := forIn ifs true fun c r => if r = true then do let ok ← isTrue c env (eval c env); pure (d7 ok) else pure (d7 r)
theorem noE {α : Type} {A : au} {E : VP} {s : Shared} {t : Sem α} {Q' : α → Shared → Prop} {M : Model} (h : wpAny M A t Q' NoE s) : wpAny M A t Q' E s := am h (fun _ _ q => q) fun _ _ x => x.elim
noncomputable def TurnD (elt target iter : Expr) (ifs : List Expr) (gens : List em) (d : Nat) (scope : Scope) (pos : Pos) (it acc : Value) (env : Env) : Prop :=
   compTurn (.ListComp elt gens scope pos) d it acc env = (do
     fM iter.pos
     match ← ic it with
     | none => pure (.done .next)
     | some v =>
       cG target it v
       bM target env v
       let mut ok := true
       for c in ifs do
         if ok then ok ← isTrue c env (eval c env)
       if ok then
         (do let _ ← call (.builtin "list.append") [acc, ← eval elt env])
       again (.compLoop (.ListComp elt gens scope pos) d it acc env))
theorem TurnD.one {elt target iter : Expr} {ifs : List Expr} {scope : Scope} {pos : Pos} {it acc : Value} {env : Env} : TurnD elt target iter ifs [⟨target, iter, ifs, 0⟩] 0 scope pos it acc env := rfl
theorem TurnD.two {elt t1 i1 target iter : Expr} {ifs : List Expr} {scope : Scope} {pos : Pos} {it acc : Value} {env : Env} : TurnD elt target iter ifs [⟨t1, i1, [], 0⟩, ⟨target, iter, ifs, 0⟩] 1 scope pos it acc env := rfl
theorem tB {w : World} {A : au} {R : fz → Shared → Prop} {s : Shared} {elt target iter : Expr} {ifs : List Expr} {gens : List em} {d : Nat} {scope : Scope} {pos : Pos} {it acc : Value} {env : Env} (heq : TurnD elt target iter ifs gens d scope pos it acc env) (I : Nat → Shared → Prop)
   (turn : ∀ n s, I n s → wpAny (model PG w) A (ic it) (fun r s₁ => match r with
     | none => R (.ok .next) s₁
     | some v => wpAny (model PG w) A (cG target it v) (fun _ s₁' => wpAny (model PG w) A (bM target env v) (fun _ s₂ =>
         wpAny (model PG w) A (kz ifs env) (fun ok s₃ =>
           if ok = true then wpAny (model PG w) A (eval elt env) (fun x s₄ =>
             wpAny (model PG w) A (call (.builtin "list.append") [acc, x]) (fun _ s₅ => ∃ m, m < n ∧ I m s₅) NoE s₄) NoE s₃
           else ∃ m, m < n ∧ I m s₃) NoE s₂) NoE s₁') NoE s₁) NoE s)
   (n : Nat) (h : I n s) :
   cf (model PG w) A (.compLoop (.ListComp elt gens scope pos) d it acc env) R s := by
 refine codeAny_loop rfl I (fun n s hI => ?_) n h; show wpAny _ A ((compTurn (.ListComp elt gens scope pos) d it acc env).onRaise (fun x => do ga x env; eo x)) _ _ s
 refine wpAny_noted ?_; rw [heq]; refine ai (bP (ai (am (turn n s hI) (fun r s₁ h₁ => ?_) fun _ _ x => x.elim))); cases r with
 | none => exact aP h₁
 | some v =>
   refine ai (am h₁ (fun _ s₁' h₁' => ?_) fun _ _ x => x.elim); refine ai (am h₁' (fun _ s₂ h₂ => ai (am h₂ (fun ok s₃ h₃ => ?_) fun _ _ x => x.elim)) fun _ _ x => x.elim); cases ok with
   | false => exact aP ⟨rfl, h₃⟩
   | true =>
     exact ai (ai (am h₃ (fun x s₄ h₄ => ai (am h₄ (fun _ s₅ h₅ => aP (aP ⟨rfl, h₅⟩)) fun _ _ x => x.elim)) fun _ _ x => x.elim))
section
variable {w : World} {c : Cx} {γ : Array aE} {m : Mp} {env : Env} {own : List Addr} {ρ ρ' : List VE} {nw nw' : Led} {s s' : Shared} {wr : List Addr} {gw : Nat → Prop} {A : au} {target : Expr} {I : Addr} {fp : List Addr} {n : Nat} {V : VH} {St : List Addr → Nat → Shared → Prop} {m₀ : Mp} {t0 : Nat}
inductive Sit (w : World) (c : Cx) (env : Env) (own : List Addr) (m₀ : Mp) (n : Nat) (St : List Addr → Nat → Shared → Prop) (t0 : Nat) (P : Nat → Mp → List VE → Led → Prop) (k : Nat) (s : Shared) : Prop
 | mk (wr : List Addr) (i : Nat) (γ : Array aE) (m : Mp) (ρ : List VE) (nw : Led) (hk : k = n - i) (hi : i ≤ n) (ht : t0 ≤ s.toks) (hP : P i m ρ nw) (hm : m₀.le m) (B : Bd w c γ m env own ρ nw s) (hst : St wr i s) (p : Priv wr c m own nw)
theorem qa {P : Nat → Mp → List VE → Led → Prop} {k : Nat} {Z : Shared → Prop} {Y : VP} (T : Itr w A target I fp gw n V St) (hfp : ∀ b ∈ fp, ∃ o, m₀ b = some o) (hgw : ∀ j, gw j → c.G[j]? = none) (h : Sit w c env own m₀ n St t0 P k s)
   (turn : ∀ i v c1 γ m ρ nw s', i < n → t0 ≤ s'.toks → P i m ρ nw → m₀.le m → V i v s'.heap → Bd w c1 γ m env own ρ nw s' → (∀ γ m ρ nw s, Bd w c1 γ m env own ρ nw s → Bd w c γ m env own ρ nw s) →
     (∀ γ' m' ρ' nw' s₃, t0 ≤ s₃.toks → P (i + 1) m' ρ' nw' → m₀.le m' → Bd w c1 γ' m' env own ρ' nw' s₃ → ∃ k', k' < k ∧ Sit w c env own m₀ n St t0 P k' s₃) → Y v s')
   (fin : ∀ γ m ρ nw s', P n m ρ nw → m₀.le m → Bd w c γ m env own ρ nw s' → Z s') :
   wpAny (model PG w) A (ic (.ref I)) (fun r s₁ => match r with
     | none => Z s₁
     | some v => wpAny (model PG w) A (cG target (.ref I) v) (fun _ s₂ => Y v s₂) NoE s₁) NoE s := by
 cases h with
 | mk wr i γ m ρ nw hk hi ht hP hm B hst p =>
   by_cases hlt : i < n
   · refine ks ht (am (T.item wr i s (fun v s₁ => t0 ≤ s₁.toks → Y v s₁) hlt hst fun v s' wr' hst' hwr hv ch ht1 => ?_) (fun r s₁ h ht1 => ?_) fun _ _ x => x.elim)
     · have B' := B.ch ch p hgw; have p' := B.privNew p hwr; refine turn i v _ _ m ρ nw s' hlt ht1 hP hm hv (B'.guard p') (fun _ _ _ _ _ b => B'.unguard p'.old b) fun γ' m' ρ' nw' s₃ ht3 hP' hm' B₃ => ?_; have q := B'.priv p' (T.live _ _ _ hst') B₃; refine ⟨n - (i + 1), a14 hk hlt, .mk wr' (i + 1) γ' m' ρ' nw' rfl hlt ht3 hP' hm' (B'.unguard p'.old B₃) (T.frame _ _ _ _ hst' (fun b hb o e => ?_) q.2 fun j x hj e => ?_) q.1⟩
       · obtain ⟨ob, h⟩ := hfp b hb; have h1 := B'.ok b ob (hm b ob h); rw [e] at h1; cases h1
         exact B₃.ok b o (hm' b o h)
       rw [B₃.gens]; exact B₃.gpre j x e
     cases r with
     | none => exact h.elim
     | some v => exact ks ht1 (am h (fun _ _ q => q) fun _ _ x => x.elim)
   have : i = n := a13 hi hlt; subst this; refine am (T.done wr s Z hst fun s' ch => fin _ m ρ nw s' hP hm (B.ch ch p hgw)) (fun r s₁ h => ?_) fun _ _ x => x; cases r with
   | none => exact h
   | some _ => exact h.elim
theorem qj {elt iter : Expr} {ifs : List Expr} {gens : List em} {d : Nat} {scope : Scope} {pos : Pos} {acc : Addr} {R : fz → Shared → Prop} {xs : List Value}
   (heq : TurnD elt target iter ifs gens d scope pos (.ref I) (.ref acc) env) (T : Itr w A target I fp gw n V St) (Inv : Nat → List Value → Mp → List VE → Led → Prop)
   (hfp : ∀ b ∈ fp, ∃ o, m₀ b = some o) (hgw : ∀ j, gw j → c.G[j]? = none)
   (turn : ∀ i v c1 γ m ρ xs nw s, i < n → t0 ≤ s.toks → Inv i xs m ρ nw → m₀.le m → V i v s.heap → Bd w c1 γ m env own ρ ((acc, jB xs) :: nw) s → (∀ γ m ρ nw s, Bd w c1 γ m env own ρ nw s → Bd w c γ m env own ρ nw s) →
     wpAny (model PG w) A (bM target env v) (fun _ s₂ => wpAny (model PG w) A (kz ifs env) (fun ok s₃ =>
         if ok = true then wpAny (model PG w) A (eval elt env) (fun x s₄ => ∃ γ' m' ρ' nw', xs.length ≤ aS ∧ Inv (i + 1) (xs ++ [x]) m' ρ' nw' ∧ m₀.le m' ∧ Bd w c1 γ' m' env own ρ' ((acc, jB xs) :: nw') s₄) NoE s₃
         else ∃ γ' m' ρ' nw', Inv (i + 1) xs m' ρ' nw' ∧ m₀.le m' ∧ Bd w c1 γ' m' env own ρ' ((acc, jB xs) :: nw') s₃) NoE s₂) NoE s)
   (fin : ∀ γ m ρ xs nw s, Inv n xs m ρ nw → m₀.le m → Bd w c γ m env own ρ ((acc, jB xs) :: nw) s → R (.ok .next) s)
   (h0 : Inv 0 xs m ρ nw) (hm : m₀.le m) (B : Bd w c γ m env own ρ ((acc, jB xs) :: nw) s) (ht : t0 ≤ s.toks) (hst : St wr 0 s) (p : Priv wr c m own ((acc, jB xs) :: nw)) :
   cf (model PG w) A (.compLoop (.ListComp elt gens scope pos) d (.ref I) (.ref acc) env) R s := by
 refine tB heq (fun k s => Sit w c env own m₀ n St t0 (fun i m ρ nw => ∃ xs nw', nw = (acc, jB xs) :: nw' ∧ Inv i xs m ρ nw') k s) (fun k s h => qa T hfp hgw h ?_ ?_) n (.mk wr 0 γ m ρ _ rfl (be _) ht ⟨xs, nw, rfl, h0⟩ hm B hst p)
 · rintro i v c1 γ m ρ _ s' hlt ht1 ⟨xs, nw, rfl, hI⟩ hm hv B _ tail; refine ks ht1 (am (turn i v c1 γ m ρ xs nw s' hlt ht1 hI hm hv B ‹_›) (fun _ s₂ h2 ht2 => ks ht2 (am h2 (fun ok s₃ h3 ht3 => ?_) fun _ _ x => x.elim)) fun _ _ x => x.elim); cases ok with
   | true =>
     refine ks ht3 (am h3 (fun x s₄ h4 ht4 => ?_) fun _ _ x => x.elim); refine x44 h4 fun γ' m' ρ' nw' hz hI' hm' B₄ => ?_; exact ks ht4 (kL B₄ .head hz fun s₅ B₅ ht5 => tail _ _ _ _ s₅ ht5 ⟨_, _, rfl, hI'⟩ hm' B₅)
   | false =>
     refine x43 h3 fun γ' m' ρ' nw' hI' hm' B₄ => ?_; exact tail _ _ _ _ s₃ ht3 ⟨_, _, rfl, hI'⟩ hm' B₄
 rintro γ m ρ _ s' ⟨xs, nw, rfl, hI⟩ hm B; exact fin _ _ _ _ _ _ hI hm B
end
end
section
noncomputable def ka (f : Str → Option Addr) : List (Str × br) → List (Str × Addr) → List (Str × Addr)
 | [], acc => acc
 | (n, k) :: r, acc => ka f r (if k == .free then (n, (f n).getD 0) :: acc else acc)
theorem lq {f : Str → Option Addr} {x : Str} {a : Addr} (hx : f x = some a) : ∀ (names : List (Str × br)) (acc : List (Str × Addr)), (names.lookup x = some .free ∨ acc.lookup x = some a) → (∀ b, acc.lookup x = some b → b = a) →
   (ka f names acc).lookup x = some a
 | [], acc, h, _ => by
   rcases h with h | h
   · cases h
   exact h
 | (n, k) :: r, acc, h, hu => by
   unfold ka; by_cases hk : (k == cq) = true
   · rw [if_pos hk]; refine lq hx r _ ?_ ?_
     · by_cases hn : (x == n) = true
       · right; rw [aX, hn]; rw [← beq_iff_eq.mp hn, hx]; rfl
       rcases h with h | h
       · left; rw [aX] at h; simpa only [hn] using h
       right; rw [aX]; simpa only [hn] using h
     intro b hb; rw [aX] at hb; by_cases hn : (x == n) = true
     · rw [hn] at hb; rw [← beq_iff_eq.mp hn, hx] at hb; exact (cK hb).symm
     simp only [hn] at hb; exact hu b hb
   rw [if_neg hk]; refine lq hx r _ ?_ hu; rcases h with h | h
   · by_cases hn : (x == n) = true
     · rw [aX, hn] at h; exact absurd (by rw [cK h]; rfl) hk
     left; rw [aX] at h; simpa only [hn] using h
   exact .inr h
theorem ql {scope : Scope} {env : Env} (h : ∀ x ∈ scope.names, x.2 = .free → ∃ a, env.cells.lookup x.1 = some a) : closureFor scope env = pure (ka (fun n => env.cells.lookup n) scope.names []) := by
 unfold closureFor
 have go : ∀ (names : List (Str × br)) (acc : List (Str × Addr)), (∀ x ∈ names, x.2 = .free → ∃ a, env.cells.lookup x.1 = some a) →
     (forIn names acc (fun (x : Str × br) (r : List (Str × Addr)) => (match x with
       | (name, kind) => if kind == .free then do let a ← cellOf env name; pure (d7 ((name, a) :: r)) else pure (d7 r) : Sem (ForInStep (List (Str × Addr)))))) = pure (ka (fun n => env.cells.lookup n) names acc) := by
   intro names; induction names with
   | nil => intro acc _; rfl
   | cons x r ih =>
     intro acc hx; obtain ⟨n, k⟩ := x; rw [eW]; unfold ka; by_cases hk : (k == cq) = true
     · obtain ⟨a, ha⟩ := hx (n, k) (.head _) (beq_iff_eq.mp hk); have e : cellOf env n = pure a := by unfold cellOf; rw [show env.cells.lookup n = some a from ha]
       simp only [hk, if_true, e, pure_bind]; rw [show env.cells.lookup n = some a from ha]
       exact ih _ fun y hy => hx y (.tail _ hy)
     simp only [hk, if_false, pure_bind, gJ]; exact ih _ fun y hy => hx y (.tail _ hy)
 have := go scope.names [] h; simp only [bind_pure] at this ⊢; first | exact this | (rw [← this]; rfl) | (rw [← this]; congr; funext x r; obtain ⟨n, k⟩ := x; cases k <;> rfl)
theorem kq {env : Env} : ∀ {names : List (Str × br)} {x : Str}, names.lookup x = some .free →
   (names.map fun (n, k) => if (k == cq && env.scope.kind == .function && env.kindOf n == some .cell) then (n, dF) else (n, k)).lookup x = some .cell ∨
   (names.map fun (n, k) => if (k == cq && env.scope.kind == .function && env.kindOf n == some .cell) then (n, dF) else (n, k)).lookup x = some .free
 | [], _, h => by simp at h
 | (n, k) :: r, x, h => by
   have ih := @kq env r x; simp only [ag]; cases hx : x == n with
   | true =>
     simp only [aX, hx] at h; cases h
     by_cases hc : (cq == cq && env.scope.kind == .function && env.kindOf n == some .cell) = true
     · rw [if_pos hc]; left; simp only [aX, hx]
     rw [if_neg hc]; right; simp only [aX, hx]
   | false =>
     simp only [aX, hx] at h; have go : ∀ k', gj x ((n, k') :: (r.map fun (n, k) => if (k == cq && env.scope.kind == .function && env.kindOf n == some .cell) then (n, dF) else (n, k))) = gj x (r.map fun (n, k) => if (k == cq && env.scope.kind == .function && env.kindOf n == some .cell) then (n, dF) else (n, k)) := fun k' => by simp only [aX, hx]
     by_cases hc : (k == cq && env.scope.kind == .function && env.kindOf n == some .cell) = true
     · rw [if_pos hc, go]; exact ih h
     rw [if_neg hc, go]; exact ih h
noncomputable def Cx.inner (c : Cx) (own : List Addr) (h : Heap) (caps : List Addr) : Cx := { c with old := fun a => if a ∈ own then h.get? a else c.old a, caps := caps }
section
variable {w : World} {c : Cx} {γ γ' : Array aE} {m m' : Mp} {env cenv : Env} {own : List Addr} {ρ ρ' : List VE} {nw nw' : Led} {s s' : Shared}
theorem Bd.comeback {caps own' : List Addr} (B : Bd w c γ m env own ρ nw s) (C : Bd w (c.inner own s.heap caps) γ' m' cenv own' ρ' nw' s') : Bd w c γ' m' env own ρ nw' s' := by
 have up : ∀ a o, c.old a = some o → (c.inner own s.heap caps).old a = some o := fun a o e => by
   simp only [Cx.inner]; rw [if_neg (fun h => by rw [(B.out a (an.mpr (.inl h))).2] at e; cases e)]; exact e
 have at' : ∀ a ∈ own, ∀ o, s.heap.get? a = some o → (c.inner own s.heap caps).old a = some o := fun a ha o e => by
   simp only [Cx.inner]; rw [if_pos ha]; exact e
 have hn := C.nodup; rw [aH] at hn; have hB := B.nodup; rw [aH] at hB; have ne : ∀ a ∈ own, a ∉ nw'.map (·.1) := fun a ha h => by
   obtain ⟨o, ho⟩ := B.ownok a ha; have := (C.out a (an.mpr (.inr h))).2; rw [at' a ha o ho] at this; cases this
 refine ⟨fun a o e => C.old a o (up a o e), C.ok, fun a o e => C.low a o (up a o e), C.gr, C.ble, C.os, C.gens, C.gpre, C.bare, B.vars.keep fun a o h e => ?_, B.cin, B.caps, fun a ha => ?_, C.ledok, ?_, fun a ha => ?_⟩
 · rcases h with rfl | ⟨x, hx, hc⟩
   · exact C.old _ o (at' _ B.vars.loc o e)
   rcases B.cin x hx a hc with q | q
   · exact C.old _ o (at' _ q o e)
   obtain ⟨ob, q⟩ := B.caps a q; have := B.old a ob q; rw [e] at this; cases this
   exact C.old _ o (up a o q)
 · obtain ⟨o, ho⟩ := B.ownok a ha; exact ⟨o, C.old a o (at' a ha o ho)⟩
 · rw [aH]; exact ⟨hB.1, hn.2.1, fun x hx y hy e => ne x hx (e ▸ hy)⟩
 rcases mAp ha with ha | ha
 · obtain ⟨o, ho⟩ := B.ownok a ha; refine ⟨?_, (B.out a (an.mpr (.inl ha))).2⟩; rw [C.low a o (at' a ha o ho)]; show c.base a = none
   cases q : c.base a with
   | none => rfl
   | some ob => have := B.ble a ob q; rw [(B.out a (an.mpr (.inl ha))).1] at this; cases this
 have := C.out a (an.mpr (.inr ha)); refine ⟨this.1, ?_⟩; cases q : c.old a with
 | none => rfl
 | some ob => rw [up a ob q] at this; cases this.2
theorem Bd.lose {a : Addr} {h' : Heap} {d : Drawn} {tk : Nat} (B : Bd w c γ m env own ρ nw s) (k : ∀ b o, b ≠ a → s.heap.get? b = some o → h'.get? b = some o) (h1 : m a = none) (h2 : a ∉ own ++ nw.map (·.1)) (h3 : c.old a = none) : Bd w c γ m env own ρ nw ⟨h', s.gens, d, tk, s.os⟩ := by
 have e : γ = s.gens := B.gens.symm; subst e; exact B.ch (wr := [a]) (gw := fun _ => False) (s' := ⟨h', s.gens, d, tk, s.os⟩) (.heap fun b o hb e => k b o (fun q => hb (by simp [q])) e) ⟨fun b hb => by rcases mSg hb with rfl; exact h1, fun b hb => by rcases mSg hb with rfl; exact h2, fun b hb => by rcases mSg hb with rfl; exact h3⟩ (fun _ h => h.elim)
theorem Bd.lose1 {a : Addr} {P : Obj → Prop} {h' : Heap} {d : Drawn} {tk : Nat} (B : Bd w c γ m env own ρ ((a, P) :: nw) s) (k : ∀ b o, b ≠ a → s.heap.get? b = some o → h'.get? b = some o) : Bd w c γ m env own ρ nw ⟨h', s.gens, d, tk, s.os⟩ := by
 have ha : a ∈ own ++ ((a, P) :: nw).map (·.1) := an.mpr (.inr (.head _)); have hn := B.nodup; rw [ag, aH] at hn; refine B.drop1.lose k (B.out a ha).1 (fun h => ?_) (B.out a ha).2; rcases mAp h with h | h
 · exact hn.2.2 a h a (.head _) rfl
 exact (aB.mp hn.2.1).1 h
end
noncomputable def oN (scope : Scope) (ce : List VE) : Bool := scope.names.all fun x => x.2 != .free || ce.any fun e => e.name == x.1
noncomputable def NsO (o : Obj) : Prop := ∃ es ep, o.data = .dict es ep ∧ StrKeys es
theorem NsO.of {h : Heap} {a : Addr} {mp : Str → Option Value} (x : h.Ns a mp) : At a NsO h := by obtain ⟨o, es, ep, ho, hd, hk, _⟩ := x; exact ⟨o, ho, es, ep, hd, hk⟩
theorem NsO.ns {h : Heap} {a : Addr} (x : At a NsO h) : ∃ mp, h.Ns a mp := by obtain ⟨o, ho, es, ep, hd, hk⟩ := x; exact ⟨fun n => nsFind es n, o, es, ep, ho, hd, hk, fun _ => rfl⟩
section
variable {w : World} {c : Cx} {γ γ' : Array aE} {m m' : Mp} {env cenv : Env} {own : List Addr} {ρ ρ' : List VE} {nw nw' : Led} {s s' : Shared} {A : au}
theorem Bd.out1 {caps : List Addr} {L : Addr} (B : Bd w c γ m env own ρ nw s) (C : Bd w (c.inner own s.heap caps) γ' m' cenv [L] ρ' nw' s') (hL : cenv.locals = L) : Bd w c γ' m' env own ρ ((L, NsO) :: nw') s' := by
 refine x12 C.vars.ns fun mp hn _ => ?_; rw [hL] at hn; refine x12 (NsO.of hn) fun o ho hP => ?_; have hLo := C.out L (an.mpr (.inl (.head _))); have hnd := C.nodup; rw [aH] at hnd; have hin : ∀ b ∈ own, b ≠ L := fun b hb e => by
   obtain ⟨ob, h⟩ := B.ownok b hb; have := hLo.2; simp only [Cx.inner] at this; rw [if_pos (e ▸ hb)] at this; rw [e, this] at h; cases h
 refine (B.comeback C).addL ho hP hLo.1 ?_ fun h => ?_
 · have := hLo.2; simp only [Cx.inner] at this; rwa [if_neg (fun h => hin L h rfl)] at this
 rcases mAp h with h | h
 · exact hin L h rfl
 exact hnd.2.2 L (.head _) L h rfl
theorem nH {ce : List VE} (hV : (ρ.filterMap (·.cel)).Nodup) : ∀ {ce : List VE}, (∀ e ∈ ce, e ∈ ρ) → (ce.map (·.name)).Nodup → (ce.filterMap (·.cel)).Nodup
 | [], _, _ => .nil
 | e :: r, h, hn => by
   rw [ag] at hn; have ih := nH (ce := ce) hV (fun x hx => h x (.tail _ hx)) (aB.mp hn).2; rw [b7]; cases hc : e.cel with
   | none => exact ih
   | some a =>
     refine aB.mpr ⟨fun hm => ?_, ih⟩; refine x12 (bQ.mp hm) fun e' he' hc' => ?_; have := qp hV (h e (.head _)) (h e' (.tail _ he')) hc hc'; subst this; exact (aB.mp hn).1 (aF he')
structure CompOk (scope : Scope) (ns : List Str) (ce ρ : List VE) : Prop where
 hk : scope.kind = .function
 hcell : (scope.names.all fun x => x.2 != .cell) = true
 hns : (ns.all fun n => scope.names.lookup n == some .local) = true
 hce : ∀ e ∈ ce, e ∈ ρ ∧ ∃ a, e.cel = some a
 hcf : (ce.all fun e => scope.names.lookup e.name == some .free) = true
 hnd : (ns ++ ce.map (·.name)).Nodup
theorem sy {t0 : Nat} {elt target iter : Expr} {ifs : List Expr} {gens : List em} {scope : Scope} {pos : Pos} {I : Addr} {ns : List Str} {ce : List VE} {R : Value → Addr → fz → Shared → Prop}
   {fp wr : List Addr} {gw : Nat → Prop} {n : Nat} {V : VH} {St : List Addr → Nat → Shared → Prop}
   (B : Bd w c γ m env own ρ nw s) (T : Itr w A target I fp gw n V St)
   (ok : CompOk scope ns ce ρ)
   (ht : t0 ≤ s.toks) (hst : St wr 0 s) (p : Priv wr c m own nw)
   (loop : ∀ c1 cenv L acc s2, EnvOf cenv (cb scope env) L (ka (fun n => env.cells.lookup n) scope.names []) → c1.G = c.G → t0 ≤ s2.toks → Bd w c1 γ m cenv [L] (ns.map (fun n => ⟨n, none, none⟩) ++ ce) ((acc, jB []) :: nw) s2 → St wr 0 s2 → Priv wr c1 m [L] ((acc, jB []) :: nw) →
     (∀ γ' m' ρ' xs nw' s', Bd w c1 γ' m' cenv [L] ρ' ((acc, jB xs) :: nw') s' → Bd w c γ' m' env own ρ ((L, NsO) :: (acc, jB xs) :: nw') s') → cf (model PG w) A (.compLoop (.ListComp elt (⟨target, iter, ifs, 0⟩ :: gens) scope pos) 0 (.ref I) (.ref acc) cenv) (R (.ref acc) L) s2) :
   wpAny (model PG w) A (fh []) (fun acc s₃ => wpAny (model PG w) A (cU scope env.globals (ka (fun n => env.cells.lookup n) scope.names []) [] env.qual none .none (some env)) (fun cenv s₄ =>
     cf (model PG w) A (.compStart (.ListComp elt (⟨target, iter, ifs, 0⟩ :: gens) scope pos) 0 (.ref I) acc { cenv with scope := cb scope env }) (R acc cenv.locals) s₄) NoE s₃) NoE s := by
 obtain ⟨hk, hcell, hns, hce, hcf, hnd⟩ := ok; refine g8 ?_ (by decide); have hf0 := B.fresh; have B1 : Bd w c γ m env own ρ ((s.heap.objs.size, jB []) :: nw) ⟨s.heap.push { cls := .type "list", data := .seq ([] : List Value).toArray }, s.gens, s.drawn, s.toks, s.os⟩ := B.pushL rfl ⟨_, rfl⟩; generalize hacc : s.heap.objs.size = acc at *
 generalize hs1 : (⟨s.heap.push { cls := .type "list", data := .seq ([] : List Value).toArray }, s.gens, s.drawn, s.toks, s.os⟩ : Shared) = s1 at *
 have hs1' : s1 = ⟨s.heap.push { cls := .type "list", data := .seq ([] : List Value).toArray }, s.gens, s.drawn, s.toks, s.os⟩ := hs1.symm; have k1 : ∀ a o, s.heap.get? a = some o → s1.heap.get? a = some o := fun a o e => by rw [hs1']; exact jA _ a o e
 have g1 : s1.gens = s.gens := by rw [hs1']
 refine gL (fun x hx e => ?_) (fun x hx => nomatch hx) (fun h' hns' hsb => ?_) hk
 · have := aA.mp hcell x hx; rw [e] at this; exact absurd this (by decide)
 have hf1 := B1.fresh; generalize hL : s1.heap.objs.size = L at *
 have k2 : ∀ a o, s1.heap.get? a = some o → h'.get? a = some o := fun a o e => hsb.extBut a o (ci (hL ▸ aJ e)) (jA _ a o e); have V := B1.vars; have hco : ∀ e ∈ ce, ∀ a, e.cel = some a → (∃ o, s1.heap.get? a = some o) ∧ (a ∈ own ∨ a ∈ c.caps) := fun e he a ha => by
   obtain ⟨hr, _⟩ := hce e he; obtain ⟨_, _, _, v, ⟨o, ho, _⟩, _⟩ := V.kc e hr a ha; exact ⟨⟨o, ho⟩, B1.cin e hr a ha⟩
 have up : ∀ a o, c.old a = some o → (c.inner own s1.heap (ce.filterMap (·.cel))).old a = some o := fun a o e => by
   simp only [Cx.inner]; rw [if_neg (fun h => by rw [(B1.out a (an.mpr (.inl h))).2] at e; cases e)]; exact e
 have C : Bd w (c.inner own s1.heap (ce.filterMap (·.cel))) γ m { (newEnv scope L env.globals (ka (fun n => env.cells.lookup n) scope.names []) env.qual none .none (some env) ca) with scope := cb scope env } [L] (ns.map (fun n => ⟨n, none, none⟩) ++ ce) ((acc, jB []) :: nw)
     ⟨h', s1.gens, s1.drawn, s1.toks + 0, s1.os⟩ := by
   have mem : ∀ e ∈ (ns.map (fun n => (⟨n, none, none⟩ : VE)) ++ ce), (∃ n ∈ ns, e = ⟨n, none, none⟩) ∨ e ∈ ce := fun e he => by
     rcases mAp he with he | he
     · obtain ⟨n, hn, rfl⟩ := mMa he; exact .inl ⟨n, hn, rfl⟩
     exact .inr he
   have hB := B1.nodup; rw [aH] at hB; refine ⟨fun a o e => ?_, fun a o e => k2 _ _ (B1.ok a o e), fun a o e => ?_, B1.gr, B1.ble, B1.os, B1.gens, B1.gpre, B1.bare, ⟨hk, V.glob, V.bltn, .head _, ⟨_, hns', fun e he hc v hv => ?_⟩, fun e he hc => ?_, fun e he a ha => ?_, ?_, ?_⟩, fun e he a ha => ?_, fun a ha => ?_, fun a ha => ?_, fun p hp => ?_, ?_, fun a ha => ?_⟩
   · simp only [Cx.inner] at e; by_cases h : a ∈ own
     · rw [if_pos h] at e; exact k2 _ _ e
     rw [if_neg h] at e; exact k2 _ _ (B1.old a o e)
   · simp only [Cx.inner] at e; by_cases h : a ∈ own
     · have h1 := (B1.out a (an.mpr (.inl h))).1; show m a = c.base a
       rw [h1]; cases q : c.base a with
       | none => rfl
       | some ob => have := B1.ble a ob q; rw [h1] at this; cases this
     rw [if_neg h] at e; exact B1.low a o e
   · rcases mem e he with ⟨n, _, rfl⟩ | h
     · cases hv
     obtain ⟨_, a, ha⟩ := hce e h; rw [hc] at ha; cases ha
   · rcases mem e he with ⟨n, hn, rfl⟩ | h
     · have := aA.mp hns n hn; exact lookup_relabel_local (by simpa using this)
     obtain ⟨_, a, ha⟩ := hce e h; rw [hc] at ha; cases ha
   · rcases mem e he with ⟨n, hn, rfl⟩ | h
     · cases ha
     obtain ⟨hr, _⟩ := hce e h; obtain ⟨y1, y2, y3, v, ⟨o, ho, hd⟩, y5⟩ := V.kc e hr a ha; have hfr := aA.mp hcf e h; refine ⟨kq (by simpa using hfr), lq y2 _ _ (.inl (by simpa using hfr)) (fun b hb => nomatch hb), fun q => ?_, v, ⟨o, k2 _ _ ho, hd⟩, y5⟩; have : a = L := q; rw [this, ← hL] at ho; exact absurd (aJ ho) (bB _)
   · rw [aM, aT]; have : (ns.map ((fun (x : VE) => x.name) ∘ fun n => (⟨n, none, none⟩ : VE))) = ns := cZ _; rw [this]; exact hnd
   · rw [fW, c7]; have : (ns.filterMap ((fun (x : VE) => x.cel) ∘ fun n => (⟨n, none, none⟩ : VE))) = [] := by
       rw [dk]; intro a _; rfl
     rw [this, bi]; rw [aH] at hnd; exact nH (ce := ce) V.cels (fun e he => (hce e he).1) hnd.2.1
   · rcases mem e he with ⟨n, hn, rfl⟩ | h
     · cases ha
     exact .inr (bQ.mpr ⟨e, h, ha⟩)
   · refine x12 (bQ.mp ha) fun e he ha => ?_; obtain ⟨⟨o, ho⟩, q⟩ := hco e he a ha; simp only [Cx.inner]; by_cases h : a ∈ own
     · rw [if_pos h]; exact ⟨o, ho⟩
     rw [if_neg h]; exact B1.caps a (q.resolve_left h)
   · rcases mSg ha with rfl
     refine x32 hns' fun o _ _ ho _ => ?_; exact ⟨o, ho⟩
   · refine x12 (B1.ledok p hp) fun o ho q => ?_; exact ⟨o, k2 _ _ ho, q⟩
   · rw [aH]; refine ⟨aB.mpr ⟨by simp, .nil⟩, hB.2.1, fun x hx y hy e => ?_⟩; rcases mSg hx with rfl
     exact hf1.2.2 (an.mpr (.inr (e ▸ hy)))
   rcases mAp ha with ha | ha
   · rcases mSg ha with rfl
     refine ⟨hf1.1, ?_⟩; simp only [Cx.inner]; rw [if_neg (fun h => hf1.2.2 (an.mpr (.inl h)))]; exact hf1.2.1
   have := B1.out a (an.mpr (.inr ha)); refine ⟨this.1, ?_⟩; simp only [Cx.inner]; rw [if_neg (fun h => hB.2.2 a h a ha rfl)]; exact this.2
 generalize hs2 : (⟨h', s1.gens, s1.drawn, s1.toks + 0, s1.os⟩ : Shared) = s2 at C; have ht2 : t0 ≤ s2.toks := by rw [← hs2, hs1']; exact ht
 have st2 : St wr 0 s2 := T.frame wr 0 s s2 hst (fun b _ o e => by rw [← hs2]; exact k2 _ _ (k1 _ _ e)) (fun b _ o e => by rw [← hs2]; exact k2 _ _ (k1 _ _ e)) (fun j x _ e => by rw [← hs2]; show s1.gens[j]? = _; rw [g1]; exact e)
 have p2 : Priv wr (c.inner own s1.heap (ce.filterMap (·.cel))) m [L] ((acc, jB []) :: nw) := by
   have ex : ∀ b ∈ wr, ∃ o, s.heap.get? b = some o := T.live wr 0 s hst; refine ⟨p.m, fun b hb h => ?_, fun b hb => ?_⟩
   · obtain ⟨o, ho⟩ := ex b hb; rcases mAp h with h | h
     · rcases mSg h with rfl
       have := aJ (k1 _ _ ho); rw [hL] at this; exact bB _ this
     rw [ag] at h; rcases mCo h with rfl | h
     · have := aJ ho; rw [hacc] at this; exact bB _ this
     exact p.own b hb (an.mpr (.inr h))
   simp only [Cx.inner]; rw [if_neg (fun h => p.own b hb (an.mpr (.inl h)))]; exact p.old b hb
 have loop := loop (c.inner own s1.heap (ce.filterMap (·.cel))) _ L acc s2 ⟨rfl, rfl, rfl⟩ rfl ht2 C st2 p2 fun γ' m' ρ' xs nw' s' B' => B1.out1 B' rfl; exact codeAny_compStart_list loop (am (Q := fun it' s' => cf (model PG w) A (.compLoop (.ListComp elt (⟨target, iter, ifs, 0⟩ :: gens) scope pos) 0 it' (.ref acc) { (newEnv scope L env.globals (ka (fun n => env.cells.lookup n) scope.names []) env.qual none .none (some env) ca) with scope := cb scope env }) (R (.ref acc) L) s') (T.self wr 0 s2 _ st2 loop) (fun _ _ q => q) fun _ _ x => x.elim)
theorem comp_core {t0 : Nat} {elt target iter : Expr} {ifs : List Expr} {scope : Scope} {pos : Pos} {I : Addr} {ns : List Str} {ce : List VE} {R : Value → Addr → fz → Shared → Prop}
   {fp wr : List Addr} {gw : Nat → Prop} {n : Nat} {V : VH} {St : List Addr → Nat → Shared → Prop}
   (B : Bd w c γ m env own ρ nw s) (T : Itr w A target I fp gw n V St) (Inv : Nat → List Value → Mp → List VE → Led → Prop)
   (ok : CompOk scope ns ce ρ)
   (hfp : ∀ b ∈ fp, ∃ o, m b = some o) (hgw : ∀ j, gw j → c.G[j]? = none) (ht : t0 ≤ s.toks) (hst : St wr 0 s) (p : Priv wr c m own nw)
   (turn : ∀ i v c1 cenv L acc γ m1 ρ' xs nw' s, i < n → t0 ≤ s.toks → EnvOf cenv (cb scope env) L (ka (fun n => env.cells.lookup n) scope.names []) → Inv i xs m1 ρ' nw' → m.le m1 → V i v s.heap → Bd w c1 γ m1 cenv [L] ρ' ((acc, jB xs) :: nw') s →
     wpAny (model PG w) A (bM target cenv v) (fun _ s₂ => wpAny (model PG w) A (kz ifs cenv) (fun ok s₃ =>
         if ok = true then wpAny (model PG w) A (eval elt cenv) (fun x s₄ => ∃ γ' m' ρ' nw', xs.length ≤ aS ∧ Inv (i + 1) (xs ++ [x]) m' ρ' nw' ∧ m.le m' ∧ Bd w c1 γ' m' cenv [L] ρ' ((acc, jB xs) :: nw') s₄) NoE s₃
         else ∃ γ' m' ρ' nw', Inv (i + 1) xs m' ρ' nw' ∧ m.le m' ∧ Bd w c1 γ' m' cenv [L] ρ' ((acc, jB xs) :: nw') s₃) NoE s₂) NoE s)
   (h0 : Inv 0 [] m (ns.map (fun n => ⟨n, none, none⟩) ++ ce) nw)
   (fin : ∀ γ' m' ρ' xs nw' L acc s', Inv n xs m' ρ' nw' → m.le m' → Bd w c γ' m' env own ρ ((L, NsO) :: (acc, jB xs) :: nw') s' → R (.ref acc) L (.ok .next) s') :
   wpAny (model PG w) A (fh []) (fun acc s₃ => wpAny (model PG w) A (cU scope env.globals (ka (fun n => env.cells.lookup n) scope.names []) [] env.qual none .none (some env)) (fun cenv s₄ =>
     cf (model PG w) A (.compStart (.ListComp elt [⟨target, iter, ifs, 0⟩] scope pos) 0 (.ref I) acc { cenv with scope := cb scope env }) (R acc cenv.locals) s₄) NoE s₃) NoE s := by
 exact sy (t0 := t0) B T ok ht hst p fun c1 cenv L acc s2 hE hG ht2 C st2 p2 back => qj (t0 := t0) .one T Inv hfp (hG ▸ hgw) (fun i v c2 γ m ρ xs nw s hi htk hI hm hv B' _ => turn i v c2 _ L acc γ m ρ xs nw s hi htk hE hI hm hv B') (fun γ' m' ρ' xs nw' s' hI hm B' => fin γ' m' ρ' xs nw' L acc s' hI hm (back _ _ _ _ _ _ B')) h0 .rfl C ht2 st2 p2
end
end
section
theorem pt {a b : Nat} (h : ¬ a = b) : @Ne Addr a b := h
noncomputable def Src (w : World) (A : au) (target : Expr) (c : Cx) (m : Mp) (own : List Addr) (nw : Led) (I : Addr) (n : Nat) (V : VH) (s : Shared) : Prop :=
 ∃ fp gw St wr, Itr w A target I fp gw n V St ∧ (∀ b ∈ fp, ∃ o, m b = some o) ∧ (∀ j, gw j → c.G[j]? = none) ∧ St wr 0 s ∧ Priv wr c m own nw
section
variable {w : World} {A : au} {I : Addr} {fp wr : List Addr} {n : Nat}
theorem sT {x : Str} {p : Pos} {it v : Value} {M : Model} {Q : Unit → Shared → Prop} {E : VP} {s : Shared} (h : Q () s) : wpAny M A (cG (.Name x p) it v) Q E s := by
 unfold cG; exact aP h
theorem Itr.ofW {x : Str} {p : Pos} {P : Nat → Value → Prop} {St : Nat → Heap → Prop} (W : Walks PG w A I fp wr n P St) (fk : List Addr) (hf : ∀ b ∈ fp, b ∈ wr ∨ b ∈ fk) (live : ∀ i h, St i h → ∀ b ∈ wr, ∃ o, h.get? b = some o) :
   Itr w A (.Name x p) I fk (fun _ => False) n (fun i v _ => P i v) (fun wr' i s => wr' = wr ∧ St i s.heap) where
 frame := fun wr' i s s' h k kw _ => ⟨h.1, W.frame i _ _ h.2 fun b hb o e => by
   rcases hf b hb with q | q
   · exact kw b (h.1 ▸ q) o e
   exact k b q o e⟩
 live := fun wr' i s h b hb => live i _ h.2 b (h.1 ▸ hb)
 item := fun wr' i s Q hi hst h => by
   obtain ⟨rfl, hst⟩ := hst; exact W.item i s _ _ hi hst fun v h' tk hP hst' k => sT (h v _ _ ⟨rfl, hst'⟩ (fun b hb => .inl hb) hP (.heap k))
 done := fun wr' s Q hst h => by
   obtain ⟨rfl, hst⟩ := hst; exact W.done s _ _ hst fun h' tk k => h _ (.heap k)
 self := fun wr' i s Q hst h => W.self i s _ _ hst.2 h
theorem Itr.ofU {elts : List Expr} {k : Nat} {p : Pos} {Pt : Nat → Array Value → Prop} {St : Nat → Heap → Prop} {Mid : Nat → Addr → Heap → Prop} (W : WalksU PG w A I fp wr n Pt St Mid) (wx fk : List Addr) (hw : ∀ b ∈ wr, b ∈ wx) (hf : ∀ b ∈ fp, b ∈ wx ∨ b ∈ fk) (live : ∀ i h, St i h → ∀ b ∈ wx, ∃ o, h.get? b = some o) :
   Itr w A (.Tuple elts k p) I fk (fun _ => False) n (fun i v h => ∃ T vals, v = .ref T ∧ Pt i vals ∧ h.IsTuple T vals) (fun wr' i s => wr' = wx ∧ St i s.heap) where
 frame := fun wr' i s s' h k kw _ => ⟨h.1, W.frame i _ _ h.2 fun b hb o e => by
   rcases hf b hb with q | q
   · exact kw b (h.1 ▸ q) o e
   exact k b q o e⟩
 live := fun wr' i s h b hb => live i _ h.2 b (h.1 ▸ hb)
 item := fun wr' i s Q hi hst h => by
   obtain ⟨rfl, hst⟩ := hst; exact W.item i s _ _ hi hst fun T vals h' tk hP hT hm kk => W.go elts k p i T _ _ _ hm fun h'' hst' kk' => h _ _ _ ⟨rfl, hst'⟩ (fun b hb => .inl hb) ⟨T, vals, rfl, hP, hT.at fun o e => kk' T o (W.apart _ _ _ hm) e⟩ (.heap fun b o hb e => kk' b o (fun q => hb (hw b q)) (kk b o (fun q => hb (hw b q)) e))
 done := fun wr' s Q hst h => by
   obtain ⟨rfl, hst⟩ := hst; exact W.done s _ _ hst fun h' tk k => h _ (.heap fun b o hb e => k b o (fun q => hb (hw b q)) e)
 self := fun wr' i s Q hst h => W.self i s _ _ hst.2 h
theorem Itr.list (hh : A.handled = none) {target : Expr} {l : Addr} (hne : l ≠ I) (vs : List Value) :
   Itr w A target I [l] (fun _ => False) vs.length (fun i v _ => vs[i]? = some v) (fun wr i s => wr = [I] ∧ s.heap.IsListIter I l i ∧ s.heap.IsList l vs.toArray) where
 frame := fun wr i s s' h k kw _ => ⟨h.1, (iB (prog := PG) (w := w) hh I l hne vs.toArray).frame i _ _ h.2 fun b hb o e => by
   rcases mCo hb with rfl | hb
   · exact kw _ (by rw [h.1]; exact .head _) o e
   exact k b hb o e⟩
 live := fun wr i s h b hb => by
   obtain ⟨rfl, h, _⟩ := h; rcases mSg hb with rfl
   refine x12 h fun o ho _ => ?_; exact ⟨o, ho⟩
 item := fun wr i s Q hi hst h => by
   obtain ⟨rfl, hst⟩ := hst; exact (iB (prog := PG) (w := w) hh I l hne vs.toArray).item i s _ _ (by simpa using hi) hst fun v h' tk hP hst' k => PyProof.Rows.letGo_listiter hst'.1 (h v _ _ ⟨rfl, hst'⟩ (fun b hb => .inl hb) (by simpa using hP) (.heap k))
 done := fun wr s Q hst h => by
   obtain ⟨rfl, hst⟩ := hst; exact (iB (prog := PG) (w := w) hh I l hne vs.toArray).done s _ _ (by simpa using hst) fun h' tk k => h _ (.heap k)
 self := fun wr i s Q hst h => (iB (prog := PG) (w := w) hh I l hne vs.toArray).self i s _ _ hst.2 h
end
section
variable {w : World} {c : Cx} {γ γ' : Array aE} {m m' : Mp} {env cenv : Env} {own : List Addr} {ρ ρ' : List VE} {nw nw' : Led} {s s' : Shared} {A : au} {E : VP}
theorem Bd.privOf {wr : List Addr} (B : Bd w c γ m env own ρ nw s) (h : ∀ b ∈ wr, s.heap.objs.size ≤ b) : Priv wr c m own nw := by
 have none_of : ∀ b, s.heap.objs.size ≤ b → s.heap.get? b = none := fun b hb => by
   cases e : s.heap.get? b with
   | none => rfl
   | some o => exact absurd (aJ e) (fB.mpr hb)
 refine ⟨fun b hb => ?_, fun b hb hm => ?_, fun b hb => ?_⟩
 · cases e : m b with
   | none => rfl
   | some o => have := B.ok _ _ e; rw [none_of b (h b hb)] at this; cases this
 · rcases mAp hm with hm | hm
   · obtain ⟨o, ho⟩ := B.ownok b hm; rw [none_of b (h b hb)] at ho; cases ho
   obtain ⟨p, hp, rfl⟩ := mMa hm; refine x12 (B.ledok p hp) fun o ho _ => ?_; rw [none_of _ (h _ hb)] at ho; cases ho
 cases e : c.old b with
 | none => rfl
 | some o => have := B.old _ _ e; rw [none_of b (h b hb)] at this; cases this
theorem jJ {l : Addr} {vs : List Value} {target : Expr} {Q : VP} (B : Bd w c γ m env own ρ nw s) (hh : A.handled = none) (hk : ∃ o, m l = some o ∧ jB vs o)
   (h : ∀ I s', Bd w c γ m env own ρ nw s' → Src w A target c m own nw I vs.length (fun i v _ => vs[i]? = some v) s' → Q (.ref I) s') : wpAny (model PG w) A (cC (.ref l)) Q E s := by
 refine x12 hk fun o ho hP => ?_; have hl : s.heap.IsList l vs.toArray := At.list ⟨o, B.ok _ _ ho, hP⟩; refine iv hl (h _ _ (B.grow (jA _)) ⟨[l], _, _, [s.heap.objs.size], Itr.list hh (ci (aJ (B.ok _ _ ho))) vs, fun b hb => ?_, fun _ h => h.elim, ⟨rfl, ⟨_, aG _ rfl, rfl, rfl⟩, hl.at fun o e => jA _ _ o e⟩, B.privOf fun b hb => by simp at hb; exact bd hb.symm⟩); rcases mSg hb with rfl
 exact ⟨o, ho⟩
theorem on {l : Addr} {vs : List Value} {x : Str} {p : Pos} {Q : VP} (B : Bd w c γ m env own ρ nw s) (hh : A.handled = none) (hk : ∃ o, m l = some o ∧ tJ vs o)
   (h : ∀ I s', Bd w c γ m env own ρ nw s' → Src w A (.Name x p) c m own nw I vs.length (fun i v _ => vs[i]? = some v) s' → Q (.ref I) s') : wpAny (model PG w) A (cC (.ref l)) Q E s := by
 refine x12 hk fun o ho hP => ?_; have hl : s.heap.IsTuple l vs.toArray := At.tup ⟨o, B.ok _ _ ho, hP⟩; have T := Itr.ofW (x := x) (p := p) (Walks.tuple (prog := PG) (w := w) hh s.heap.objs.size l (ci (aJ (B.ok _ _ ho))) vs.toArray) [l] (fun b hb => by simpa using hb) fun i h st b hb => by
   rcases mSg hb with rfl
   refine x12 st.1 fun o ho _ => ?_; exact ⟨o, ho⟩
 simp only [dm, eG] at T; refine wpAny_pyIter_tuple hl (h _ _ (B.grow (jA _)) ⟨[l], _, _, _, T, fun b hb => ?_, fun _ h => h.elim, ⟨rfl, ⟨_, aG _ rfl, rfl, rfl⟩, hl.at fun o e => jA _ _ o e⟩, B.privOf fun b hb => by simp at hb; exact bd hb.symm⟩); rcases mSg hb with rfl
 exact ⟨o, ho⟩
theorem nv {a b : Int} (h : a ≤ b) : di a b 1 = b - a := by
 unfold di; split
 · rename_i h; simp at h; split <;> simp_all <;> exact a27 h (by assumption)
 simp_all
theorem kA {k : Nat} {t : Tok} {x : Str} {p : Pos} {Q : VP} (B : Bd w c γ m env own ρ nw s) (hh : A.handled = none) (hsm : bO 0 k 1 = true)
   (h : ∀ I s', Bd w c γ m env own ρ nw s' → Src w A (.Name x p) c m own nw I k (fun i v _ => ∃ t, v = .int i t) s' → Q (.ref I) s') :
   wpAny (model PG w) A (call (.type "range") [.int k t]) (fun r s₁ => wpAny (model PG w) A (cC r) Q E s₁) E s := by
 refine call_range_1 (wpAny_pyIter_range (aG _ rfl) hsm ?_); have B1 : Bd w c γ m env own ρ nw ⟨s.heap.push { cls := .type "range", data := .fields #[.int 0 s.toks, .int k t, .int 1 (s.toks + 1)] }, s.gens, s.drawn, s.toks + 1 + 1, s.os⟩ := B.grow (jA _); generalize hs1 : (⟨s.heap.push { cls := .type "range", data := .fields #[.int 0 s.toks, .int k t, .int 1 (s.toks + 1)] }, s.gens, s.drawn, s.toks + 1 + 1, s.os⟩ : Shared) = s1 at *
 have hh1 : s1.heap = s.heap.push { cls := .type "range", data := .fields #[.int 0 s.toks, .int k t, .int 1 (s.toks + 1)] } := by rw [← hs1]
 have T := Itr.ofW (x := x) (p := p) (Walks.range (prog := PG) (w := w) hh s1.heap.objs.size 0 1 k) [] (fun b hb => .inl hb) fun i h st b hb => by
   rcases mSg hb with rfl
   exact ⟨_, st⟩
 simp only [Int.zero_add, Int.mul_one] at T; have := h s1.heap.objs.size ⟨s1.heap.push { cls := .type "range_iterator", data := .fields #[gn 0, gn (di 0 k 1), gn 1] }, s1.gens, s1.drawn, s1.toks, s1.os⟩ (B1.grow (jA _)) ⟨[], _, _, _, T, fun b hb => (nomatch hb), fun _ h => h.elim, ⟨rfl, ?_⟩, B1.privOf fun b hb => by simp at hb; first | exact bd hb.symm | (rcases hb with hb | hb <;> subst hb <;> first | exact ap _ | exact aK _ _) | (rcases hb with hb | hb | hb | hb | hb <;> subst hb <;> first | exact ap _ | exact aK _ _)⟩
 · subst hs1; exact this
 show (hZ _ _) = _
 rw [show (⟨s1.heap.push { cls := .type "range_iterator", data := .fields #[gn 0, gn (di 0 k 1), gn 1] }, s1.gens, s1.drawn, s1.toks, s1.os⟩ : Shared).heap.get? s1.heap.objs.size = _ from aG _ rfl, nv (a12)]
 simp
theorem src_str {z : Str} {t : Tok} {x : Str} {p : Pos} {Q : VP} (B : Bd w c γ m env own ρ nw s) (hh : A.handled = none)
   (h : ∀ I s', Bd w c γ m env own ρ nw s' → Src w A (.Name x p) c m own nw I z.cps.size (fun i v _ => SignAt z i v) s' → Q (.ref I) s') : wpAny (model PG w) A (cC (.str z t)) Q E s := by
 refine wpAny_pyIter_strU (h _ _ (B.grow (jA _)) ?_); by_cases ha : z.cps.all (· < 128) = true
 · have e : cT z = "str_ascii_iterator" := by unfold cT; rw [if_pos ha]
   rw [e]; exact ⟨[], _, _, _, Itr.ofW (x := x) (p := p) (Walks.strAscii (prog := PG) (w := w) hh s.heap.objs.size z t) [] (fun b hb => .inl hb) (fun i h st b hb => by rcases mSg hb with rfl; refine x12 st fun o ho _ => ?_; exact ⟨o, ho⟩), fun b hb => (nomatch hb), fun _ h => h.elim, ⟨rfl, _, aG _ rfl, rfl, rfl⟩, B.privOf fun b hb => by simp at hb; first | exact bd hb.symm | (rcases hb with hb | hb <;> subst hb <;> first | exact ap _ | exact aK _ _) | (rcases hb with hb | hb | hb | hb | hb <;> subst hb <;> first | exact ap _ | exact aK _ _)⟩
 have e : cT z = "str_iterator" := by unfold cT; rw [if_neg ha]
 rw [e]; exact ⟨[], _, _, _, Itr.ofW (x := x) (p := p) (Walks.strWide (prog := PG) (w := w) hh s.heap.objs.size z t) [] (fun b hb => .inl hb) (fun i h st b hb => by rcases mSg hb with rfl; refine x12 st fun o ho _ => ?_; exact ⟨o, ho⟩), fun b hb => (nomatch hb), fun _ h => h.elim, ⟨rfl, _, aG _ rfl, rfl, rfl⟩, B.privOf fun b hb => by simp at hb; first | exact bd hb.symm | (rcases hb with hb | hb <;> subst hb <;> first | exact ap _ | exact aK _ _) | (rcases hb with hb | hb | hb | hb | hb <;> subst hb <;> first | exact ap _ | exact aK _ _)⟩
noncomputable def EnV (P : Nat → Value → Prop) (i : Nat) (v : Value) (h : Heap) : Prop := ∃ T t x, v = .ref T ∧ P i x ∧ h.IsTuple T #[.int i t, x]
theorem kN {l : Addr} {vs : List Value} {elts : List Expr} {k : Nat} {p : Pos} {Q : VP} (B : Bd w c γ m env own ρ nw s) (hh : A.handled = none) (hk : ∃ o, m l = some o ∧ jB vs o)
   (h : ∀ I s', Bd w c γ m env own ρ nw s' → Src w A (.Tuple elts k p) c m own nw I vs.length (EnV fun i x => vs[i]? = some x) s' → Q (.ref I) s') :
   wpAny (model PG w) A (call (.type "enumerate") [.ref l]) (fun r s₁ => wpAny (model PG w) A (cC r) Q E s₁) E s := by
 refine x12 hk fun o ho hP => ?_; have hl : s.heap.IsList l vs.toArray := At.list ⟨o, B.ok _ _ ho, hP⟩; have hlt : @LT.lt Nat _ l s.heap.objs.size := aJ (B.ok _ _ ho); refine call_enumerate_list hl fun h' he hit hz hk => iw he (h _ _ (B.grow hk) ?_); have W := (WalksT.enumerate (prog := PG) (w := w) hh (s.heap.objs.size + 1) s.heap.objs.size l (pt (a24)) (pt (a26 hlt)) (pt (a25 hlt)) vs.toArray).toU; have T := Itr.ofU (elts := elts) (k := k) (p := p) W [s.heap.objs.size + 1, s.heap.objs.size] [l] (fun b hb => hb) (fun b hb => by simp at hb ⊢; rcases hb with q | q | q <;> simp [q]) fun i h st b hb => by
   obtain ⟨⟨old, e1⟩, ⟨o2, e2, _⟩, _⟩ := st; rcases mCo hb with rfl | hb
   · exact ⟨_, e1⟩
   rcases mSg hb with rfl
   exact ⟨_, e2⟩
 refine ⟨_, _, _, _, ⟨T.frame, T.live, fun wr i s Q hi hst h => T.item wr i s Q (by simpa using hi) hst fun v s' wr' a fr z1 d => by obtain ⟨T, vals, b1, ⟨t, x, b2, b3⟩, b4⟩ := z1; exact h v s' wr' a fr ⟨T, t, x, b1, by simpa using b2, b3 ▸ b4⟩ d, fun wr s Q hst h => T.done wr s Q (by simpa using hst) h, T.self⟩, fun b hb => ?_, fun _ h => h.elim, ⟨rfl, ⟨_, he⟩, hit, hl.at fun o e => hk _ o e⟩, B.privOf fun b hb => by simp at hb; rcases hb with hb | hb <;> subst hb <;> first | exact ap _ | exact aK _ _⟩
 rcases mSg hb with rfl
 exact ⟨o, ho⟩
theorem src_enumS {z : Str} {t : Tok} {elts : List Expr} {k : Nat} {p : Pos} {Q : VP} (B : Bd w c γ m env own ρ nw s) (hh : A.handled = none)
   (h : ∀ I s', Bd w c γ m env own ρ nw s' → Src w A (.Tuple elts k p) c m own nw I z.cps.size (EnV (SignAt z)) s' → Q (.ref I) s') :
   wpAny (model PG w) A (call (.type "enumerate") [.str z t]) (fun r s₁ => wpAny (model PG w) A (cC r) Q E s₁) E s := by
 refine call_enumerate_str fun h' he hit hz hk => iw he (h _ _ (B.grow hk) ?_)
 have fin : ∀ (St : Nat → Heap → Prop), Draws PG w A.in1 s.heap.objs.size [s.heap.objs.size] z.cps.size (SignAt z) St → St 0 h' →
     Src w A (.Tuple elts k p) c m own nw (s.heap.objs.size + 1) z.cps.size (EnV (SignAt z)) ⟨h', s.gens, s.drawn, s.toks, s.os⟩ := fun St D hst => by
   have T := Itr.ofU (elts := elts) (k := k) (p := p) (WalksT.enumerateD D (s.heap.objs.size + 1) (pt (a24)) (by simp) (by simp)).toU [s.heap.objs.size + 1, s.heap.objs.size] [] (fun b hb => hb) (fun b hb => .inl hb) fun i h st b hb => by
     obtain ⟨⟨old, e1⟩, e2⟩ := st; rcases mCo hb with rfl | hb
     · exact ⟨_, e1⟩
     rcases mSg hb with rfl
     exact D.live _ _ e2
   exact ⟨_, _, _, _, ⟨T.frame, T.live, fun wr i s Q hi hst h => T.item wr i s Q hi hst fun v s' wr' a fr z1 d => by obtain ⟨T, vals, b1, ⟨t, x, b2, b3⟩, b4⟩ := z1; exact h v s' wr' a fr ⟨T, t, x, b1, b2, b3 ▸ b4⟩ d, T.done, T.self⟩, fun b hb => (nomatch hb), fun _ h => h.elim, ⟨rfl, ⟨_, he⟩, hst⟩, B.privOf fun b hb => by simp at hb; rcases hb with hb | hb <;> subst hb <;> first | exact ap _ | exact aK _ _⟩
 by_cases ha : z.cps.all (· < 128) = true
 · have e : cT z = "str_ascii_iterator" := by unfold cT; rw [if_pos ha]
   rw [e] at hit; exact fin _ (Draws.strAscii (prog := PG) (w := w) (A := A.in1) hh s.heap.objs.size z t) hit
 have e : cT z = "str_iterator" := by unfold cT; rw [if_neg ha]
 rw [e] at hit; exact fin _ (Draws.strWide (prog := PG) (w := w) (A := A.in1) hh s.heap.objs.size z t) hit
theorem src_zip {l l' : Addr} {vs vs' : List Value} {elts : List Expr} {k : Nat} {p : Pos} {Q : VP} (B : Bd w c γ m env own ρ nw s) (hh : A.handled = none) (hk : ∃ o, m l = some o ∧ jB vs o) (hk' : ∃ o, m l' = some o ∧ jB vs' o)
   (h : ∀ I s', Bd w c γ m env own ρ nw s' → Src w A (.Tuple elts k p) c m own nw I (min vs.length vs'.length) (fun i v h => ∃ T x y, v = .ref T ∧ vs[i]? = some x ∧ vs'[i]? = some y ∧ h.IsTuple T #[x, y]) s' → Q (.ref I) s') :
   wpAny (model PG w) A (call (.type "zip") [.ref l, .ref l']) (fun r s₁ => wpAny (model PG w) A (cC r) Q E s₁) E s := by
 refine x12 hk fun o ho hP => ?_; refine x12 hk' fun o' ho' hP' => ?_; have hl : s.heap.IsList l vs.toArray := At.list ⟨o, B.ok _ _ ho, hP⟩; have hl' : s.heap.IsList l' vs'.toArray := At.list ⟨o', B.ok _ _ ho', hP'⟩; have hlt : @LT.lt Nat _ l s.heap.objs.size := aJ (B.ok _ _ ho); have hlt' : @LT.lt Nat _ l' s.heap.objs.size := aJ (B.ok _ _ ho'); refine call_zip_2 hl hl' fun h' hz hp1 hp2 hi1 hi2 hsz hk => wpAny_pyIter_zip hz (h _ _ (B.grow hk) ?_); have W := (WalksT.zip2 (prog := PG) (w := w) hh (s.heap.objs.size + 4) (s.heap.objs.size + 2) (s.heap.objs.size + 3) s.heap.objs.size (s.heap.objs.size + 1) l l' (by constructor <;> refine pt ?_ <;> (first | lia | omega)) vs.toArray vs'.toArray).toU
 have T := Itr.ofU (elts := elts) (k := k) (p := p) W ((s.heap.objs.size + 2) :: [s.heap.objs.size + 4, s.heap.objs.size + 3, s.heap.objs.size, s.heap.objs.size + 1]) [l, l'] (fun b hb => .tail _ hb) (fun b hb => by simp at hb ⊢; rcases hb with q | q | q | q | q | q | q <;> simp [q]) fun i h st b hb => by
   obtain ⟨e1, e2, ⟨x, y, e3⟩, ⟨_, e4, _⟩, ⟨_, e5, _⟩, _⟩ := st; rcases mCo hb with rfl | hb
   · exact ⟨_, e2⟩
   rcases mCo hb with rfl | hb
   · exact ⟨_, e1⟩
   rcases mCo hb with rfl | hb
   · exact ⟨_, e3⟩
   rcases mCo hb with rfl | hb
   · exact ⟨_, e4⟩
   rcases mCo hb with rfl | hb
   · exact ⟨_, e5⟩
   cases hb
 refine ⟨_, _, _, _, ⟨T.frame, T.live, fun wr i s Q hi hst h => T.item wr i s Q (by simpa using hi) hst fun v s' wr' a fr z1 d => by obtain ⟨T, vals, b1, ⟨x, y, b2, b3, b4⟩, b5⟩ := z1; exact h v s' wr' a fr ⟨T, x, y, b1, by simpa using b2, by simpa using b3, b4 ▸ b5⟩ d, fun wr s Q hst h => T.done wr s Q (by simpa using hst) h, T.self⟩, fun b hb => ?_, fun _ h => h.elim, ⟨rfl, hz, hp1, ⟨_, _, hp2⟩, hi1, hi2, hl.at fun o e => hk _ o e, hl'.at fun o e => hk _ o e⟩, B.privOf fun b hb => by simp at hb; rcases hb with hb | hb | hb | hb | hb <;> subst hb <;> first | exact ap _ | exact aK _ _⟩
 rcases mCo hb with rfl | hb
 · exact ⟨_, ho⟩
 rcases mSg hb with rfl
 exact ⟨_, ho'⟩
end
end
section
inductive All2 {α β : Type} (R : α → β → Prop) : List α → List β → Prop
 | nil : All2 R [] []
 | cons {a b as bs} : R a b → All2 R as bs → All2 R (a :: as) (b :: bs)
theorem All2.append {α β : Type} {R : α → β → Prop} {as as' : List α} {bs bs' : List β} (x : All2 R as bs) (y : All2 R as' bs') : All2 R (as ++ as') (bs ++ bs') := by
 induction x with
 | nil => exact y
 | cons h _ ih => exact .cons h ih
theorem All2.length {α β : Type} {R : α → β → Prop} {as : List α} {bs : List β} (x : All2 R as bs) : as.length = bs.length := by
 induction x with
 | nil => rfl
 | cons _ _ ih => rw [ay, ay, ih]
theorem All2.imp {α β : Type} {R S : α → β → Prop} (f : ∀ a b, R a b → S a b) {as : List α} {bs : List β} (x : All2 R as bs) : All2 S as bs := by
 induction x with
 | nil => exact .nil
 | cons h _ ih => exact .cons (f _ _ h) ih
theorem All2.get {α β : Type} {R : α → β → Prop} {as : List α} {bs : List β} (x : All2 R as bs) {i : Nat} {a : α} (h : as[i]? = some a) : ∃ b, bs[i]? = some b ∧ R a b := by
 induction x generalizing i with
 | nil => simp at h
 | cons hr _ ih =>
   cases i with
   | zero => simp at h; subst h; exact ⟨_, rfl, hr⟩
   | succ i => exact ih (by simpa using h)
theorem All2.map_r {α β β' : Type} {R : α → β → Prop} {S : α → β' → Prop} {f : β → β'} (g : ∀ a b, R a b → S a (f b)) {as : List α} {bs : List β} (x : All2 R as bs) : All2 S as (bs.map f) := by
 induction x with
 | nil => exact .nil
 | cons h _ ih => exact .cons (g _ _ h) ih
noncomputable def me (ρ : List VE) : List VE := ρ.map fun e => ⟨e.name, e.cel, if e.cel.isSome then e.val else none⟩
noncomputable def kF (w : World) (c : Cx) (env : Env) (own : List Addr) (ρ : List VE) (nw : Led) (m₀ : Mp) (P : Heap → Prop) (s : Shared) : Prop :=
 ∃ γ' m' ρ', m₀.le m' ∧ Kn m' P ∧ me ρ' = me ρ ∧ Bd w c γ' m' env own ρ' nw s
noncomputable def tK (w : World) (A : au) (env : Env) (elt target iter : Expr) (ifs : List Expr) (scope : Scope) (pos : Pos) (use : Option (Value → Sem Unit)) (E : VP) (Q : VP) (it : Value) (s : Shared) : Prop :=
 wpAny (model PG w) A (fh []) (fun acc s₃ => wpAny (model PG w) A (cU scope env.globals (ka (fun n => env.cells.lookup n) scope.names []) [] env.qual none .none (some env)) (fun cenv s₄ =>
     cf (model PG w) A (.compStart (.ListComp elt [⟨target, iter, ifs, 0⟩] scope pos) 0 it acc { cenv with scope := cb scope env }) (gf (model PG w) A E use Q acc cenv.locals) s₄) NoE s₃) NoE s
section
variable {w : World} {c : Cx} {γ γ' : Array aE} {m m' : Mp} {env cenv : Env} {own : List Addr} {ρ ρ' : List VE} {nw nw' : Led} {s s' : Shared} {A : au} {E : VP}
theorem Bd.forget (B : Bd w c γ m env own ρ nw s) : Bd w c γ m env own (me ρ) nw s := by
 have mem : ∀ e ∈ me ρ, ∃ e' ∈ ρ, e = ⟨e'.name, e'.cel, if e'.cel.isSome then e'.val else none⟩ := fun e he => by
   obtain ⟨e', h, rfl⟩ := mMa he; exact ⟨e', h, rfl⟩
 have V := B.vars; refine ⟨B.old, B.ok, B.low, B.gr, B.ble, B.os, B.gens, B.gpre, B.bare, ⟨V.kind, V.glob, V.bltn, V.loc, ?_, fun e he hc => ?_, fun e he a ha => ?_, ?_, ?_⟩, fun e he a ha => ?_, B.caps, B.ownok, B.ledok, B.nodup, B.out⟩
 · obtain ⟨mp, hn, hm⟩ := V.ns; refine ⟨mp, hn, fun e he hc v hv => ?_⟩; obtain ⟨e', h, rfl⟩ := mem e he; simp only at hc hv; rw [hc] at hv; simp at hv
 · obtain ⟨e', h, rfl⟩ := mem e he; exact V.kl e' h hc
 · obtain ⟨e', h, rfl⟩ := mem e he; obtain ⟨y1, y2, y3, v, y4, y5⟩ := V.kc e' h a ha; refine ⟨y1, y2, y3, v, y4, fun u hu => ?_⟩; have : e'.cel.isSome = true := by have : e'.cel = some a := ha; rw [this]; rfl
   simp only [this, if_true] at hu; exact y5 u hu
 · rw [me, aT]; exact V.names
 · rw [me, c7]; exact V.cels
 obtain ⟨e', h, rfl⟩ := mem e he; exact B.cin e' h a ha
theorem lJ {scope : Scope} {ce : List VE} (B : Bd w c γ m env own ρ nw s) (hce : ∀ e ∈ ce, e ∈ ρ ∧ ∃ a, e.cel = some a) (hf : oN scope ce = true) : closureFor scope env = pure (ka (fun n => env.cells.lookup n) scope.names []) := by
 refine ql fun x hx hfr => ?_; have := aA.mp hf x hx; rw [hfr] at this; simp at this
 obtain ⟨e, he, hn⟩ := this; obtain ⟨h1, a, h2⟩ := hce e he; refine x03 (B.vars.kc e h1 a h2) fun _ y2 _ => ?_; exact ⟨a, by rw [← hn]; exact y2⟩
theorem lc_eval {elt target iter : Expr} {ifs : List Expr} {scope : Scope} {pos : Pos} {Q : VP} (B : Bd w c γ m env own ρ nw s) (ce : List VE)
   (hce : ∀ e ∈ ce, e ∈ ρ ∧ ∃ a, e.cel = some a) (hf : oN scope ce = true) (hk : scope.kind = .function) (hnm : (scope.names.all fun z => z.2 != .local || scope.names.lookup z.1 == some .local) = true)
   (h : wpAny (model PG w) A (eval iter env) (fun x s₁ => wpAny (model PG w) A (cC x) (fun it s₂ => tK w A env elt target iter ifs scope pos none E Q it s₂) NoE s₁) NoE s)
   (hs : ∀ x, bA iter env x = pure x := by intro _; rfl) : wpAny (model PG w) A (eval (.ListComp elt [⟨target, iter, ifs, 0⟩] scope pos) env) Q E s := by
 rw [eval_ListComp]; refine ek (use := none) rfl hs (lJ B hce hf) hk (fun z hz hl => ?_) (noE (am h (fun xv s₁ h₁ => noE (am h₁ (fun it s₂ h₂ => ?_) fun _ _ e => e)) fun _ _ e => e))
 · have := aA.mp hnm z hz; rw [hl] at this; simpa using this
 exact noE (am h₂ (fun _ _ h₃ => noE h₃) fun _ _ e => e)
theorem swaps_t {elt : Expr} {gens : List em} {scope : Scope} {pos : Pos} {y : Str} {py spos : Pos} (V : Vars env own s.heap ρ) (hy : env.kindOf y = some .local)
   (h : (py.line == (eM elt gens scope pos).pos.line && !(scope.names.any fun (n, k) => n == y && (k == .local || k == .cell))) = true) :
   swapsWith (.ListComp elt gens scope pos) (some (.Name y py)) spos.line env = pure true := by
 have hb : env.blockKind = .function := by unfold Env.blockKind; rw [V.kind]; rfl
 show (pure (env.blockKind == .function && env.kindOf y == some .local && py.line == (eM elt gens scope pos).pos.line && !(scope.names.any fun (n, k) => n == y && (k == .local || k == .cell))) : Sem Bool) = pure true
 rw [hb, hy, Bool.and_assoc, h]; rfl
theorem swaps_f {elt : Expr} {gens : List em} {scope : Scope} {pos : Pos} {y : Str} {py spos : Pos} {k : br} (V : Vars env own s.heap ρ) (hy : env.kindOf y = some k) (hk : (k == .local) = false) :
   swapsWith (.ListComp elt gens scope pos) (some (.Name y py)) spos.line env = pure false := by
 show (pure (env.blockKind == .function && env.kindOf y == some .local && py.line == (eM elt gens scope pos).pos.line && !(scope.names.any fun (n, k) => n == y && (k == .local || k == .cell))) : Sem Bool) = pure false
 have : (some k == some br.local) = false := by cases k <;> first | rfl | (exact absurd hk (by decide))
 rw [hy, this, cQ, cP, cP]
theorem lc_assign {elt target iter : Expr} {ifs : List Expr} {scope : Scope} {pos py spos : Pos} {y : Str} {Q : Flow → Shared → Prop} (B : Bd w c γ m env own ρ nw s) (ce : List VE)
   (hce : ∀ e ∈ ce, e ∈ ρ ∧ ∃ a, e.cel = some a) (hf : oN scope ce = true) (hk : scope.kind = .function) (hnm : (scope.names.all fun z => z.2 != .local || scope.names.lookup z.1 == some .local) = true)
   (hy : env.kindOf y = some .local) (hsw : (py.line == (eM elt [⟨target, iter, ifs, 0⟩] scope pos).pos.line && !(scope.names.any fun (n, k) => n == y && (k == .local || k == .cell))) = true)
   (h : wpAny (model PG w) A (eval iter env) (fun x s₁ => wpAny (model PG w) A (cC x) (fun it s₂ => tK w A env elt target iter ifs scope pos (some (bM (.Name y py) env)) E (fun _ s' => Q .next s') it s₂) NoE s₁) NoE s)
   (hs : ∀ x, bA iter env x = pure x := by intro _; rfl) : wpAny (model PG w) A (exec (.Assign [.Name y py] (.ListComp elt [⟨target, iter, ifs, 0⟩] scope pos) spos) env) Q E s := by
 rw [exec_Assign_Name_used _ _ _ _ (swaps_t B.vars hy hsw)]; refine ai (bP (ai ?_)); show wpAny _ A (do let _ ← comprehension (.ListComp elt [⟨target, iter, ifs, 0⟩] scope pos) scope env _ (fh []) false (eval iter env) (some (bM (.Name y py) env))) _ _ s
 refine ai (am (ek (use := some (bM (.Name y py) env)) (Q := fun _ s' => Q .next s') rfl hs (lJ B hce hf) hk (fun z hz hl => ?_)
   (noE (am h (fun xv s₁ h₁ => noE (am h₁ (fun it s₂ h₂ => ?_) fun _ _ e => e)) fun _ _ e => e))) (fun _ s' hq => aP (aP hq)) fun _ _ e => e)
 · have := aA.mp hnm z hz; rw [hl] at this; simpa using this
 exact noE (am h₂ (fun _ _ h₃ => noE h₃) fun _ _ e => e)
theorem nE {elt : Expr} {gens : List em} {scope : Scope} {pos py spos : Pos} {y : Str} {k : br} {Q : Flow → Shared → Prop} (B : Bd w c γ m env own ρ nw s)
   (hy : env.kindOf y = some k) (hk : (k == .local) = false)
   (h : wpAny (model PG w) A (eval (.ListComp elt gens scope pos) env) (fun v s₁ => wpAny (model PG w) A (iP env y v) (fun _ => Q .next) E s₁) E s) :
   wpAny (model PG w) A (exec (.Assign [.Name y py] (.ListComp elt gens scope pos) spos) env) Q E s :=
 eK h (swaps_f B.vars hy hk)
theorem jT {a : Addr} {h h' : Heap} (x : c0 a h h') : ∀ b o, b ≠ a → h.get? b = some o → h'.get? b = some o := fun b o hb e => x.extBut b o hb e
section
variable {elt target iter : Expr} {ifs : List Expr} {scope : Scope} {pos : Pos} {I : Addr} {n : Nat} {V : VH}
theorem rq {t0 : Nat} {R : Value → Addr → fz → Shared → Prop} (B : Bd w c γ m env own ρ nw s) (T : Src w A target c m own nw I n V s) (ht : t0 ≤ s.toks) (ce : List VE) (ns : List Str) (p : Nat → Bool) (W : VH)
   (ok : CompOk scope ns ce ρ) (hz : n ≤ aS)
   (turn : ∀ i v c1 cenv L γ m1 nw1 s, i < n → t0 ≤ s.toks → EnvOf cenv (cb scope env) L (ka (fun n => env.cells.lookup n) scope.names []) → m.le m1 → V i v s.heap → (∀ q ∈ nw, q ∈ nw1) →
     Bd w c1 γ m1 cenv [L] (ns.map (fun n => ⟨n, none, none⟩) ++ ce) nw1 s →
     wpAny (model PG w) A (bM target cenv v) (fun _ s₂ => wpAny (model PG w) A (kz ifs cenv) (fun ok s₃ =>
         ok = p i ∧ if ok = true then wpAny (model PG w) A (eval elt cenv) (fun x s₄ => kF w c1 cenv [L] (ns.map (fun n => ⟨n, none, none⟩) ++ ce) nw1 m1 (W i x) s₄) NoE s₃
         else kF w c1 cenv [L] (ns.map (fun n => ⟨n, none, none⟩) ++ ce) nw1 m1 (fun _ => True) s₃) NoE s₂) NoE s)
   (fin : ∀ γ' m' xs L acc s', m.le m' → All2 (fun x i => Kn m' (W i x)) xs ((ae n).filter p) → Bd w c γ' m' env own ρ ((L, NsO) :: (acc, jB xs) :: nw) s' → R (.ref acc) L (.ok .next) s') :
   wpAny (model PG w) A (fh []) (fun acc s₃ => wpAny (model PG w) A (cU scope env.globals (ka (fun n => env.cells.lookup n) scope.names []) [] env.qual none .none (some env)) (fun cenv s₄ =>
     cf (model PG w) A (.compStart (.ListComp elt [⟨target, iter, ifs, 0⟩] scope pos) 0 (.ref I) acc { cenv with scope := cb scope env }) (R acc cenv.locals) s₄) NoE s₃) NoE s := by
 refine x45 T fun fp gw St wr T hfp hgw hst hpr => ?_; have hforg : me (ns.map (fun n => (⟨n, none, none⟩ : VE)) ++ ce) = ns.map (fun n => ⟨n, none, none⟩) ++ ce := by
   unfold me; rw [aM, aT]; congr 1
   conv => rhs; rw [← eR ce]
   refine bW fun e he => ?_; obtain ⟨_, a, ha⟩ := ok.hce e he; cases e with
   | mk nm cl vl => simp only at ha; subst ha; rfl
 refine comp_core (t0 := t0) (ns := ns) (ce := ce) B T (fun i xs m1 ρ' nw' => ρ' = ns.map (fun n => ⟨n, none, none⟩) ++ ce ∧ nw' = nw ∧ xs.length ≤ i ∧ All2 (fun x j => Kn m1 (W j x)) xs ((ae i).filter p)) ok hfp hgw ht hst hpr ?_ ⟨rfl, rfl, be _, .nil⟩ ?_
 · rintro i v c1 cenv L acc γ m1 ρ' xs nw' s hi htk hE ⟨rfl, rfl, hlen, hxs⟩ hm hv B; refine am (turn i v c1 cenv L γ m1 _ s hi htk hE hm hv (fun q hq => .tail _ hq) B) (fun _ s₂ h₂ => am h₂ (fun ok s₃ h₃ => ?_) fun _ _ e => e) fun _ _ e => e; obtain ⟨rfl, h₃⟩ := h₃; have hr : (ae (i + 1)).filter p = (ae i).filter p ++ if p i = true then [i] else [] := by
     rw [eV, cI]; congr 1
     rw [bH]; split <;> simp
   by_cases hp : p i = true
   · rw [if_pos hp] at h₃ ⊢; refine am h₃ (fun x s₄ h₄ => ?_) fun _ _ e => e; refine x34 h₄ fun γ' m' ρ' h1 h2 h3 h4 => ?_; refine ⟨γ', m', _, nw', by exact a1 hz hi hlen, ⟨rfl, rfl, by simp; exact hlen, ?_⟩, hm.trans h1, by rw [← hforg, ← h3]; exact h4.forget⟩; rw [hr, if_pos hp]; exact (hxs.imp fun _ _ k => k.up h1).append (.cons h2 .nil)
   rw [if_neg hp] at h₃ ⊢; refine x34 h₃ fun γ' m' ρ' h1 h2 h3 h4 => ?_; refine ⟨γ', m', _, nw', ⟨rfl, rfl, by exact a0 hlen, ?_⟩, hm.trans h1, by rw [← hforg, ← h3]; exact h4.forget⟩; rw [hr, if_neg hp, bE]; exact hxs.imp fun _ _ k => k.up h1
 rintro γ' m' ρ' xs nw' L acc s' ⟨rfl, rfl, _, hxs⟩ hm B; exact fin γ' m' xs L acc s' hm hxs B
theorem lc_go {Q : VP} (B : Bd w c γ m env own ρ nw s) (T : Src w A target c m own nw I n V s) (ce : List VE) (ns : List Str) (p : Nat → Bool) (W : VH)
   (ok : CompOk scope ns ce ρ) (hz : n ≤ aS)
   (turn : ∀ i v c1 cenv L γ m1 nw1 s, i < n → EnvOf cenv (cb scope env) L (ka (fun n => env.cells.lookup n) scope.names []) → m.le m1 → V i v s.heap → (∀ q ∈ nw, q ∈ nw1) →
     Bd w c1 γ m1 cenv [L] (ns.map (fun n => ⟨n, none, none⟩) ++ ce) nw1 s →
     wpAny (model PG w) A (bM target cenv v) (fun _ s₂ => wpAny (model PG w) A (kz ifs cenv) (fun ok s₃ =>
         ok = p i ∧ if ok = true then wpAny (model PG w) A (eval elt cenv) (fun x s₄ => kF w c1 cenv [L] (ns.map (fun n => ⟨n, none, none⟩) ++ ce) nw1 m1 (W i x) s₄) NoE s₃
         else kF w c1 cenv [L] (ns.map (fun n => ⟨n, none, none⟩) ++ ce) nw1 m1 (fun _ => True) s₃) NoE s₂) NoE s)
   (fin : ∀ γ' m' xs a s', m.le m' → Kn m' (At a (jB xs)) → All2 (fun x i => Kn m' (W i x)) xs ((ae n).filter p) → Bd w c γ' m' env own ρ nw s' → Q (.ref a) s') :
   tK w A env elt target iter ifs scope pos none E Q (.ref I) s := by
 refine rq (t0 := 0) (R := fun acc C => gf (model PG w) A E none Q acc C) B T (be _) ce ns p W ok hz (fun i v c1 cenv L γ m1 nw1 s hi _ => turn i v c1 cenv L γ m1 nw1 s hi) fun γ' m' xs L acc s' hm hxs B' => ?_; obtain ⟨mp, hn⟩ := NsO.ns (B'.at (.head _)); refine ⟨mp, hn, fun h' hs => ?_⟩; have B2 : Bd w c γ' m' env own ρ ((acc, jB xs) :: nw) ⟨h', s'.gens, s'.drawn, s'.toks, s'.os⟩ := B'.lose1 (jT hs); refine x13 B2.freeze fun m2 h1 h2 h3 => ?_; exact fin γ' m2 xs acc _ (hm.trans h1) h2 (hxs.imp fun _ _ k => k.up h1) h3
theorem lc_go_to {Q : VP} {y : Str} {py : Pos} (B : Bd w c γ m env own ρ nw s) (T : Src w A target c m own nw I n V s) (ce : List VE) (ns : List Str) (p : Nat → Bool) (W : VH)
   (ok : CompOk scope ns ce ρ) (hz : n ≤ aS)
   (hput : Hn y none ρ)
   (turn : ∀ i v c1 cenv L γ m1 nw1 s, i < n → EnvOf cenv (cb scope env) L (ka (fun n => env.cells.lookup n) scope.names []) → m.le m1 → V i v s.heap → (∀ q ∈ nw, q ∈ nw1) →
     Bd w c1 γ m1 cenv [L] (ns.map (fun n => ⟨n, none, none⟩) ++ ce) nw1 s →
     wpAny (model PG w) A (bM target cenv v) (fun _ s₂ => wpAny (model PG w) A (kz ifs cenv) (fun ok s₃ =>
         ok = p i ∧ if ok = true then wpAny (model PG w) A (eval elt cenv) (fun x s₄ => kF w c1 cenv [L] (ns.map (fun n => ⟨n, none, none⟩) ++ ce) nw1 m1 (W i x) s₄) NoE s₃
         else kF w c1 cenv [L] (ns.map (fun n => ⟨n, none, none⟩) ++ ce) nw1 m1 (fun _ => True) s₃) NoE s₂) NoE s)
   (fin : ∀ γ' m' xs a ρ' s', m.le m' → Kn m' (At a (jB xs)) → All2 (fun x i => Kn m' (W i x)) xs ((ae n).filter p) → PutV y none (.ref a) ρ ρ' → Bd w c γ' m' env own ρ' nw s' → Q .none s') :
   tK w A env elt target iter ifs scope pos (some (bM (.Name y py) env)) E Q (.ref I) s := by
 refine rq (t0 := 0) (R := fun acc C => gf (model PG w) A E (some (bM (.Name y py) env)) Q acc C) B T (be _) ce ns p W ok hz (fun i v c1 cenv L γ m1 nw1 s hi _ => turn i v c1 cenv L γ m1 nw1 s hi) fun γ' m' xs L acc s' hm hxs B' => ?_; show wpAny _ A (bM (.Name y py) env (.ref acc)) _ _ _
 refine af (r_storeO B' hput (fun _ h => nomatch h) fun ρ' s'' hV B2 => ?_); obtain ⟨mp, hn⟩ := NsO.ns (B2.at (.head _)); refine ⟨mp, hn, fun h' hs => ?_⟩; have B3 := B2.lose1 (h' := h') (d := s''.drawn) (tk := s''.toks) (jT hs); refine x13 B3.freeze fun m2 h1 h2 h3 => ?_; exact fin γ' m2 xs acc ρ' _ (hm.trans h1) h2 (hxs.imp fun _ _ k => k.up h1) hV h3
end
theorem kU {Q : Bool → Shared → Prop} (h : Q true s) : wpAny (model PG w) A (kz [] env) Q E s := aP h
theorem tests_one {e : Expr} {Q : Bool → Shared → Prop} (h : wpAny (model PG w) A (isTrue e env (eval e env)) Q E s) : wpAny (model PG w) A (kz [e] env) Q E s := by
 unfold kz; rw [eW]; refine ai ?_; rw [if_pos rfl]; refine ai (am h (fun b s₁ q => aP ?_) fun _ _ e => e); exact aP q
theorem kE {elts : List Expr} {k : Nat} {p : Pos} {T : Addr} {vals : Array Value} {Q : Unit → Shared → Prop} (B : Bd w c γ m env own ρ nw s) (hh : A.handled = none) (ht : s.heap.IsTuple T vals) (hn : (fH elts env).length = vals.size) (hstar : (fH elts env).findIdx? (·.1) = none)
   (h : ∀ s', Bd w c γ m env own ρ nw s' → wpAny (model PG w) A (hJ ((fH elts env).map (·.2)) vals.toList) Q E s') : wpAny (model PG w) A (bM (.Tuple elts k p) env (.ref T)) Q E s := by
 refine wpAny_assign_Tuple hh ht hn hstar fun h' he => h _ (B.grow fun a o e => he a o (ci (aJ e)) e)
theorem as_list {elts : List Expr} {k : Nat} {p : Pos} {T : Addr} {vs : List Value} {Q : Unit → Shared → Prop} (B : Bd w c γ m env own ρ nw s) (hh : A.handled = none) (ht : At T (jB vs) s.heap) (hn : (fH elts env).length = vs.length) (hstar : (fH elts env).findIdx? (·.1) = none)
   (h : ∀ s', Bd w c γ m env own ρ nw s' → wpAny (model PG w) A (hJ ((fH elts env).map (·.2)) vs) Q E s') : wpAny (model PG w) A (bM (.Tuple elts k p) env (.ref T)) Q E s := by
 rw [arm_assign_Tuple]; refine ai (bP ?_); unfold unpack; rw [hn, hstar]; have hl := ht.list; have := kun_itemsOf (prog := PG) (w := w) (A := A) (E := E) (s := s) (Q := fun vs s => wpAny (model PG w) A (hJ ((fH elts env).map (·.2)) vs) Q E s) hh hl fun h' he => by
   have := h _ (B.grow (h' := h') (d := s.drawn) (t := s.toks) fun a o e => he a o (ci (aJ e)) e); simpa using this
 simp only [dm] at this; exact ai (dg this)
theorem Bd.ko {a : Addr} {P : Obj → Prop} (B : Bd w c γ m env own ρ nw s) (k : Kn m (At a P)) : ∃ o, m a = some o ∧ P o := by
 cases e : m a with
 | some o =>
   refine x12 (k _ B.ok) fun o' ho' hP => ?_; have := B.ok a o e; rw [ho'] at this; cases this
   exact ⟨_, rfl, hP⟩
 | none =>
   exfalso
   have hA := k ⟨s.heap.objs.setIfInBounds a ⟨.none, none, .freed, #[]⟩, s.heap.life⟩ (fun b o hb => by
     have hne : b ≠ a := fun q => by rw [q, e] at hb; cases hb
     have := B.ok b o hb; unfold hZ at this ⊢; simp only [Array.getElem?_setIfInBounds_ne (Ne.symm hne)]; exact this)
   refine x12 hA fun o ho _ => ?_; unfold hZ at ho; simp only [Array.getElem?_setIfInBounds_self] at ho; split at ho
   · cases ho
   split at ho
   · rename_i q h
     rw [if_pos h] at q; exact q _ _ _ rfl
   simp_all
end
end
section
noncomputable def initC (names : List (Str × br)) (ns cn : List Str) (binds : List (Str × Value)) (L : Addr) : List VE :=
 ns.map (fun n => ⟨n, none, bindL (fun x => names.lookup x) binds (fun _ => none) n⟩) ++ cn.map (fun n => ⟨n, (cr (L + 1) names []).lookup n, bindC (fun x => names.lookup x) binds (fun _ => none) n⟩)
section
variable {w : World} {m : Mp} {nw : Led} {s : Shared} {A : au} {E : VP} {Q : VP}
theorem enterCF {d u : Nat} {f : Addr} {vals : List Value} {oc : Value} {od : Option Addr} {osl : Array (Option Value)} {fd : gU} {body : List Stmt} {binds : List (Str × Value)} {ns cn : List Str} {ρ₀ : Addr → List VE} {own₀ : Addr → List Addr}
   (R : Rm A (d + 1) (u + 3)) (b : Bef w m s) (l : LedOk m s nw)
   (ho : (KH w.params).lookup f = some ⟨oc, od, .func fd, osl⟩) (hcd : codeIn (KH w.params) fd.code fd.qualname = true) (hbody : fd.body = .stmts body)
   (hbind : iz fd ⟨vals, []⟩ = pure binds) (hcl : fd.closure = []) (hgl : fd.globals = bS) (hbl : fd.builtins = ca) (hco : fd.scope.isCoroutine = false) (hgen : fd.scope.isGenerator = false) (hk : fd.scope.kind = .function)
   (hkind : (binds.all fun x => fd.scope.names.lookup x.1 == some .local || (fd.scope.names.lookup x.1 == some .cell && cn.contains x.1)) = true)
   (hns : (ns.all fun n => fd.scope.names.lookup n == some .local) = true) (hcn : (cn.all fun n => fd.scope.names.lookup n == some .cell) = true) (hnd : (ns ++ cn).Nodup)
   (hown : ∀ L, L :: cn.filterMap (fun n => (cr (L + 1) fd.scope.names []).lookup n) = own₀ L) (hlen : ∀ L, (own₀ L).length = cn.length + 1) (hρ : ∀ L, initC fd.scope.names ns cn binds L = ρ₀ L)
   (h : ∀ (A' : au) (env : Env) (L : Addr) (c : Cx) (s' : Shared), A' = A.deeper env → env.frame = some L → EnvOf env fd.scope L (cr (L + 1) fd.scope.names []) → Rm A' d u → c = ⟨Mp.of s.heap (nw.map (·.1)), [], m, s.gens, s.os⟩ → Bd w c s.gens m env (own₀ L) (ρ₀ L) nw s' → (∀ a o, s.heap.get? a = some o → a < L) →
     wpAny (model PG w) A' (execs body env) (fun fl s' => Q (match fl with | .ret v => v | _ => .none) s') (fun _ _ => False) s') :
   wpAny (model PG w) A (call (.ref f) vals) Q E s := by
 have G := b.gr _ b.ok; have full : ∀ L, ∀ n ∈ cn, ((cr (L + 1) fd.scope.names []).lookup n).isSome = true := fun L n hn => by
   have h1 := hlen L; rw [← hown L, ay] at h1; have : ∀ l : List Str, (l.filterMap (fun n => (cr (L + 1) fd.scope.names []).lookup n)).length ≤ l.length := fun l => List.length_filterMap_le _ _; have go : ∀ l : List Str, (l.filterMap (fun n => (cr (L + 1) fd.scope.names []).lookup n)).length = l.length → ∀ n ∈ l, ((cr (L + 1) fd.scope.names []).lookup n).isSome = true := by
     intro l; induction l with
     | nil => intro _ n hn; cases hn
     | cons x r ih =>
       intro he n hn; rw [b7] at he; cases hx : (cr (L + 1) fd.scope.names []).lookup x with
       | none =>
         rw [hx] at he; have := this r; simp only [ay] at he; (first | lia | omega)
       | some c =>
         rw [hx] at he; rcases mCo hn with rfl | hn
         · rw [hx]; rfl
         exact ih (by simpa using he) n hn
   exact go cn (by (first | lia | omega)) n hn
 refine eZ (codeAny_call_cells (fd := fd) (body := body) (binds := binds) (by have := R.depth; exact a2 this) (G.k _ _ ho) rfl G.nolim (jg G.k hcd) hbody hbind hcl ?_ (fun s₁ X => ?_) hco hgen hk)
 · intro x hx; have := aA.mp hkind x hx; simp only [cA, co, beq_iff_eq] at this; rcases this with h | ⟨h, hc⟩
   · exact .inl h
   exact .inr ⟨h, full _ _ (by simpa using hc)⟩
 obtain ⟨⟨⟨h', tk, e⟩, hns₁, hk₁, hfr⟩, hcell, hap, hab⟩ := X; generalize hL : s.heap.objs.size = L at *
 refine am (h _ (callEnvC fd L f) L _ s₁ rfl rfl ⟨rfl, rfl, rfl⟩ R.deeper rfl ?_ fun a o e => hL ▸ aJ e) (fun _ _ q => q) (fun _ _ x => x.elim); have old_get : ∀ a o, (Mp.of s.heap (nw.map (·.1))) a = some o → s.heap.get? a = some o := fun a o e => (Mp.of_get e).1; have fresh : ∀ a : Addr, L ≤ a → s.heap.get? a = none := fun a ha => by
   cases e : s.heap.get? a with
   | none => rfl
   | some o => exact absurd (aJ e) (fB.mpr (by rw [hL]; exact ha))
 have e1 : s₁.os = s.os := by rw [e]
 have e2 : s₁.gens = s.gens := by rw [e]
 have mem : ∀ x ∈ initC fd.scope.names ns cn binds L, (∃ n ∈ ns, x = ⟨n, none, bindL (fun x => fd.scope.names.lookup x) binds (fun _ => none) n⟩) ∨ (∃ n ∈ cn, x = ⟨n, (cr (L + 1) fd.scope.names []).lookup n, bindC (fun x => fd.scope.names.lookup x) binds (fun _ => none) n⟩) := fun x hx => by
   rcases mAp hx with hx | hx
   · obtain ⟨n, hn, rfl⟩ := mMa hx; exact .inl ⟨n, hn, rfl⟩
   obtain ⟨n, hn, rfl⟩ := mMa hx; exact .inr ⟨n, hn, rfl⟩
 have cok : ∀ n c, (cr (L + 1) fd.scope.names []).lookup n = some c → s₁.heap.IsCell c (bindC (fun x => fd.scope.names.lookup x) binds (fun _ => none) n) ∧ L < c := fun n c hc => ⟨hcell n c hc, hab n c (mem_of_lookup hc)⟩; have nd2 := hnd; rw [aH] at nd2; have cnd : (cn.filterMap fun n => (cr (L + 1) fd.scope.names []).lookup n).Nodup := by
   have : ∀ l : List Str, l.Nodup → (l.filterMap fun n => (cr (L + 1) fd.scope.names []).lookup n).Nodup := by
     intro l; induction l with
     | nil => intro _; exact .nil
     | cons x r ih =>
       intro hl; rw [b7]; cases hx : (cr (L + 1) fd.scope.names []).lookup x with
       | none => exact ih (aB.mp hl).2
       | some c =>
         refine aB.mpr ⟨fun hm => ?_, ih (aB.mp hl).2⟩; refine x12 (bQ.mp hm) fun y hy hyc => ?_; have := name_of_addr hap (mem_of_lookup hx) (mem_of_lookup hyc); exact (aB.mp hl).1 (this ▸ hy)
   exact this cn nd2.2.1
 have ownge : ∀ a ∈ own₀ L, L ≤ a ∧ ∃ o, s₁.heap.get? a = some o := fun a ha => by
   rw [← hown L] at ha; rcases mCo ha with rfl | ha
   · refine x32 hns₁ fun o _ _ ho' _ => ?_; exact ⟨ap _, o, ho'⟩
   refine x12 (bQ.mp ha) fun n hn hc => ?_; obtain ⟨⟨o, ho, _⟩, hlt⟩ := cok n a hc; exact ⟨bD hlt, o, ho⟩
 refine ⟨fun a o e => hk₁ a o (old_get a o e), fun a o e => hk₁ a o (b.ok a o e), fun _ _ _ => rfl, b.gr, .rfl, e1, e2, fun _ _ e => e, b.bare, ?_, ?_, fun _ h => (nomatch h), ?_, ?_, ?_, ?_⟩
 · rw [← hρ L]; refine ⟨hk, hgl, hbl, ?_, ⟨_, hns₁, fun x hx hc v hv => ?_⟩, fun x hx hc => ?_, fun x hx c hc => ?_, ?_, ?_⟩
   · rw [← hown L]; exact .head _
   · rcases mem x hx with ⟨n, hn, rfl⟩ | ⟨n, hn, rfl⟩
     · exact hv
     have := full L n hn; simp only at hc; rw [hc] at this; cases this
   · rcases mem x hx with ⟨n, hn, rfl⟩ | ⟨n, hn, rfl⟩
     · have := aA.mp hns n hn; show fd.scope.names.lookup n = _
       simpa using this
     have := full L n hn; simp only at hc; rw [hc] at this; cases this
   · rcases mem x hx with ⟨n, hn, rfl⟩ | ⟨n, hn, rfl⟩
     · cases hc
     have hkd := aA.mp hcn n hn; obtain ⟨h1, h2⟩ := cok n c hc; refine ⟨.inl (show fd.scope.names.lookup n = _ by simpa using hkd), hc, fun q => ?_, _, h1, fun u hu => hu⟩
     have : c = L := q; rw [this] at h2; exact bB _ h2
   · unfold initC; rw [aM, aT, aT]; show ((ns.map fun n => n) ++ (cn.map fun n => n)).Nodup
     rw [cZ, cZ]; exact hnd
   unfold initC; rw [fW, c7, c7]; have e : (ns.filterMap ((fun (e : VE) => e.cel) ∘ fun n => (⟨n, none, bindL (fun x => fd.scope.names.lookup x) binds (fun _ => none) n⟩ : VE))) = [] := by
     rw [dk]; intro a _; rfl
   rw [e, bi]; exact cnd
 · rw [← hρ L]; intro x hx a ha; rcases mem x hx with ⟨n, hn, rfl⟩ | ⟨n, hn, rfl⟩
   · cases ha
   left
   rw [← hown L]; exact .tail _ (bQ.mpr ⟨n, hn, ha⟩)
 · exact fun a ha => (ownge a ha).2
 · intro p hp; refine x12 (l.ok p hp) fun o ho' q => ?_; exact ⟨o, hk₁ _ _ ho', q⟩
 · rw [aH]; refine ⟨?_, l.nodup, fun x hx y hy e => ?_⟩
   · rw [← hown L]; refine aB.mpr ⟨fun hm => ?_, cnd⟩; refine x12 (bQ.mp hm) fun n hn hc => ?_; exact bB _ (cok n L hc).2
   subst e; refine x12 (mMa hy) fun p hp e => ?_; refine x12 (l.ok p hp) fun o ho' _ => ?_; rw [e, fresh x (ownge x hx).1] at ho'; cases ho'
 intro a ha; rcases mAp ha with ha | ha
 · refine ⟨?_, ?_⟩
   · cases e : m a with
     | none => rfl
     | some o => have := b.ok _ _ e; rw [fresh a (ownge a ha).1] at this; cases this
   show (Mp.of s.heap (nw.map (·.1))) a = none
   cases e : (Mp.of s.heap (nw.map (·.1))) a with
   | none => rfl
   | some o => have := old_get _ _ e; rw [fresh a (ownge a ha).1] at this; cases this
 obtain ⟨p, hp, rfl⟩ := mMa ha; exact ⟨l.out p hp, Mp.of_none (aF hp)⟩
theorem oR {d u : Nat} {f : Addr} {vals : List Value} {oc : Value} {od : Option Addr} {osl : Array (Option Value)} {fd : gU} {body : List Stmt} {binds : List (Str × Value)} {ns cn : List Str} {ρ₀ : Addr → List VE} {own₀ : Addr → List Addr}
   (R : Rm A (d + 1) (u + 3)) (b : Bef w m s) (l : LedOk m s nw)
   (ho : (KH w.params).lookup f = some ⟨oc, od, .func fd, osl⟩) (hcd : codeIn (KH w.params) fd.code fd.qualname = true) (hbody : fd.body = .stmts body)
   (hbind : iz fd ⟨vals, []⟩ = pure binds) (hcl : fd.closure = []) (hgl : fd.globals = bS) (hbl : fd.builtins = ca) (hco : fd.scope.isCoroutine = false) (hgen : fd.scope.isGenerator = false) (hk : fd.scope.kind = .function)
   (hkind : (binds.all fun x => fd.scope.names.lookup x.1 == some .local || (fd.scope.names.lookup x.1 == some .cell && cn.contains x.1)) = true)
   (hns : (ns.all fun n => fd.scope.names.lookup n == some .local) = true) (hcn : (cn.all fun n => fd.scope.names.lookup n == some .cell) = true) (hnd : (ns ++ cn).Nodup)
   (hown : ∀ L, L :: cn.filterMap (fun n => (cr (L + 1) fd.scope.names []).lookup n) = own₀ L) (hlen : ∀ L, (own₀ L).length = cn.length + 1) (hρ : ∀ L, initC fd.scope.names ns cn binds L = ρ₀ L)
   (h : ∀ (A' : au) (env : Env) (L : Addr) (c : Cx) (s' : Shared), EnvOf env fd.scope L (cr (L + 1) fd.scope.names []) → Rm A' d u → c = ⟨Mp.of s.heap (nw.map (·.1)), [], m, s.gens, s.os⟩ → Bd w c s.gens m env (own₀ L) (ρ₀ L) nw s' → (∀ a o, s.heap.get? a = some o → a < L) →
     wpAny (model PG w) A' (execs body env) (fun fl s' => Q (match fl with | .ret v => v | _ => .none) s') (fun _ _ => False) s') :
   wpAny (model PG w) A (call (.ref f) vals) Q E s := by
 refine enterCF R b l ho hcd hbody hbind hcl hgl hbl hco hgen hk hkind hns hcn hnd hown hlen hρ fun A' env L c s' _ _ h1 h2 h3 h4 h5 => h A' env L c s' h1 h2 h3 h4 h5
end
end
section
noncomputable def LI (a : Addr) (ns : List Int) (h : Heap) : Prop := ∃ vs, At a (jB vs) h ∧ d6 vs ns
noncomputable def LS (a : Addr) (ys : List Str) (h : Heap) : Prop := ∃ vs, At a (jB vs) h ∧ cg vs ys
noncomputable def Live (a : Addr) (h : Heap) : Prop := ∃ o, h.get? a = some o
theorem kD {vs : List Value} {ns : List Int} (h : d6 vs ns) : ∀ {i : Nat} {v : Value}, vs[i]? = some v → ∃ n t, ns[i]? = some n ∧ v = .int n t := by
 induction h with
 | nil => intro i v h; simp at h
 | cons n t r ih =>
   intro i v h; cases i with
   | zero => simp at h; exact ⟨n, t, rfl, h.symm⟩
   | succ i => simpa using ih (i := i) (by simpa using h)
theorem ints_get' {vs : List Value} {ns : List Int} (h : d6 vs ns) : ∀ {i : Nat} {n : Int}, ns[i]? = some n → ∃ t, vs[i]? = some (.int n t) := by
 induction h with
 | nil => intro i v h; simp at h
 | cons n t r ih =>
   intro i v h; cases i with
   | zero => simp at h; exact ⟨t, by simp [h]⟩
   | succ i => simpa using ih (i := i) (by simpa using h)
theorem j3 {vs : List Value} {ns : List Str} (h : cg vs ns) : ∀ {i : Nat} {v : Value}, vs[i]? = some v → ∃ n t, ns[i]? = some n ∧ v = .str n t := by
 induction h with
 | nil => intro i v h; simp at h
 | cons n t r ih =>
   intro i v h; cases i with
   | zero => simp at h; exact ⟨n, t, rfl, h.symm⟩
   | succ i => simpa using ih (i := i) (by simpa using h)
theorem mM {vs : List Value} {ns : List Str} (h : cg vs ns) : ∀ {i : Nat} {n : Str}, ns[i]? = some n → ∃ t, vs[i]? = some (.str n t) := by
 induction h with
 | nil => intro i v h; simp at h
 | cons n t r ih =>
   intro i v h; cases i with
   | zero => simp at h; exact ⟨t, by simp [h]⟩
   | succ i => simpa using ih (i := i) (by simpa using h)
theorem jM {vs : List Value} {ns : List Int} (h : d6 vs ns) : vs.length = ns.length := by
 induction h with
 | nil => rfl
 | cons n t r ih => exact congrArg (· + 1) ih
theorem qc {vs vs' : List Value} {ns ns' : List Int} (h : d6 vs ns) (k : d6 vs' ns') : d6 (vs ++ vs') (ns ++ ns') := by
 induction h with
 | nil => exact k
 | cons n t r ih => exact .cons n t ih
theorem jE {vs : List Value} {ns : List Str} (h : cg vs ns) : vs.length = ns.length := by
 induction h with
 | nil => rfl
 | cons n t r ih => exact congrArg (· + 1) ih
theorem kK {vs vs' : List Value} {ns ns' : List Str} (h : cg vs ns) (k : cg vs' ns') : cg (vs ++ vs') (ns ++ ns') := by
 induction h with
 | nil => exact k
 | cons n t r ih => exact .cons n t ih
section
variable {w : World} {c : Cx} {γ γ' : Array aE} {m m' : Mp} {env cenv : Env} {own : List Addr} {ρ ρ' : List VE} {nw nw' : Led} {s s' : Shared} {A : au} {E : VP}
theorem Bd.kl {a : Addr} (B : Bd w c γ m env own ρ nw s) (k : Kn m (Live a)) : ∃ o, m a = some o ∧ s.heap.get? a = some o := by
 refine x12 (B.ko (P := fun _ => True) (k.map fun h z1 => by obtain ⟨o, e⟩ := z1; exact ⟨o, e, trivial⟩)) fun o h _ => ?_; exact ⟨o, h, B.ok _ _ h⟩
theorem Bd.koI {a : Addr} {ns : List Int} (B : Bd w c γ m env own ρ nw s) (k : Kn m (LI a ns)) : ∃ vs, (∃ o, m a = some o ∧ jB vs o) ∧ d6 vs ns := by
 refine x12 (B.kl (k.map fun h z1 => by obtain ⟨vs, ⟨o, ho, _⟩, _⟩ := z1; exact ⟨o, ho⟩)) fun o h1 h2 => ?_; obtain ⟨vs, ⟨o', h3, h4⟩, h5⟩ := B.kn k; rw [h2] at h3; cases h3
 exact ⟨vs, ⟨o, h1, h4⟩, h5⟩
theorem Bd.koS {a : Addr} {ns : List Str} (B : Bd w c γ m env own ρ nw s) (k : Kn m (LS a ns)) : ∃ vs, (∃ o, m a = some o ∧ jB vs o) ∧ cg vs ns := by
 refine x12 (B.kl (k.map fun h z1 => by obtain ⟨vs, ⟨o, ho, _⟩, _⟩ := z1; exact ⟨o, ho⟩)) fun o h1 h2 => ?_; obtain ⟨vs, ⟨o', h3, h4⟩, h5⟩ := B.kn k; rw [h2] at h3; cases h3
 exact ⟨vs, ⟨o, h1, h4⟩, h5⟩
theorem Bd.ints {xs : List Value} {is : List Nat} {f : Nat → Int} (B : Bd w c γ m env own ρ nw s) (h : All2 (fun x i => Kn m (fun _ => ∃ t, x = .int (f i) t)) xs is) : d6 xs (is.map f) := by
 induction h with
 | nil => exact .nil
 | cons h _ ih => obtain ⟨t, rfl⟩ := B.kn h; exact .cons _ _ ih
theorem Bd.strs {xs : List Value} {is : List Nat} {f : Nat → Str} (B : Bd w c γ m env own ρ nw s) (h : All2 (fun x i => Kn m (fun _ => ∃ t, x = .str (f i) t)) xs is) : cg xs (is.map f) := by
 induction h with
 | nil => exact .nil
 | cons h _ ih => obtain ⟨t, rfl⟩ := B.kn h; exact .cons _ _ ih
theorem oX {P : Heap → Prop} {m₀ : Mp} (B : Bd w c γ m env own ρ nw s) (hm : m₀.le m) (hP : Kn m P) (hf : me ρ = me ρ') : kF w c env own ρ' nw m₀ P s := ⟨γ, m, ρ, hm, hP, hf, B⟩
theorem Slice_ {lower upper : Option Expr} {p : Pos} {Q : VP} {M : Model}
   (h : wpAny M A (evalPart lower env) (fun l s₁ => wpAny M A (evalPart upper env) (fun u s₂ => Q (.ref s₂.heap.objs.size) { s₂ with heap := s₂.heap.push { cls := .type "slice", data := .fields #[l, u, .none] } }) E s₁) E s) :
   wpAny M A (eval (.Slice lower upper none p) env) Q E s :=
 wpAny_Slice (am h (fun _ _ q => am q (fun _ _ q => wpAny_evalPart_none q) fun _ _ x => x) fun _ _ x => x)
theorem lF {value slice : Expr} {x : Str} {t : Tok} {vl vu : Value} {lo hi : Option Int} {Q : VP} (B : Bd w c γ m env own ρ nw s) (pl : IsPart vl lo) (pu : IsPart vu hi)
   (h : ∀ t' s', Bd w c γ m env own ρ nw s' → Q (.str (bk x lo hi) t') s') (hz : x.length ≤ aS)
   (hs : fq slice false (.str x t) (.ref s.heap.objs.size) = ix [.ref s.heap.objs.size, .str x t] (iy (.str x t) (.ref s.heap.objs.size)) := by with_unfolding_all rfl)
   (ht : ∀ r, gN value (.str x t) r = pure () := by intro _; with_unfolding_all rfl) :
   wpAny (model PG w) A (dU value slice (.str x t) (.ref s.heap.objs.size)) Q E { s with heap := s.heap.push { cls := .type "slice", data := .fields #[vl, vu, .none] } } := by
 have fin : ItemOn (model PG w) A E (.str x t) (.ref s.heap.objs.size) Q { s with heap := s.heap.push { cls := .type "slice", data := .fields #[vl, vu, .none] } } := by
   have hk : KeptH fun h' => ∀ a o, s.heap.get? a = some o → h'.get? a = some o := fun h' ob k a o e => dH _ (k a o e); cases pl with
   | none =>
     cases pu with
     | none => exact SBH.sliceItem_nn hk (fun _ _ e => e) (fun h' t' k k' => h t' _ (B.grow k')) hz
     | int i u => exact SBH.sliceItem_ns hk (fun _ _ e => e) (fun h' t' k k' => h t' _ (B.grow k')) hz
   | int i u =>
     cases pu with
     | none => exact SBH.sliceItem_sn hk (fun _ _ e => e) (fun h' t' k k' => h t' _ (B.grow k')) hz
     | int i u => exact SBH.sliceItem_ss hk (fun _ _ e => e) (fun h' t' k k' => h t' _ (B.grow k')) hz
 refine x23 fin fun T id h1 h2 h3 => ?_; exact subscriptTail_ops h2 h1 h3 hs ht
theorem qC {value slice : Expr} {x : Str} {t : Tok} {i : Int} {u : Tok} {Q : VP} (B : Bd w c γ m env own ρ nw s) (h0 : -(x.length : Int) ≤ i) (h1 : i < x.length) (hf : fitsSsize i = true)
   (h : ∀ t' s', Bd w c γ m env own ρ nw s' → Q (.str (dp x i) t') s')
   (hs : fq slice false (.str x t) (.int i u) = ix [.str x t, .int i u] (iy (.str x t) (.int i u)) := by with_unfolding_all rfl)
   (ht : ∀ r, gN value (.str x t) r = pure () := by intro _; with_unfolding_all rfl) :
   wpAny (model PG w) A (dU value slice (.str x t) (.int i u)) Q E s := item_str hf h0 h1 (fun _ => h _ _ (B.tk _ _)) hs ht
theorem j0 {value slice : Expr} {a : Addr} {vs : List Value} {i : Int} {u : Tok} {v : Value} {Q : VP} (hl : At a (jB vs) s.heap) (h0 : 0 ≤ i) (hz : i < 2 ^ 63) (hv : vs[i.toNat]? = some v) (h : Q v s)
   (hs : fq slice false (.ref a) (.int i u) = ix [.ref a, .int i u] (iy (.ref a) (.int i u)) := by with_unfolding_all rfl) :
   wpAny (model PG w) A (dU value slice (.ref a) (.int i u)) Q E s := item_listR hl.list h0 hz (by simpa using hv) h hs
theorem s_mul {x : Str} {n : Int} {t u : Tok} {Q : VP} (B : Bd w c γ m env own ρ nw s) (ho : MulOk x n) (h : ∀ t s', Bd w c γ m env own ρ nw s' → Q (.str (Txt.mul x n) t) s') :
   wpAny (model PG w) A (dv .Mult (.str x t) (.int n u)) Q E s := SB.mul ho fun t' k => h _ _ (B.tk _ _)
theorem oQ {i : Int} (h0 : -1000000 ≤ i) (h1 : i ≤ 1000000) : fitsSsize i = true := by
 unfold fitsSsize; have a : decide (i < -(2 ^ 63 : Int)) = false := decide_eq_false (a9 h0); have b : decide (i ≥ (2 ^ 63 : Int)) = false := decide_eq_false (a8 h1); rw [a, b]; rfl
theorem sb {x : Str} {i : Int} : (dp x i).length = 1 := rfl
theorem jz {x y : Str} : (x ++ y).length = x.length + y.length := by
 show (x.cps ++ y.cps).size = _
 rw [Array.size_append]; rfl
theorem t_item {value slice : Expr} {a : Addr} {vs : List Value} {i : Int} {u : Tok} {v : Value} {Q : VP} (hl : s.heap.IsTuple a vs.toArray) (h0 : 0 ≤ i) (hz : i < 2 ^ 63) (hv : vs[i.toNat]? = some v) (h : Q v s)
   (hs : fq slice false (.ref a) (.int i u) = ix [.ref a, .int i u] (iy (.ref a) (.int i u)) := by with_unfolding_all rfl)
   (ht : ∀ r, gN value (.ref a) r = pure () := by intro _; with_unfolding_all rfl) :
   wpAny (model PG w) A (dU value slice (.ref a) (.int i u)) Q E s := by
 have hlt : i.toNat < vs.length := by
   rw [aC] at hv; exact hv.1
 refine item_tuple (j := i.toNat) hl (a7 h0) hz ?_ (by simpa using hv) h hs ht; unfold seqIndex?; simp only [dm]; have e : i = (i.toNat : Int) := a6 h0
 rw [e]; split <;> rename_i hh
 · (first | lia | omega)
 first | rfl | (simp; exact a5 hlt)
theorem kC {value slice : Expr} {l : Addr} {vs : List Value} {vl vu : Value} {lo hi : Option Int} {Q : VP} (B : Bd w c γ m env own ρ nw s) (hl : At l (jB vs) s.heap) (pl : IsPart vl lo) (pu : IsPart vu hi)
   (h : ∀ a m' s', m.le m' → Kn m' (At a (jB (iQ vs.toArray lo hi none).toList)) → Bd w c γ m' env own ρ nw s' → Q (.ref a) s') (hz : vs.length ≤ aS)
   (hs : fq slice false (.ref l) (.ref s.heap.objs.size) = ix [.ref s.heap.objs.size, .ref l] (iy (.ref l) (.ref s.heap.objs.size)) := by with_unfolding_all rfl)
   (ht : ∀ r, gN value (.ref l) r = pure () := by intro _; with_unfolding_all rfl) :
   wpAny (model PG w) A (dU value slice (.ref l) (.ref s.heap.objs.size)) Q E { s with heap := s.heap.push { cls := .type "slice", data := .fields #[vl, vu, .none] } } := by
 have hl' := hl.list
 refine subscriptTail_ops (Heap.IsList.typeIs (s := { s with heap := s.heap.push { cls := .type "slice", data := .fields #[vl, vu, .none] } }) (hl'.push _)) list_getitem_lookup
   (wpAny_getItem_list_slice (hl'.push _) (Heap.IsSliceOf.new ..) pl pu .none (by simp) ?_ (by simpa using hz)) hs ht
 have B1 : Bd w c γ m env own ρ nw ⟨s.heap.push { cls := .type "slice", data := .fields #[vl, vu, .none] }, s.gens, s.drawn, s.toks, s.os⟩ := B.grow (jA _); exact h _ _ _ (B1.freshLe _) (fun _ ok => ⟨_, ok _ _ Mp.put_self, _, rfl⟩) (B1.pushK rfl)
theorem pQ {x y : Str} {t u : Tok} {Q : VP} (B : Bd w c γ m env own ρ nw s) (hy : (y.length == 0) = false)
   (hz : x.length ≤ aS) (hz2 : (de x (bj x y 0 x.length (x.length + 1)) y.length).length ≤ aS)
   (h : ∀ a m' s', m.le m' → Kn m' (LS a (cz x y)) → Bd w c γ m' env own ρ nw s' → Q (.ref a) s') : wpAny (model PG w) A (call (.builtin "str.split") [.str x t, .str y u]) Q E s := by
 have fin : ∀ (l : List (Str × Tok)) (k : Nat), l.map (·.1) = cz x y → Q (.ref s.heap.objs.size) ⟨s.heap.push { cls := .type "list", data := .seq (strValues l).toArray }, s.gens, s.drawn, k, s.os⟩ := fun l k hl => by
   refine h _ _ _ (B.freshLe _) (fun hp ok => ⟨strValues l, ⟨_, ok _ _ Mp.put_self, _, rfl⟩, ?_⟩) (B.pushK rfl); rw [← hl]; clear hl ok; induction l with
   | nil => exact .nil
   | cons p r ih => exact .cons p.1 p.2 ih
 cases h1 : (decide (x.length < y.length) || decide (iL x < iL y))
 · cases hf : (bj x y 0 x.length (x.length + 1)).isEmpty
   · refine ie iH (je _ _ _) il (g6 _ _) (meets_str_split_sep x y t u h1 hy hf hz hz2) ?_; show wants Q E _ { s with toks := _, heap := s.heap.push { cls := .type "list", data := .seq (strsFrom s.toks (de x (bj x y 0 x.length (x.length + 1)) y.length)).toArray } }
     rw [strsFrom_eq]; exact fin (numbered s.toks _) _ ((numbered_texts _ _).trans ((if_neg (ne_true_of_eq_false h1)).trans (if_neg (ne_true_of_eq_false hf))).symm)
   exact ie iH (je _ _ _) il (g6 _ _) (meets_str_split_not_found x y t u h1 hy hf) (fin [(x, t)] _ ((if_neg (ne_true_of_eq_false h1)).trans (if_pos hf)).symm)
 exact ie iH (je _ _ _) il (g6 _ _) (meets_str_split_cannot_occur x y t u h1) (fin [(x, t)] _ (if_pos h1).symm)
theorem mP {x : Str} {t : Tok} {D : Addr} {vs : List Value} {ys : List Str} {Q : VP} (B : Bd w c γ m env own ρ nw s) (hl : At D (jB vs) s.heap) (hs : cg vs ys) (hz : (ys.map (·.length)).sum + ys.length * x.length ≤ 16777216)
   (h : ∀ t s', Bd w c γ m env own ρ nw s' → Q (.str (dC x ys) t) s') : wpAny (model PG w) A (call (.builtin "str.join") [.str x t, .ref D]) Q E s :=
 join_list hl.list (by simpa using hs) hz fun t' k => h _ _ (B.tk _ _)
theorem gm_append {l : Addr} {vs : List Value} {pl : Sem Bool} {Q : Value × List Value → Shared → Prop} (hl : At l (jB vs) s.heap) (h : Q (.builtin "list.append", [.ref l]) s) : wpAny (model PG w) A (gb (.ref l) (aa "append") pl) Q E s := by
 obtain ⟨n, ho⟩ := hl.plain; exact Calls.getMethod_list_append ho rfl rfl h
theorem s_len {x : Str} {t : Tok} {Q : VP} (B : Bd w c γ m env own ρ nw s) (hz : x.length ≤ aS) (h : ∀ t s', Bd w c γ m env own ρ nw s' → Q (.int x.length t) s') : wpAny (model PG w) A (call (.builtin "len") [.str x t]) Q E s :=
 PyProof.Rows.len_str (by rw [aD] at hz; exact a4 hz) (h _ _ (B.tk _ _))
theorem p7 {l : Addr} {vs : List Value} {Q : VP} (B : Bd w c γ m env own ρ nw s) (hl : At l (jB vs) s.heap) (hz : vs.length ≤ aS) (h : ∀ t s', Bd w c γ m env own ρ nw s' → Q (.int vs.length t) s') : wpAny (model PG w) A (call (.builtin "len") [.ref l]) Q E s := by
 refine PyProof.Rows.len_list hl.list (by rw [aD] at hz; simp; exact a3 hz) ?_; simpa using h _ _ (B.tk _ _)
end
end
section
section
variable {w : World} {c : Cx} {γ γ' : Array aE} {m m' : Mp} {env cenv : Env} {own : List Addr} {ρ ρ' : List VE} {nw nw' : Led} {s s' : Shared} {A : au} {E : VP}
theorem for_goE {target : Expr} {I : Addr} {body orelse : List Stmt} {n : Nat} {V : VH} {Q : Flow → Shared → Prop} (B : Bd w c γ m env own ρ nw s) (T : Src w A target c m own nw I n V s) (Inv : Nat → Mp → List VE → Led → Prop)
   (h0 : Inv 0 m ρ nw)
   (turn : ∀ i v c1 γ m1 ρ nw s, i < n → Inv i m1 ρ nw → m.le m1 → V i v s.heap → Bd w c1 γ m1 env own ρ nw s → (∀ γ m ρ nw s, Bd w c1 γ m env own ρ nw s → Bd w c γ m env own ρ nw s) →
     wpAny (model PG w) A (bM target env v) (fun _ s₂ => wpAny (model PG w) A (execs body env) (fun f s₃ => match f with
       | .next => ∃ γ' m' ρ' nw', Inv (i + 1) m' ρ' nw' ∧ m1.le m' ∧ Bd w c1 γ' m' env own ρ' nw' s₃
       | .cont => ∃ γ' m' ρ' nw', Inv (i + 1) m' ρ' nw' ∧ m1.le m' ∧ Bd w c1 γ' m' env own ρ' nw' s₃
       | .brk => Q .next s₃
       | .ret v => Q (.ret v) s₃) (notedBy (model PG w) A env (fb (model PG w) A env E)) s₂) NoE s)
   (fin : ∀ γ m' ρ nw s, Inv n m' ρ nw → m.le m' → Bd w c γ m' env own ρ nw s → wpAny (model PG w) A (execs orelse env) Q NoE s) :
   cf (model PG w) A (.forLoop target (.ref I) body orelse env) (fun r s' => match r with | .ok f => Q f s' | .error e => fb (model PG w) A env E e s') s := by
 refine x45 T fun fp gw St wr T hfp hgw hst p => ?_; refine gZ (fun k s => Sit w c env own m n St 0 Inv k s) (fun k s hS => ?_) n (.mk wr 0 γ m ρ nw rfl (be _) (be _) h0 .rfl B hst p); refine noE (am (qa T hfp hgw hS (Y := fun v s₂ => wpAny (model PG w) A (bM target env v) (fun _ s₂ => wpAny (model PG w) A (execs body env) (fun f s₃ => match f with
       | .next => ∃ k', k' < k ∧ Sit w c env own m n St 0 Inv k' s₃
       | .cont => ∃ k', k' < k ∧ Sit w c env own m n St 0 Inv k' s₃
       | .brk => Q .next s₃
       | .ret v => Q (.ret v) s₃) (notedBy (model PG w) A env (fb (model PG w) A env E)) s₂) NoE s₂) ?_ fin) (fun r s₁ h => ?_) fun _ _ x => x)
 · intro i v c1 γ m1 ρ nw s' hlt _ hI hm hv B back tail; refine am (turn i v c1 γ m1 ρ nw s' hlt hI hm hv B back) (fun _ s₂ h2 => am h2 (fun f s₃ h3 => ?_) fun _ _ x => x) fun _ _ x => x; cases f with
   | next => refine x43 h3 fun γ' m' ρ' nw' hI' hm' B₃ => ?_; exact tail _ _ _ _ s₃ (be _) hI' (hm.trans hm') B₃
   | cont => refine x43 h3 fun γ' m' ρ' nw' hI' hm' B₃ => ?_; exact tail _ _ _ _ s₃ (be _) hI' (hm.trans hm') B₃
   | brk => exact h3
   | ret v => exact h3
 cases r with
 | none => exact noE h
 | some v =>
   refine noE (am h (fun _ s₂ h2 => noE (am h2 (fun _ s₃ h3 => am h3 (fun f s₄ h4 => ?_) fun _ _ x => x) fun _ _ x => x)) fun _ _ x => x); cases f <;> exact h4
theorem for_goC {target : Expr} {I : Addr} {body orelse : List Stmt} {n : Nat} {V : VH} {Q : Flow → Shared → Prop} (B : Bd w c γ m env own ρ nw s) (T : Src w A target c m own nw I n V s) (Inv : Nat → Mp → List VE → Led → Prop)
   (h0 : Inv 0 m ρ nw)
   (turn : ∀ i v c1 γ m1 ρ nw s, i < n → Inv i m1 ρ nw → m.le m1 → V i v s.heap → Bd w c1 γ m1 env own ρ nw s → (∀ γ m ρ nw s, Bd w c1 γ m env own ρ nw s → Bd w c γ m env own ρ nw s) →
     ∀ Qb : Flow → Shared → Prop, (∀ f s₃, (match f with
       | .next => ∃ γ' m' ρ' nw', Inv (i + 1) m' ρ' nw' ∧ m1.le m' ∧ Bd w c1 γ' m' env own ρ' nw' s₃
       | .cont => ∃ γ' m' ρ' nw', Inv (i + 1) m' ρ' nw' ∧ m1.le m' ∧ Bd w c1 γ' m' env own ρ' nw' s₃
       | .brk => Q .next s₃
       | .ret v => Q (.ret v) s₃) → Qb f s₃) →
     wpAny (model PG w) A (bM target env v) (fun _ s₂ => wpAny (model PG w) A (execs body env) Qb NoE s₂) NoE s)
   (fin : ∀ γ m' ρ nw s, Inv n m' ρ nw → m.le m' → Bd w c γ m' env own ρ nw s → wpAny (model PG w) A (execs orelse env) Q NoE s) :
   cf (model PG w) A (.forLoop target (.ref I) body orelse env) (fun r s' => match r with | .ok f => Q f s' | .error e => fb (model PG w) A env E e s') s :=
 for_goE B T Inv h0 (fun i v c1 γ m1 ρ nw s hi hI hm hv B hb => am (turn i v c1 γ m1 ρ nw s hi hI hm hv B hb _ fun _ _ x => x) (fun _ _ h => noE h) fun _ _ x => x) fin
theorem Bd.inter (B : Bd w c γ m env own ρ nw s) : interactive env = false := by
 unfold interactive; rw [B.vars.kind]; rfl
end
end
section
section
variable {x y : Str} {k k' : Option Addr} {v : Value} {u : Option Value} {ρ ρ' ρ₁ ρ₂ : List VE}
theorem PutV.new (p : PutV x k v ρ ρ') : (⟨x, k, some v⟩ : VE) ∈ ρ' := by
 induction p with
 | head => exact .head _
 | tail _ ih => exact .tail _ ih
theorem PutV.keep (p : PutV x k v ρ ρ') (hn : (y == x) = false) (h : (⟨y, k', u⟩ : VE) ∈ ρ) : (⟨y, k', u⟩ : VE) ∈ ρ' := by
 induction p with
 | head =>
   rcases mCo h with e | h
   · cases e; simp at hn
   exact .tail _ h
 | tail _ ih =>
   rcases mCo h with e | h
   · exact e ▸ .head _
   exact .tail _ (ih h)
theorem PutV.has (p : PutV x k v ρ ρ') (h : Hn y k' ρ) : Hn y k' ρ' := by
 induction p with
 | head =>
   obtain ⟨u, h⟩ := h; rcases mCo h with e | h
   · cases e; exact ⟨_, .head _⟩
   exact ⟨u, .tail _ h⟩
 | tail _ ih =>
   obtain ⟨u, h⟩ := h; rcases mCo h with e | h
   · exact ⟨u, e ▸ .head _⟩
   obtain ⟨u, h⟩ := ih ⟨u, h⟩; exact ⟨u, .tail _ h⟩
structure Ow (W : List Str) (ρ ρ' : List VE) : Prop where
 keep' : ∀ {x k u}, W.contains x = false → (⟨x, k, u⟩ : VE) ∈ ρ → (⟨x, k, u⟩ : VE) ∈ ρ'
 has' : ∀ {x k}, Hn x k ρ → Hn x k ρ'
variable {W W' : List Str}
theorem Ow.keep (o : Ow W ρ ρ') (hn : W.contains x = false) (h : (⟨x, k, u⟩ : VE) ∈ ρ) : (⟨x, k, u⟩ : VE) ∈ ρ' := o.keep' hn h
theorem Ow.has (o : Ow W ρ ρ') (h : Hn x k ρ) : Hn x k ρ' := o.has' h
theorem Ow.rfl : Ow W ρ ρ := ⟨fun _ h => h, fun h => h⟩
theorem Ow.put (o : Ow W ρ ρ₁) (p : PutV x k v ρ₁ ρ₂) (hx : W.contains x = true) : Ow W ρ ρ₂ :=
 ⟨fun {y k' u} hn h => p.keep (by
   cases e : y == x with
   | false => exact Eq.refl _
   | true => rw [bT e, hx] at hn; cases hn) (o.keep hn h), fun h => p.has (o.has h)⟩
theorem Ow.trans (o : Ow W ρ ρ₁) (p : Ow W' ρ₁ ρ₂) (hx : W'.all W.contains = true) : Ow W ρ ρ₂ :=
 ⟨fun {y k' u} hn h => p.keep (by
   cases e : W'.contains y with
   | false => exact Eq.refl _
   | true => rw [aA.mp hx y (by simpa using e)] at hn; cases hn) (o.keep hn h), fun h => p.has (o.has h)⟩
end
section
variable {w : World} {c : Cx} {γ γ' : Array aE} {m m' : Mp} {env cenv : Env} {own : List Addr} {ρ ρ' : List VE} {nw nw' : Led} {s s' : Shared} {A : au} {E : VP}
noncomputable def Back (w : World) (c1 c : Cx) (env : Env) (own : List Addr) : Prop := ∀ γ m ρ nw s, Bd w c1 γ m env own ρ nw s → Bd w c γ m env own ρ nw s
theorem Back.go {c1 : Cx} (b : Back w c1 c env own) (B : Bd w c1 γ m env own ρ nw s) : Bd w c γ m env own ρ nw s := b _ _ _ _ _ B
theorem oP {target : Expr} {I : Addr} {body orelse : List Stmt} {n : Nat} {V : VH} {Q : Flow → Shared → Prop} {σ : Type} {x₀ : σ} (f : σ → Led) (B : Bd w c γ m env own ρ (f x₀) s) (T : Src w A target c m own (f x₀) I n V s) (W : List Str) (P : Nat → Mp → List VE → σ → Prop)
   (h0 : P 0 m ρ x₀)
   (turn : ∀ i v c1 γ m1 ρ1 s x, i < n → Ow W ρ ρ1 → P i m1 ρ1 x → m.le m1 → V i v s.heap → Bd w c1 γ m1 env own ρ1 (f x) s → Back w c1 c env own →
     ∀ Qb : Flow → Shared → Prop, (∀ γ' m' ρ' s₃ x', Ow W ρ ρ' → P (i + 1) m' ρ' x' → m1.le m' → Bd w c1 γ' m' env own ρ' (f x') s₃ → Qb .next s₃) → (∀ s₃, Q .next s₃ → Qb .brk s₃) → (∀ v s₃, Q (.ret v) s₃ → Qb (.ret v) s₃) →
     wpAny (model PG w) A (bM target env v) (fun _ s₂ => wpAny (model PG w) A (execs body env) Qb NoE s₂) NoE s)
   (fin : ∀ γ m' ρ' s x, Ow W ρ ρ' → P n m' ρ' x → m.le m' → Bd w c γ m' env own ρ' (f x) s → wpAny (model PG w) A (execs orelse env) Q NoE s) :
   cf (model PG w) A (.forLoop target (.ref I) body orelse env) (fun r s' => match r with | .ok f => Q f s' | .error e => fb (model PG w) A env E e s') s := by
 refine for_goC B T (fun i m1 ρ1 nw1 => Ow W ρ ρ1 ∧ ∃ x, nw1 = f x ∧ P i m1 ρ1 x) ⟨.rfl, _, rfl, h0⟩ ?_ ?_
 · rintro i v c1 γ m1 ρ1 _ s hi ⟨ho, x, rfl, hP⟩ hm hv B hb Qb hq; exact turn i v c1 γ m1 ρ1 s x hi ho hP hm hv B hb Qb (fun γ' m' ρ' s₃ x' a b c d => hq .next s₃ ⟨γ', m', ρ', _, ⟨a, x', rfl, b⟩, c, d⟩) (fun s₃ h => hq .brk s₃ h) fun v s₃ h => hq (.ret v) s₃ h
 rintro γ m' ρ1 _ s ⟨ho, x, rfl, hP⟩ hm B; exact fin γ m' ρ1 s x ho hP hm B
theorem lK {target : Expr} {I : Addr} {body orelse : List Stmt} {n : Nat} {V : VH} {Q : Flow → Shared → Prop} (B : Bd w c γ m env own ρ nw s) (T : Src w A target c m own nw I n V s) (W : List Str) (P : Nat → Mp → List VE → Prop)
   (h0 : P 0 m ρ)
   (turn : ∀ i v c1 γ m1 ρ1 s, i < n → Ow W ρ ρ1 → P i m1 ρ1 → m.le m1 → V i v s.heap → Bd w c1 γ m1 env own ρ1 nw s → Back w c1 c env own →
     ∀ Qb : Flow → Shared → Prop, (∀ γ' m' ρ' s₃, Ow W ρ ρ' → P (i + 1) m' ρ' → m1.le m' → Bd w c1 γ' m' env own ρ' nw s₃ → Qb .next s₃) → (∀ s₃, Q .next s₃ → Qb .brk s₃) → (∀ v s₃, Q (.ret v) s₃ → Qb (.ret v) s₃) →
     wpAny (model PG w) A (bM target env v) (fun _ s₂ => wpAny (model PG w) A (execs body env) Qb NoE s₂) NoE s)
   (fin : ∀ γ m' ρ' s, Ow W ρ ρ' → P n m' ρ' → m.le m' → Bd w c γ m' env own ρ' nw s → wpAny (model PG w) A (execs orelse env) Q NoE s) :
   cf (model PG w) A (.forLoop target (.ref I) body orelse env) (fun r s' => match r with | .ok f => Q f s' | .error e => fb (model PG w) A env E e s') s :=
 oP (σ := Unit) (x₀ := ()) (fun _ => nw) B T W (fun i m ρ _ => P i m ρ) h0 (fun i v c1 γ m1 ρ1 s _ a b c d e f g Qb h1 h2 h3 => turn i v c1 γ m1 ρ1 s a b c d e f g Qb (fun γ' m' ρ' s₃ => h1 γ' m' ρ' s₃ ()) h2 h3) fun γ m' ρ' s _ => fin γ m' ρ' s
end
end
section
section
variable {w : World} {c : Cx} {γ : Array aE} {m : Mp} {env : Env} {nw : Led} {s : Shared} {G : Prop}
theorem opq1_0 {e0 : VE} {o0 : Addr} (B : Bd w c γ m env [o0] [e0] nw s) (h : ∀ own ρ, e0 ∈ ρ → Bd w c γ m env own ρ nw s → G) : G :=
 h _ _ mem0  B
theorem opq2_0 {e0 e1 : VE} {o0 : Addr} (B : Bd w c γ m env [o0] [e0, e1] nw s) (h : ∀ own ρ, e0 ∈ ρ → e1 ∈ ρ → Bd w c γ m env own ρ nw s → G) : G :=
 h _ _ mem0 mem1  B
theorem opq3_0 {e0 e1 e2 : VE} {o0 : Addr} (B : Bd w c γ m env [o0] [e0, e1, e2] nw s) (h : ∀ own ρ, e0 ∈ ρ → e1 ∈ ρ → e2 ∈ ρ → Bd w c γ m env own ρ nw s → G) : G :=
 h _ _ mem0 mem1 mem2  B
theorem opq4_0 {e0 e1 e2 e3 : VE} {o0 : Addr} (B : Bd w c γ m env [o0] [e0, e1, e2, e3] nw s) (h : ∀ own ρ, e0 ∈ ρ → e1 ∈ ρ → e2 ∈ ρ → e3 ∈ ρ → Bd w c γ m env own ρ nw s → G) : G :=
 h _ _ mem0 mem1 mem2 mem3  B
theorem opq5_0 {e0 e1 e2 e3 e4 : VE} {o0 : Addr} (B : Bd w c γ m env [o0] [e0, e1, e2, e3, e4] nw s) (h : ∀ own ρ, e0 ∈ ρ → e1 ∈ ρ → e2 ∈ ρ → e3 ∈ ρ → e4 ∈ ρ → Bd w c γ m env own ρ nw s → G) : G :=
 h _ _ mem0 mem1 mem2 mem3 mem4  B
theorem opq6_0 {e0 e1 e2 e3 e4 e5 : VE} {o0 : Addr} (B : Bd w c γ m env [o0] [e0, e1, e2, e3, e4, e5] nw s) (h : ∀ own ρ, e0 ∈ ρ → e1 ∈ ρ → e2 ∈ ρ → e3 ∈ ρ → e4 ∈ ρ → e5 ∈ ρ → Bd w c γ m env own ρ nw s → G) : G :=
 h _ _ mem0 mem1 mem2 mem3 mem4 mem5  B
theorem opq7_0 {e0 e1 e2 e3 e4 e5 e6 : VE} {o0 : Addr} (B : Bd w c γ m env [o0] [e0, e1, e2, e3, e4, e5, e6] nw s) (h : ∀ own ρ, e0 ∈ ρ → e1 ∈ ρ → e2 ∈ ρ → e3 ∈ ρ → e4 ∈ ρ → e5 ∈ ρ → e6 ∈ ρ → Bd w c γ m env own ρ nw s → G) : G :=
 h _ _ mem0 mem1 mem2 mem3 mem4 mem5 mem6  B
theorem opq10_0 {e0 e1 e2 e3 e4 e5 e6 e7 e8 e9 : VE} {o0 : Addr} (B : Bd w c γ m env [o0] [e0, e1, e2, e3, e4, e5, e6, e7, e8, e9] nw s) (h : ∀ own ρ, e0 ∈ ρ → e1 ∈ ρ → e2 ∈ ρ → e3 ∈ ρ → e4 ∈ ρ → e5 ∈ ρ → e6 ∈ ρ → e7 ∈ ρ → e8 ∈ ρ → e9 ∈ ρ → Bd w c γ m env own ρ nw s → G) : G :=
 h _ _ mem0 mem1 mem2 mem3 mem4 mem5 mem6 mem7 mem8 mem9  B
theorem opq4_3 {e0 e1 e2 e3 : VE} {o0 o1 o2 o3 : Addr} (B : Bd w c γ m env [o0, o1, o2, o3] [e0, e1, e2, e3] nw s) (h : ∀ own ρ, e0 ∈ ρ → e1 ∈ ρ → e2 ∈ ρ → e3 ∈ ρ → o1 ∈ own → o2 ∈ own → o3 ∈ own → Bd w c γ m env own ρ nw s → G) : G :=
 h _ _ mem0 mem1 mem2 mem3 mem1 mem2 mem3 B
theorem opq10_3 {e0 e1 e2 e3 e4 e5 e6 e7 e8 e9 : VE} {o0 o1 o2 o3 : Addr} (B : Bd w c γ m env [o0, o1, o2, o3] [e0, e1, e2, e3, e4, e5, e6, e7, e8, e9] nw s) (h : ∀ own ρ, e0 ∈ ρ → e1 ∈ ρ → e2 ∈ ρ → e3 ∈ ρ → e4 ∈ ρ → e5 ∈ ρ → e6 ∈ ρ → e7 ∈ ρ → e8 ∈ ρ → e9 ∈ ρ → o1 ∈ own → o2 ∈ own → o3 ∈ own → Bd w c γ m env own ρ nw s → G) : G :=
 h _ _ mem0 mem1 mem2 mem3 mem4 mem5 mem6 mem7 mem8 mem9 mem1 mem2 mem3 B
theorem opq25_8 {e0 e1 e2 e3 e4 e5 e6 e7 e8 e9 e10 e11 e12 e13 e14 e15 e16 e17 e18 e19 e20 e21 e22 e23 e24 : VE} {o0 o1 o2 o3 o4 o5 o6 o7 o8 : Addr} (B : Bd w c γ m env [o0, o1, o2, o3, o4, o5, o6, o7, o8] [e0, e1, e2, e3, e4, e5, e6, e7, e8, e9, e10, e11, e12, e13, e14, e15, e16, e17, e18, e19, e20, e21, e22, e23, e24] nw s) (h : ∀ own ρ, e0 ∈ ρ → e1 ∈ ρ → e2 ∈ ρ → e3 ∈ ρ → e4 ∈ ρ → e5 ∈ ρ → e6 ∈ ρ → e7 ∈ ρ → e8 ∈ ρ → e9 ∈ ρ → e10 ∈ ρ → e11 ∈ ρ → e12 ∈ ρ → e13 ∈ ρ → e14 ∈ ρ → e15 ∈ ρ → e16 ∈ ρ → e17 ∈ ρ → e18 ∈ ρ → e19 ∈ ρ → e20 ∈ ρ → e21 ∈ ρ → e22 ∈ ρ → e23 ∈ ρ → e24 ∈ ρ → o1 ∈ own → o2 ∈ own → o3 ∈ own → o4 ∈ own → o5 ∈ own → o6 ∈ own → o7 ∈ own → o8 ∈ own → Bd w c γ m env own ρ nw s → G) : G :=
 h _ _ mem0 mem1 mem2 mem3 mem4 mem5 mem6 mem7 mem8 mem9 mem10 mem11 mem12 mem13 mem14 mem15 mem16 mem17 mem18 mem19 mem20 mem21 mem22 mem23 mem24 mem1 mem2 mem3 mem4 mem5 mem6 mem7 mem8 B
theorem opq3_1 {e0 e1 e2 : VE} {o0 o1 : Addr} (B : Bd w c γ m env [o0, o1] [e0, e1, e2] nw s) (h : ∀ own ρ, e0 ∈ ρ → e1 ∈ ρ → e2 ∈ ρ → o1 ∈ own → Bd w c γ m env own ρ nw s → G) : G :=
 h _ _ mem0 mem1 mem2 mem1 B
theorem opq2_1 {e0 e1 : VE} {o0 o1 : Addr} (B : Bd w c γ m env [o0, o1] [e0, e1] nw s) (h : ∀ own ρ, e0 ∈ ρ → e1 ∈ ρ → o1 ∈ own → Bd w c γ m env own ρ nw s → G) : G :=
 h _ _ mem0 mem1 mem1 B
end
end
section
section
variable {w : World} {c : Cx} {γ : Array aE} {m : Mp} {env : Env} {own : List Addr} {ρ : List VE} {nw : Led} {s : Shared} {A : au} {E : VP}
theorem grd_and {P : Prop} (B : Bd w c γ m env own ρ nw s) (h : P) : Grd w s.heap ∧ P := ⟨B.kn B.gr, h⟩
theorem gm_appB {l : Addr} {vs : List Value} {pl : Sem Bool} {Q : Value × List Value → Shared → Prop} (B : Bd w c γ m env own ρ nw s) (hm : (l, jB vs) ∈ nw) (h : Q (.builtin "list.append", [.ref l]) s) : wpAny (model PG w) A (gb (.ref l) (aa "append") pl) Q E s := gm_append (B.at hm) h
theorem callWith_b1 {M : Model} {pos : Pos} {id : String} {x : Value} {e : Expr} {rest : List Expr} {Q : VP}
   (h : wpAny M A (eu (cV pos (bo (e :: rest) env))) (fun vs s₁ => wpAny M A (call (.builtin id) (x :: vs)) Q E s₁) E s)
   (he : bo (e :: rest) env = (false, eval e env) :: bo rest env) (hp : (cV pos (bo rest env)).any (·.1) = false) :
   wpAny M A (ec pos (.builtin id) [x] (cV pos (bo (e :: rest) env)) []) Q E s := callWith_method1 h he hp
end
def wkTab : List (String × String) := [("mem", "@as;PutV.new p=as;PutV.keep p=as n=uf m=mem;Ow.keep p=as n=uf m=mem;hC ~ h=m1;@m1"),
 ("m1", "mem0;mem1;mem2;mem3;mem4;mem5;mem6;mem7;mem8;mem9;mem10;mem11"),
 ("has", "@as;Hn.mk m=as;PutV.has p=as m=has;Ow.has p=as m=has;hM ~ h=m1"),
 ("tn", "Tn.rfl;Tn.put h=tn p=as"),
 ("cs", "Ce.nil;Ce.cons h=mr r=cs"),
 ("ce", "ce_nil;ce_cons m=mr h=ce"),
 ("ow", "@as;Ow.rfl;Ow.put h=ow p=as c=uf;Ow.trans h=ow p=as c=uf"),
 ("op1", "opq1_0 B _;opq2_0 B _;opq3_0 B _;opq4_0 B _;opq5_0 B _;opq6_0 B _;opq7_0 B _;opq10_0 B _;opq4_3 B _;opq3_1 B _;opq2_1 B _;opq10_3 B _;opq25_8 B _"),
 ("put", "put0;put1;put2;put3;put4;put5;put6;put7;put8;put9"),
 ("own", "nocel;somecel h=mr"),
 ("knd", "hE.kind h=rf"),
 ("ex", "execs_cut _|Qc hQc;wpAny_Assign_Name _ s=rf;wpAny_For _ s=rf;wpAny_Expr_any _ i=it s=rf"),
 ("it", "B.inter"),
 ("evi", "EvI.lit;EvI.name m=mr d=rf;EvI.add l=evi r=evi;EvI.sub l=evi r=evi"),
 ("evx", "Ev.name m=mr d=rf;Ev.str;Ev.bool;Ev.none;Ev.int h=evi"),
 ("nl", "n_list B z=fit _|-"),
 ("nt", "n_tuple B z=fit _|-"),
 ("nL", "n_listL B z=fit _|-"),
 ("st", "hQc ~ ~ _|!&eval:2:r_var B m=mr d=rf e=rf _;r_glob B x=knd e=rf d=rf _;r_blt B x=knd e=rf v=rf n=rf d=rf _;k_int B _|-|tk s B;k_str B _|-|tk s B;MethodCall_ _ e=rf;Call_ _ e=rf;ev_i e=evi B _|-|tk s B;ev_bin B e=evx f=evx _|-|tk1 tk s B;wpAny_BinOp _;ev_sub B e=evx f=evx _|-|tk1 tk s B;Subscript_ _;ev_cmp B e=evx f=evx g=rf _|-|tk1 tk s B;wpAny_Compare1 _;Slice_ _;IfExp_ _;List_ _;Tuple_ _;wpAny_UnaryOp _;BoolOp_and _;BoolOp_or _;BoolOp_one _;wpAny_Constant_none _;wpAny_Constant_bool _&spliced:1:spliced_none _;na1 B a=mr d=rf _;na2 B a=mr b=mr d=rf e=rf _;na3 B a=mr b=mr c=mr d=rf e=rf f=rf _;sp1 B a=evx _|-|tk s B;sp2 B a=evx b=evx _|-|tk1 tk s B;sp3 B a=evx b=evx c=evx _|-|tk1 tk2 tk s B;sp4 B a=evx b=evx c=evx d=evx _|-|tk1 tk2 tk3 tk s B;spliced_more _ e=rf&execs:2:@ex;wpAny_execs_nil _&exec:2:@ex;wpAny_Return_some _;wpAny_If _;wpAny_AugAssign_Name _;wpAny_Break _&callWith:5:PyProof.Rows.callWith_builtin1 _ e=rf f=rf;callWith_b1 _ e=rf f=rf;PyProof.Rows.callWith_type1 _ e=rf f=rf;callWith_method0 _;callWith_f o=rf _ e=rf;@bv&storeName:3:r_storeO B n=has k=own _|-|ρ s hV B;r_store B p=put k=own _|-|s B&PySem.isTrue:3:ev_test B e=evx f=evx g=rf _|-|tk1 tk s B;wpAny_isTrue_Compare1 _;wpAny_isTrue_Not _;isTrue_IfExp _;wpAny_isTrue_BoolOp _;isTrue_plain _ e=rf&truthy:1:wpAny_truthy_bool _;truthy_int _&compareOp:3:eq_int _;ne_int _;lt_int _;gt_int _;le_int _;ge_int _;PyProof.Rows.eq_str _;PyProof.Rows.ne_str _;is_int_none _;is_none_none _;is_str_none _;is_ref_none _;isnot_none_none _;isnot_str_none _;isnot_ref_none _;in_str _;notIn_str _&binaryOp:3:i_add B _|-|tk s B;i_sub B _|-|tk s B;i_and B _|-|tk s B;i_or B _|-|tk s B;i_xor B _|-|tk s B;i_mod B b=num _|-|tk s B;i_shr B b=num _|-|tk s B;i_mul B b=num _|-|tk s B;i_div B b=num c=num _|-|tk s B;i_shl B b=num c=num d=num _|-|tk s B;i_pow B b=num c=num d=num _|-|tk s B&inplaceOp:3:i_iadd B _|-|tk s B;i_isub B _|-|tk s B;i_ixor B _|-|tk s B;i_ior B _|-|tk s B;i_ishl B b=num c=num d=num _|-|tk s B&loadName:2:r_load B m=mr d=rf _&grd_and B _;wpAny_evalPart_some _;wpAny_evalPart_none _;GM.split _;GM.join _;GM.replace _;GM.swapcase _;GM.lower _;gm_appB B m=mr _;wpAny_allTrue_And_cons _;wpAny_allTrue_And_nil _;wpAny_allTrue_Or_cons _;wpAny_allTrue_Or_nil _")]
open Lean in
def wkM (m : String) : MacroM (TSyntax `tactic) :=
 if m == "as" then `(tactic| assumption)
 else if m == "rf" then `(tactic| first | rfl | exact ⟨rfl, rfl⟩ | (intros; rfl) | decide)
 else `(tactic| walk_at $(Syntax.mkStrLit m))
open Lean in
def wkT (s : String) : MacroM (TSyntax `tactic) := do
 let ps := s.splitOn "|"
 let ws := ps.head!.splitOn " "
 let mut args : Array Term := #[]
 let mut c1 : Array (TSyntax `tactic) := #[]
 let mut c2 : Array (TSyntax `tactic) := #[]
 for w in ws.tail! do
   match w.splitOn "=" with
   | [v, m] =>
     let h := mkIdent (← Macro.addMacroScope ("z" ++ v).toName)
     args := args.push (← `(?$h:ident))
     let c ← `(tactic| case $h:ident => $(← wkM m):tactic)
     if m == "as" then c1 := #[c] ++ c1 else if m == "uf" || m == "rf" then c1 := c1.push c else c2 := c2.push c
   | _ => args := args.push (← if w == "_" then `(?_) else if w == "~" then `(_) else `($(mkIdent w.toName)))
 let mut r ← `(tactic| with_reducible refine' $(Syntax.mkApp (mkIdent ws.head!.toName) args))
 for c in c1 ++ c2 do r ← `(tactic| ($r; $c))
 for p in ps.tail! do
   let ns := (p.splitOn " ").toArray.map fun n => mkIdent n.toName
   if p == "!" then r ← `(tactic| ($r; clear $(mkIdent `hQc))) else if p == "-" then r ← `(tactic| ($r; clear $(mkIdent `B))) else r ← `(tactic| ($r; intro $[$ns]*))
 return r
open Lean in
def wkX (s : String) : MacroM (TSyntax `tactic) := do
 let some d := if s.startsWith "=" then some (s.drop 1).toString else wkTab.lookup s | Macro.throwUnsupported
 let gs := d.splitOn "&"
 let mut a : Array (TSyntax ``Lean.Parser.Tactic.tacticSeq) := #[]
 for g in if gs.length == 1 then d.splitOn ";" else gs do
   let t ← match g.splitOn ":" with
     | [f, n, e] =>
       let hs : Array Term := Array.replicate n.toNat! (← `(_))
       `(tactic| ((with_reducible guard_target = wpAny _ _ ($(Syntax.mkApp (mkIdent f.toName) hs)) _ _ _); $(← wkM ("=" ++ e))))
     | _ => if g.startsWith "@" then wkM (g.drop 1).toString else if gs.length == 1 then wkT g else wkM ("=" ++ g)
   a := a.push (← `(Lean.Parser.Tactic.tacticSeq| $t:tactic))
 `(tactic| first $[| $a]*)
end
section
theorem oJ : ∀ {vs : List Value} {ns : List Int}, vs.length = ns.length → (∀ (i : Nat) (n : Int), ns[i]? = some n → ∃ t, vs[i]? = some (cF n t)) → d6 vs ns
 | [], [], _, _ => .nil
 | [], _ :: _, h, _ => by simp at h
 | _ :: _, [], h, _ => by simp at h
 | v :: vs, n :: ns, hl, h => by
   obtain ⟨t, e⟩ := h 0 n rfl; simp at e
   subst e; exact .cons n t (oJ (by simpa using hl) fun i k hk => by simpa using h (i + 1) k (by simpa using hk))
theorem lC {α : Type} {l : List α} : l.filter (fun _ => true) = l := List.filter_eq_self.mpr fun _ _ => rfl
theorem jI {α β : Type} {l : List α} {d : α} {f : α → β} {n : Nat} (hn : l.length = n) : (ae n).map (fun i => f (l.getD i d)) = l.map f := by
 refine List.ext_getElem (by simp [hn]) fun i h1 h2 => ?_; simp only [List.getElem_map, List.getElem_range]; have : i < l.length := by simpa using h2
 rw [ab, ac this]; rfl
section
variable {w : World} {c : Cx} {γ γ' : Array aE} {m m' : Mp} {env cenv : Env} {own : List Addr} {ρ ρ' : List VE} {nw nw' : Led} {s s' : Shared} {A : au} {E : VP}
noncomputable def jF (n : Nat) : List Int := (ae n).map aZ
noncomputable def RangeO (k : Nat) (o : Obj) : Prop := ∃ t u v, o = { cls := .type "range", data := .fields #[.int 0 t, .int (k : Nat) u, .int 1 v] }
theorem n_range {k : Nat} {t : Tok} {Q : VP} (B : Bd w c γ m env own ρ nw s)
   (h : ∀ a m' s', m.le m' → Kn m' (At a (RangeO k)) → Bd w c γ m' env own ρ nw s' → Q (.ref a) s') : wpAny (model PG w) A (call (.type "range") [.int k t]) Q E s :=
 call_range_1 (h _ _ _ (B.freshLe _) (fun _ ok => ⟨_, ok _ _ Mp.put_self, _, _, _, rfl⟩) (B.pushK rfl))
theorem l_ofrange {k : Nat} {r : Addr} {Q : VP} (B : Bd w c γ m env own ρ nw s) (hh : A.handled = none) (hr : At r (RangeO k) s.heap) (hsm : bO 0 k 1 = true) (hk : k ≤ 2 ^ 24)
   (h : ∀ a m' s', m.le m' → Kn m' (LI a (jF k)) → Bd w c γ m' env own ρ nw s' → Q (.ref a) s') :
   wpAny (model PG w) A (call (.type "list") [.ref r]) Q E s := by
 obtain ⟨o, ho, t, u, v, rfl⟩ := hr; refine call_list_range hh ho hsm (by rw [nv (a12)]; exact a11) hk fun h' tk acc' c' hkp hD hI => ?_; refine x03 B.fresh fun f1 f2 f3 => ?_; have B2 : Bd w c γ m env own ρ nw ⟨h', s.gens, s.drawn, tk, s.os⟩ := B.grow hkp; refine h _ _ _ (Mp.le_put f1) (fun hp ok => ?_) (B2.addK hD f1 f2 f3); have ho := ok _ _ Mp.put_self; refine ⟨acc'.toList, ⟨_, ho, c', by simp⟩, oJ ?_ fun i n hn => ?_⟩
 · obtain ⟨h1, _⟩ := hI; simp [jF, h1]
 obtain ⟨h1, h2⟩ := hI; have hi : i < k := by
   have := (aC.mp hn).1; simpa [jF] using this
 have e : n = (i : Int) := by
   simp [jF, hi] at hn
   exact hn.symm
 obtain ⟨t', hv⟩ := h2 i acc'[i] (cB (a10 h1 hi)); refine ⟨t', ?_⟩; rw [dM, cB (a10 h1 hi), hv, e]; simp
theorem kI {value slice : Expr} {a : Addr} {ns : List Int} {i n : Int} {u : Tok} {Q : VP} (hl : LI a ns s.heap) (h0 : 0 ≤ i) (hz : i < 2 ^ 63) (hv : ns[i.toNat]? = some n) (h : ∀ t, Q (.int n t) s)
   (hs : fq slice false (.ref a) (.int i u) = ix [.ref a, .int i u] (iy (.ref a) (.int i u)) := by with_unfolding_all rfl) :
   wpAny (model PG w) A (dU value slice (.ref a) (.int i u)) Q E s := by
 refine x12 hl fun vs h1 h2 => ?_; obtain ⟨t, ht⟩ := ints_get' h2 hv; exact j0 h1 h0 hz ht (h t) hs
theorem lV {value slice : Expr} {a : Addr} {ns : List Str} {i : Int} {n : Str} {u : Tok} {Q : VP} (hl : LS a ns s.heap) (h0 : 0 ≤ i) (hz : i < 2 ^ 63) (hv : ns[i.toNat]? = some n) (h : ∀ t, Q (.str n t) s)
   (hs : fq slice false (.ref a) (.int i u) = ix [.ref a, .int i u] (iy (.ref a) (.int i u)) := by with_unfolding_all rfl) :
   wpAny (model PG w) A (dU value slice (.ref a) (.int i u)) Q E s := by
 refine x12 hl fun vs h1 h2 => ?_; obtain ⟨t, ht⟩ := mM h2 hv; exact j0 h1 h0 hz ht (h t) hs
end
end
section
inductive Tr where
 | leaf (i : Nat)
 | node (sg : Str) (l r : Tr) (mid : Nat)
 deriving DecidableEq, Inhabited
noncomputable def Tr.dep : Tr → Nat
 | .leaf _ => 0
 | .node _ l r _ => max l.dep r.dep + 1
noncomputable def Tr.size : Tr → Nat
 | .leaf _ => 1
 | .node _ l r _ => l.size + r.size + 1
noncomputable def KT (m : Mp) : Value → Tr → Prop
 | v, .leaf i => ∃ t, v = .int (i : Nat) t
 | v, .node sg l r mid => ∃ a vl vr ts tm, v = .ref a ∧ (∃ o, m a = some o ∧ jB [.str sg ts, vl, vr, .int (mid : Nat) tm] o) ∧ KT m vl l ∧ KT m vr r
theorem jQ {m m' : Mp} {a : Addr} {P : Obj → Prop} (le : m.le m') (h : ∃ o, m a = some o ∧ P o) : ∃ o, m' a = some o ∧ P o := by obtain ⟨o, h1, h2⟩ := h; exact ⟨o, le _ _ h1, h2⟩
theorem KT.up {m m' : Mp} (le : m.le m') {t : Tr} : ∀ {v : Value}, KT m v t → KT m' v t := by
 induction t with
 | leaf i => exact fun h => h
 | node sg l r mid ihl ihr =>
   intro v h; refine x54 h fun a vl vr ts tm h1 h2 h3 h4 => ?_; exact ⟨a, vl, vr, ts, tm, h1, jQ le h2, ihl h3, ihr h4⟩
section
variable {w : World} {c : Cx} {γ γ' : Array aE} {m m' : Mp} {env cenv : Env} {own : List Addr} {ρ ρ' : List VE} {nw nw' : Led} {s s' : Shared} {A : au} {E : VP}
theorem kt {i : Int} {t : Tok} {Q : VP} (h : Q (.bool true) s) : wpAny (model PG w) A (call (.builtin "isinstance") [.int i t, .type "int"]) Q E s := IsiPair.int_int h
theorem j9 {a : Addr} {vs : List Value} {Q : VP} (B : Bd w c γ m env own ρ nw s) (hl : At a (jB vs) s.heap) (h : ∀ s', Bd w c γ m env own ρ nw s' → Q (.bool false) s') : wpAny (model PG w) A (call (.builtin "isinstance") [.ref a, .type "int"]) Q E s :=
 IsiPair.isList_int hl.list (fun _ _ e => e) (h _ (B.tk _ _))
theorem Bd.refs {xs : List Value} {is : List Nat} {W : Addr → Nat → Heap → Prop} (B : Bd w c γ m env own ρ nw s) (h : All2 (fun x i => Kn m (fun h => ∃ b, x = .ref b ∧ W b i h)) xs is) : ∃ bs : List Addr, xs = bs.map d0 ∧ All2 (fun b i => Kn m (W b i)) bs is := by
 induction h with
 | nil => exact ⟨[], rfl, .nil⟩
 | cons h _ ih =>
   obtain ⟨bs, rfl, hb⟩ := ih; obtain ⟨b, rfl, _⟩ := B.kn h; refine ⟨b :: bs, rfl, .cons (fun hp ok => ?_) hb⟩; refine x12 (h hp ok) fun b' e hw => ?_; cases e
   exact hw
theorem Bd.ato {a : Addr} {P : Obj → Prop} (B : Bd w c γ m env own ρ nw s) (h : ∃ o, m a = some o ∧ P o) : At a P s.heap := by obtain ⟨o, h1, h2⟩ := h; exact ⟨o, B.ok _ _ h1, h2⟩
end
end
section
section
variable {w : World} {c : Cx} {γ : Array aE} {m : Mp} {env : Env} {own : List Addr} {ρ ρ' : List VE} {nw nw' : Led} {s s' : Shared} {wr : List Addr} {gw : Nat → Prop}
noncomputable def kJ (w : World) (A : au) (e : Expr) (acc : Addr) (env : Env) (R : Shared → Prop) (it : Value) (s : Shared) : Prop :=
 ∃ I2, it = .ref I2 ∧ cf (model PG w) A (.compLoop e 1 (.ref I2) (.ref acc) env) (fun r s' => (∃ f, r = .ok f) ∧ R s') s ∧ wpAny (model PG w) A (cC (.ref I2)) (fun it s' => it = .ref I2 ∧ s' = s) NoE s
theorem qQ (elt t1 i1 t2 i2 : Expr) (ifs : List Expr) (scope : Scope) (pos : Pos) (it acc : Value) (env : Env) :
   compTurn (.ListComp elt [⟨t1, i1, [], 0⟩, ⟨t2, i2, ifs, 0⟩] scope pos) 0 it acc env = (do
     fM i1.pos
     match ← ic it with
     | none => pure (.done .next)
     | some v =>
       cG t1 it v
       bM t1 env v
       let mut ok := true
       for c in ([] : List Expr) do
         if ok then ok ← isTrue c env (eval c env)
       if ok then
         let x ← eval i2 env
         fM i2.pos
         let x ← bA i2 env x
         let _ ← runOwn (.compStart (.ListComp elt [⟨t1, i1, [], 0⟩, ⟨t2, i2, ifs, 0⟩] scope pos) 1 (← holding [x] (cC x)) acc env) env
       again (.compLoop (.ListComp elt [⟨t1, i1, [], 0⟩, ⟨t2, i2, ifs, 0⟩] scope pos) 0 it acc env)) := by rfl
theorem qk {A : au} {elt t1 i1 t2 i2 : Expr} {ifs : List Expr} {scope : Scope} {pos : Pos} {it acc : Value} {R : fz → Shared → Prop} (h0 : cf (model PG w) A (.compLoop (.ListComp elt [⟨t1, i1, [], 0⟩, ⟨t2, i2, ifs, 0⟩] scope pos) 1 it acc env) R s)
   (h : wpAny (model PG w) A (cC it) (fun it' s' => cf (model PG w) A (.compLoop (.ListComp elt [⟨t1, i1, [], 0⟩, ⟨t2, i2, ifs, 0⟩] scope pos) 1 it' acc env) R s') NoE s) :
   cf (model PG w) A (.compStart (.ListComp elt [⟨t1, i1, [], 0⟩, ⟨t2, i2, ifs, 0⟩] scope pos) 1 it acc env) R s := by
 refine codeAny_of_tree ?_; show wpAny _ _ ((compStart (.ListComp elt [⟨t1, i1, [], 0⟩, ⟨t2, i2, ifs, 0⟩] scope pos) 1 it acc env).onRaise (fun x => do ga x env; fM theWindowsPlace)) _ _ s
 refine wpAny_notedAt ?_; unfold compStart; show wpAny _ _ (ask >>= _) _ _ s
 refine ai (iO (wpAny_ite ?_)); split
 · first
     | exact ai (aP (aP (And.intro rfl h0)))
     | exact aP (And.intro rfl h0)
 first
   | exact ai (wpAny_rule (ai (bP (ai (am h (fun it' s' h' => aP (And.intro rfl h')) fun _ _ x => x.elim)))))
   | (refine ai (wpAny_rule ?_); show wpAny _ _ (fM i2.pos >>= _) _ _ s; exact ai (bP (ai (am h (fun it' s' h' => aP (And.intro rfl h')) fun _ _ x => x.elim))))
theorem comp2_itr {A : au} {elt t1 i1 t2 i2 : Expr} {ifs : List Expr} {scope : Scope} {pos : Pos} {I acc : Addr} {fp : List Addr} {n : Nat} {V : VH} {St : List Addr → Nat → Shared → Prop} {m₀ : Mp} {R : fz → Shared → Prop} {xs : List Value}
   (T : Itr w A t1 I fp gw n V St) (Inv : Nat → List Value → Mp → List VE → Led → Prop)
   (hfp : ∀ b ∈ fp, ∃ o, m₀ b = some o) (hgw : ∀ j, gw j → c.G[j]? = none) (hs : ∀ x, bA i2 env x = pure x)
   (turn : ∀ i v c1 γ m ρ xs nw s, i < n → Inv i xs m ρ nw → m₀.le m → V i v s.heap → Bd w c1 γ m env own ρ ((acc, jB xs) :: nw) s →
     wpAny (model PG w) A (bM t1 env v) (fun _ s₂ => wpAny (model PG w) A (eval i2 env) (fun x s₃ => wpAny (model PG w) A (cC x) (fun it s₄ =>
       kJ w A (.ListComp elt [⟨t1, i1, [], 0⟩, ⟨t2, i2, ifs, 0⟩] scope pos) acc env (fun s₅ => ∃ γ' m' ρ' xs' nw', Inv (i + 1) xs' m' ρ' nw' ∧ m₀.le m' ∧ Bd w c1 γ' m' env own ρ' ((acc, jB xs') :: nw') s₅) it s₄) NoE s₃) NoE s₂) NoE s)
   (fin : ∀ γ m ρ xs nw s, Inv n xs m ρ nw → m₀.le m → Bd w c γ m env own ρ ((acc, jB xs) :: nw) s → R (.ok .next) s)
   (h0 : Inv 0 xs m ρ nw) (hm : m₀.le m) (B : Bd w c γ m env own ρ ((acc, jB xs) :: nw) s) (hst : St wr 0 s) (p : Priv wr c m own ((acc, jB xs) :: nw)) :
   cf (model PG w) A (.compLoop (.ListComp elt [⟨t1, i1, [], 0⟩, ⟨t2, i2, ifs, 0⟩] scope pos) 0 (.ref I) (.ref acc) env) R s := by
 refine codeAny_loop rfl (fun k s => Sit w c env own m₀ n St 0 (fun i m ρ nw => ∃ xs nw', nw = (acc, jB xs) :: nw' ∧ Inv i xs m ρ nw') k s) (fun k s hS => ?_) n (.mk wr 0 γ m ρ _ rfl (be _) (be _) ⟨xs, nw, rfl, h0⟩ hm B hst p); show wpAny _ A ((compTurn (.ListComp elt [⟨t1, i1, [], 0⟩, ⟨t2, i2, ifs, 0⟩] scope pos) 0 (.ref I) (.ref acc) env).onRaise (fun x => do ga x env; eo x)) _ _ s
 refine wpAny_noted ?_; rw [qQ]; refine ai (bP (ai (noE (am (qa T hfp hgw hS (Y := fun v s₁ => wpAny (model PG w) A (bM t1 env v) (fun _ s₂ => wpAny (model PG w) A (eval i2 env) (fun x s₃ => wpAny (model PG w) A (cC x) (fun it s₄ =>
       kJ w A (.ListComp elt [⟨t1, i1, [], 0⟩, ⟨t2, i2, ifs, 0⟩] scope pos) acc env (fun s₅ => ∃ k', k' < k ∧ Sit w c env own m₀ n St 0 (fun i m ρ nw => ∃ xs nw', nw = (acc, jB xs) :: nw' ∧ Inv i xs m ρ nw') k' s₅) it s₄) NoE s₃) NoE s₂) NoE s₁) (Z := fun s => R (.ok .next) s) ?_ ?_) (fun r s₁ h => ?_) fun _ _ x => x))))
 · rintro i v c1 γ m ρ _ s' hlt _ ⟨xs, nw, rfl, hI⟩ hm hv B _ tail; refine am (turn i v c1 γ m ρ xs nw s' hlt hI hm hv B) (fun _ s₂ h2 => am h2 (fun x s₃ h3 => am h3 (fun it s₄ h4 => ?_) fun _ _ x => x) fun _ _ x => x) fun _ _ x => x; refine x13 h4 fun I2 e hc hp => ?_; refine ⟨I2, e, c9 hc fun r s₃ q => ?_, hp⟩; obtain ⟨hf, γ', m', ρ', xs', nw', hI', hm', B₃⟩ := q; exact ⟨hf, tail _ _ _ _ s₃ (be _) ⟨_, _, rfl, hI'⟩ hm' B₃⟩
 · rintro γ m ρ _ s' ⟨xs, nw, rfl, hI⟩ hm B; exact fin _ _ _ _ _ _ hI hm B
 cases r with
 | none => exact aP h
 | some v =>
   refine ai (noE (am h (fun _ s₁' h₁' => ai (noE (am h₁' (fun _ s₂ h₂ => ?_) fun _ _ x => x))) fun _ _ x => x)); refine ai (kU ?_); refine ai (noE (am h₂ (fun x s₃ h₃ => ai (bP (ai (dN (hs x) (ai (dg (noE (am h₃ (fun it s₄ h₄ => ?_) fun _ _ x => x)))))))) fun _ _ x => x)); obtain ⟨I2, rfl, hc, hp⟩ := h₄; have hc2 := fun (X : _) (Y : ∀ r s₅, _ → X r s₅) => c9 (R' := X) hc Y; refine ai (wpAny_runOwn (qk (hc2 _ fun r s₅ q => ?_) (am (Q' := fun it' s' => _) hp (fun it s' q => ?_) fun _ _ x => x)))
   · obtain ⟨⟨f, rfl⟩, q⟩ := q; exact aP ⟨rfl, q⟩
   obtain ⟨rfl, rfl⟩ := q; refine hc2 _ fun r s₅ q => ?_; obtain ⟨⟨f, rfl⟩, q⟩ := q; exact aP ⟨rfl, q⟩
end
end
section
section
variable {w : World} {c : Cx} {γ γ' : Array aE} {m m' : Mp} {env cenv : Env} {own : List Addr} {ρ ρ' : List VE} {nw nw' : Led} {s s' : Shared} {A : au} {E : VP}
theorem tC {elt t1 i1 t2 i2 : Expr} {ifs : List Expr} {scope : Scope} {pos : Pos} {I : Addr} {ns : List Str} {ce : List VE} {R : Value → Addr → fz → Shared → Prop}
   {fp wr : List Addr} {gw : Nat → Prop} {n : Nat} {V : VH} {St : List Addr → Nat → Shared → Prop}
   (B : Bd w c γ m env own ρ nw s) (T : Itr w A t1 I fp gw n V St) (Inv : Nat → List Value → Mp → List VE → Led → Prop)
   (ok : CompOk scope ns ce ρ)
   (hfp : ∀ b ∈ fp, ∃ o, m b = some o) (hgw : ∀ j, gw j → c.G[j]? = none) (hst : St wr 0 s) (p : Priv wr c m own nw)
   (hs : ∀ cenv x, bA i2 cenv x = pure x)
   (turn : ∀ i v c1 cenv L acc γ m1 ρ' xs nw' s, i < n → EnvOf cenv (cb scope env) L (ka (fun n => env.cells.lookup n) scope.names []) → Inv i xs m1 ρ' nw' → m.le m1 → V i v s.heap → Bd w c1 γ m1 cenv [L] ρ' ((acc, jB xs) :: nw') s →
     wpAny (model PG w) A (bM t1 cenv v) (fun _ s₂ => wpAny (model PG w) A (eval i2 cenv) (fun x s₃ => wpAny (model PG w) A (cC x) (fun it s₄ =>
       kJ w A (.ListComp elt [⟨t1, i1, [], 0⟩, ⟨t2, i2, ifs, 0⟩] scope pos) acc cenv (fun s₅ => ∃ γ' m' ρ' xs' nw', Inv (i + 1) xs' m' ρ' nw' ∧ m.le m' ∧ Bd w c1 γ' m' cenv [L] ρ' ((acc, jB xs') :: nw') s₅) it s₄) NoE s₃) NoE s₂) NoE s)
   (h0 : Inv 0 [] m (ns.map (fun n => ⟨n, none, none⟩) ++ ce) nw)
   (fin : ∀ γ' m' ρ' xs nw' L acc s', Inv n xs m' ρ' nw' → m.le m' → Bd w c γ' m' env own ρ ((L, NsO) :: (acc, jB xs) :: nw') s' → R (.ref acc) L (.ok .next) s') :
   wpAny (model PG w) A (fh []) (fun acc s₃ => wpAny (model PG w) A (cU scope env.globals (ka (fun n => env.cells.lookup n) scope.names []) [] env.qual none .none (some env)) (fun cenv s₄ =>
     cf (model PG w) A (.compStart (.ListComp elt [⟨t1, i1, [], 0⟩, ⟨t2, i2, ifs, 0⟩] scope pos) 0 (.ref I) acc { cenv with scope := cb scope env }) (R acc cenv.locals) s₄) NoE s₃) NoE s := by
 exact sy (t0 := 0) B T ok (be _) hst p fun c1 cenv L acc s2 hE hG ht2 C st2 p2 back => comp2_itr T Inv hfp (hG ▸ hgw) (hs _) (fun i v c2 γ m ρ xs nw s hi hI hm hv B' => turn i v c2 _ L acc γ m ρ xs nw s hi hE hI hm hv B') (fun γ' m' ρ' xs nw' s' hI hm B' => fin γ' m' ρ' xs nw' L acc s' hI hm (back _ _ _ _ _ _ B')) h0 .rfl C st2 p2
noncomputable def Lc2Go (w : World) (A : au) (env : Env) (elt t1 i1 t2 i2 : Expr) (ifs : List Expr) (scope : Scope) (pos : Pos) (use : Option (Value → Sem Unit)) (E : VP) (Q : VP) (it : Value) (s : Shared) : Prop :=
 wpAny (model PG w) A (fh []) (fun acc s₃ => wpAny (model PG w) A (cU scope env.globals (ka (fun n => env.cells.lookup n) scope.names []) [] env.qual none .none (some env)) (fun cenv s₄ =>
     cf (model PG w) A (.compStart (.ListComp elt [⟨t1, i1, [], 0⟩, ⟨t2, i2, ifs, 0⟩] scope pos) 0 it acc { cenv with scope := cb scope env }) (gf (model PG w) A E use Q acc cenv.locals) s₄) NoE s₃) NoE s
theorem lc2_eval {elt t1 i1 t2 i2 : Expr} {ifs : List Expr} {scope : Scope} {pos : Pos} {Q : VP} (B : Bd w c γ m env own ρ nw s) (ce : List VE)
   (hce : ∀ e ∈ ce, e ∈ ρ ∧ ∃ a, e.cel = some a) (hf : oN scope ce = true) (hk : scope.kind = .function) (hnm : (scope.names.all fun z => z.2 != .local || scope.names.lookup z.1 == some .local) = true)
   (h : wpAny (model PG w) A (eval i1 env) (fun x s₁ => wpAny (model PG w) A (cC x) (fun it s₂ => Lc2Go w A env elt t1 i1 t2 i2 ifs scope pos none E Q it s₂) NoE s₁) NoE s)
   (hs : ∀ x, bA i1 env x = pure x := by intro _; rfl) : wpAny (model PG w) A (eval (.ListComp elt [⟨t1, i1, [], 0⟩, ⟨t2, i2, ifs, 0⟩] scope pos) env) Q E s := by
 rw [eval_ListComp]; refine ek (use := none) rfl hs (lJ B hce hf) hk (fun z hz hl => ?_) (noE (am h (fun xv s₁ h₁ => noE (am h₁ (fun it s₂ h₂ => ?_) fun _ _ e => e)) fun _ _ e => e))
 · have := aA.mp hnm z hz; rw [hl] at this; simpa using this
 exact noE (am h₂ (fun _ _ h₃ => noE h₃) fun _ _ e => e)
theorem sW {elt t1 i1 t2 i2 : Expr} {ifs : List Expr} {scope : Scope} {pos py spos : Pos} {y : Str} {Q : Flow → Shared → Prop} (B : Bd w c γ m env own ρ nw s) (ce : List VE)
   (hce : ∀ e ∈ ce, e ∈ ρ ∧ ∃ a, e.cel = some a) (hf : oN scope ce = true) (hk : scope.kind = .function) (hnm : (scope.names.all fun z => z.2 != .local || scope.names.lookup z.1 == some .local) = true)
   (hy : env.kindOf y = some .local) (hsw : (py.line == (eM elt [⟨t1, i1, [], 0⟩, ⟨t2, i2, ifs, 0⟩] scope pos).pos.line && !(scope.names.any fun (n, k) => n == y && (k == .local || k == .cell))) = true)
   (h : wpAny (model PG w) A (eval i1 env) (fun x s₁ => wpAny (model PG w) A (cC x) (fun it s₂ => Lc2Go w A env elt t1 i1 t2 i2 ifs scope pos (some (bM (.Name y py) env)) E (fun _ s' => Q .next s') it s₂) NoE s₁) NoE s)
   (hs : ∀ x, bA i1 env x = pure x := by intro _; rfl) : wpAny (model PG w) A (exec (.Assign [.Name y py] (.ListComp elt [⟨t1, i1, [], 0⟩, ⟨t2, i2, ifs, 0⟩] scope pos) spos) env) Q E s := by
 rw [exec_Assign_Name_used _ _ _ _ (swaps_t B.vars hy hsw)]; refine ai (bP (ai ?_)); show wpAny _ A (do let _ ← comprehension (.ListComp elt [⟨t1, i1, [], 0⟩, ⟨t2, i2, ifs, 0⟩] scope pos) scope env _ (fh []) false (eval i1 env) (some (bM (.Name y py) env))) _ _ s
 refine ai (am (ek (use := some (bM (.Name y py) env)) (Q := fun _ s' => Q .next s') rfl hs (lJ B hce hf) hk (fun z hz hl => ?_)
   (noE (am h (fun xv s₁ h₁ => noE (am h₁ (fun it s₂ h₂ => ?_) fun _ _ e => e)) fun _ _ e => e))) (fun _ s' hq => aP (aP hq)) fun _ _ e => e)
 · have := aA.mp hnm z hz; rw [hl] at this; simpa using this
 exact noE (am h₂ (fun _ _ h₃ => noE h₃) fun _ _ e => e)
section
variable {elt t1 i1 t2 i2 : Expr} {ifs : List Expr} {scope : Scope} {pos : Pos} {I : Addr} {n : Nat} {V : VH}
theorem si {I2 acc : Addr} {k : Nat} {V2 : VH} {xs : List Value} {R : Shared → Prop} (B : Bd w c γ m env own ρ ((acc, jB xs) :: nw) s) (T : Src w A t2 c m own ((acc, jB xs) :: nw) I2 k V2 s) (W : VH)
   (hz : xs.length + k ≤ aS)
   (turn : ∀ j v c2 γ m2 nw2 s, j < k → m.le m2 → V2 j v s.heap → (∀ q ∈ nw, q ∈ nw2) → Bd w c2 γ m2 env own (me ρ) nw2 s →
     wpAny (model PG w) A (bM t2 env v) (fun _ s₂ => wpAny (model PG w) A (kz ifs env) (fun ok s₃ =>
         ok = true ∧ wpAny (model PG w) A (eval elt env) (fun x s₄ => kF w c2 env own (me ρ) nw2 m2 (W j x) s₄) NoE s₃) NoE s₂) NoE s)
   (fin : ∀ γ' m' ys s', m.le m' → All2 (fun x j => Kn m' (W j x)) ys (ae k) → Bd w c γ' m' env own (me ρ) ((acc, jB (xs ++ ys)) :: nw) s' → R s') :
   kJ w A (.ListComp elt [⟨t1, i1, [], 0⟩, ⟨t2, i2, ifs, 0⟩] scope pos) acc env R (.ref I2) s := by
 refine x45 T fun fp gw St wr T hfp hgw hst hpr => ?_; have hff : me (me ρ) = me ρ := by
   unfold me; rw [aT]; refine bW fun e _ => ?_; cases e with
   | mk nm cl vl => cases cl <;> rfl
 refine ⟨I2, rfl, ?_, am (T.self wr 0 s (fun it s' => it = .ref I2 ∧ s' = s) hst ⟨rfl, rfl⟩) (fun _ _ q => q) fun _ _ x => x⟩; refine qj (t0 := 0) .two T (fun j zs m1 ρ' nw' => ρ' = me ρ ∧ nw' = nw ∧ ∃ ys, zs = xs ++ ys ∧ ys.length = j ∧ All2 (fun x j => Kn m1 (W j x)) ys (ae j)) hfp hgw ?_ ?_ ⟨rfl, rfl, [], by simp, rfl, .nil⟩ .rfl B.forget (be _) hst hpr
 · rintro j v c2 γ m2 ρ' zs nw' s hj _ ⟨rfl, rfl, ys, rfl, hyl, hys⟩ hm hv B _; refine am (turn j v c2 γ m2 _ s hj hm hv (fun q hq => .tail _ hq) B) (fun _ s₂ h₂ => am h₂ (fun ok s₃ h₃ => ?_) fun _ _ e => e) fun _ _ e => e; obtain ⟨rfl, h₃⟩ := h₃; rw [if_pos rfl]; refine am h₃ (fun x s₄ h₄ => ?_) fun _ _ e => e; refine x34 h₄ fun γ' m' ρ' h1 h2 h3 h4 => ?_; refine ⟨γ', m', _, nw', by rw [aw]; exact a17 hz hj hyl, ⟨rfl, rfl, ys ++ [x], by simp, by simp [hyl], ?_⟩, hm.trans h1, by rw [← hff, ← h3]; exact h4.forget⟩; rw [eV]; exact (hys.imp fun _ _ k => k.up h1).append (.cons h2 .nil)
 rintro γ' m' ρ' zs nw' s' ⟨rfl, rfl, ys, rfl, hyl, hys⟩ hm B; exact ⟨⟨_, rfl⟩, fin γ' m' ys s' hm hys B⟩
theorem r9 {R : Value → Addr → fz → Shared → Prop} (B : Bd w c γ m env own ρ nw s) (T : Src w A t1 c m own nw I n V s) (ce : List VE) (ns : List Str) (Z : Nat → List Value → Mp → Prop)
   (ok : CompOk scope ns ce ρ)
   (hs : ∀ cenv x, bA i2 cenv x = pure x) (z0 : Z 0 [] m)
   (turn : ∀ i v c1 cenv L acc γ m1 xs s, i < n → EnvOf cenv (cb scope env) L (ka (fun n => env.cells.lookup n) scope.names []) → m.le m1 → V i v s.heap → Z i xs m1 →
     Bd w c1 γ m1 cenv [L] (ns.map (fun n => ⟨n, none, none⟩) ++ ce) ((acc, jB xs) :: nw) s →
     wpAny (model PG w) A (bM t1 cenv v) (fun _ s₂ => wpAny (model PG w) A (eval i2 cenv) (fun x s₃ => wpAny (model PG w) A (cC x) (fun it s₄ =>
       kJ w A (.ListComp elt [⟨t1, i1, [], 0⟩, ⟨t2, i2, ifs, 0⟩] scope pos) acc cenv (fun s₅ => ∃ γ' m' ρ' ys, m1.le m' ∧ Z (i + 1) (xs ++ ys) m' ∧ me ρ' = me (ns.map (fun n => ⟨n, none, none⟩) ++ ce) ∧ Bd w c1 γ' m' cenv [L] ρ' ((acc, jB (xs ++ ys)) :: nw) s₅) it s₄) NoE s₃) NoE s₂) NoE s)
   (fin : ∀ γ' m' xs L acc s', m.le m' → Z n xs m' → Bd w c γ' m' env own ρ ((L, NsO) :: (acc, jB xs) :: nw) s' → R (.ref acc) L (.ok .next) s') :
   wpAny (model PG w) A (fh []) (fun acc s₃ => wpAny (model PG w) A (cU scope env.globals (ka (fun n => env.cells.lookup n) scope.names []) [] env.qual none .none (some env)) (fun cenv s₄ =>
     cf (model PG w) A (.compStart (.ListComp elt [⟨t1, i1, [], 0⟩, ⟨t2, i2, ifs, 0⟩] scope pos) 0 (.ref I) acc { cenv with scope := cb scope env }) (R acc cenv.locals) s₄) NoE s₃) NoE s := by
 refine x45 T fun fp gw St wr T hfp hgw hst hpr => ?_; have hforg : me (ns.map (fun n => (⟨n, none, none⟩ : VE)) ++ ce) = ns.map (fun n => ⟨n, none, none⟩) ++ ce := by
   unfold me; rw [aM, aT]; congr 1
   conv => rhs; rw [← eR ce]
   refine bW fun e he => ?_; obtain ⟨_, a, ha⟩ := ok.hce e he; cases e with
   | mk nm cl vl => simp only at ha; subst ha; rfl
 refine tC (ns := ns) (ce := ce) B T (fun i xs m1 ρ' nw' => ρ' = ns.map (fun n => ⟨n, none, none⟩) ++ ce ∧ nw' = nw ∧ Z i xs m1) ok hfp hgw hst hpr hs ?_ ⟨rfl, rfl, z0⟩ ?_
 · rintro i v c1 cenv L acc γ m1 ρ' xs nw' s hi hE ⟨rfl, rfl, hz⟩ hm hv B; refine am (turn i v c1 cenv L acc γ m1 xs s hi hE hm hv hz B) (fun _ s₂ h₂ => am h₂ (fun x s₃ h₃ => am h₃ (fun it s₄ h₄ => ?_) fun _ _ e => e) fun _ _ e => e) fun _ _ e => e; obtain ⟨I2, rfl, hc, hp⟩ := h₄; refine ⟨I2, rfl, c9 hc fun r s₅ q => ⟨q.1, ?_⟩, hp⟩; refine x44 q.2 fun γ' m' ρ' ys h1 h2 h3 h4 => ?_; exact ⟨γ', m', _, _, nw', ⟨rfl, rfl, h2⟩, hm.trans h1, by rw [← hforg, ← h3]; exact h4.forget⟩
 rintro γ' m' ρ' xs nw' L acc s' ⟨rfl, rfl, hz⟩ hm B; exact fin γ' m' xs L acc s' hm hz B
theorem lc2_go {Q : VP} (B : Bd w c γ m env own ρ nw s) (T : Src w A t1 c m own nw I n V s) (ce : List VE) (ns : List Str) (Z : Nat → List Value → Mp → Prop) (Zup : ∀ i xs m m', m.le m' → Z i xs m → Z i xs m')
   (ok : CompOk scope ns ce ρ)
   (hs : ∀ cenv x, bA i2 cenv x = pure x) (z0 : Z 0 [] m)
   (turn : ∀ i v c1 cenv L acc γ m1 xs s, i < n → EnvOf cenv (cb scope env) L (ka (fun n => env.cells.lookup n) scope.names []) → m.le m1 → V i v s.heap → Z i xs m1 →
     Bd w c1 γ m1 cenv [L] (ns.map (fun n => ⟨n, none, none⟩) ++ ce) ((acc, jB xs) :: nw) s →
     wpAny (model PG w) A (bM t1 cenv v) (fun _ s₂ => wpAny (model PG w) A (eval i2 cenv) (fun x s₃ => wpAny (model PG w) A (cC x) (fun it s₄ =>
       kJ w A (.ListComp elt [⟨t1, i1, [], 0⟩, ⟨t2, i2, ifs, 0⟩] scope pos) acc cenv (fun s₅ => ∃ γ' m' ρ' ys, m1.le m' ∧ Z (i + 1) (xs ++ ys) m' ∧ me ρ' = me (ns.map (fun n => ⟨n, none, none⟩) ++ ce) ∧ Bd w c1 γ' m' cenv [L] ρ' ((acc, jB (xs ++ ys)) :: nw) s₅) it s₄) NoE s₃) NoE s₂) NoE s)
   (fin : ∀ γ' m' xs a s', m.le m' → Kn m' (At a (jB xs)) → Z n xs m' → Bd w c γ' m' env own ρ nw s' → Q (.ref a) s') :
   Lc2Go w A env elt t1 i1 t2 i2 ifs scope pos none E Q (.ref I) s := by
 refine r9 (R := fun acc C => gf (model PG w) A E none Q acc C) B T ce ns Z ok hs z0 turn fun γ' m' xs L acc s' hm hz B' => ?_; obtain ⟨mp, hn⟩ := NsO.ns (B'.at (.head _)); refine ⟨mp, hn, fun h' hs => ?_⟩; have B2 : Bd w c γ' m' env own ρ ((acc, jB xs) :: nw) ⟨h', s'.gens, s'.drawn, s'.toks, s'.os⟩ := B'.lose1 (jT hs); refine x13 B2.freeze fun m2 h1 h2 h3 => ?_; exact fin γ' m2 xs acc _ (hm.trans h1) h2 (Zup _ _ _ _ h1 hz) h3
end
end
end
section
section
variable {w : World} {c : Cx} {γ γ' : Array aE} {m m' : Mp} {env cenv : Env} {own : List Addr} {ρ ρ' : List VE} {nw nw' : Led} {s s' : Shared} {A : au} {E : VP}
theorem i_neg {a : Int} {t : Tok} {Q : VP} (B : Bd w c γ m env own ρ nw s) (h : ∀ t s', Bd w c γ m env own ρ nw s' → Q (.int (-a) t) s') : wpAny (model PG w) A (unaryOp .USub (.int a t)) Q E s := PyProof.Rows.neg_int (h _ _ (B.tk _ _))
theorem Bd.aft1 {a : Addr} {P P' : Obj → Prop} (B : Bd w c γ m env own ρ nw s) (u : Upd a P P' nw nw') (f : Aft [a] m s m' s') (hP : At a P' s'.heap) : Bd w c s'.gens m' env own ρ nw' s' := by
 have hm : a ∈ own ++ nw.map (·.1) := an.mpr (.inr (aF u.mem)); have hn := B.nodup; rw [aH] at hn; have ne : ∀ {b : Addr}, b ≠ a → b ∉ [a] := fun h hb => h (mSg hb); refine ⟨fun b o e => f.keep b o (B.old b o e) (ne (B.old_ne e hm)), f.ok, fun b o e => (f.low b o (B.old b o e)).trans (B.low b o e), B.gr.up f.le, B.ble.trans f.le, f.os.trans B.os, rfl, fun i x e => f.gens i x (B.gens ▸ B.gpre i x e), f.bare, B.vars.keep fun b o hb e => f.keep b o e (ne ?_), B.cin, B.caps, fun b hb => ?_, fun p hp => ?_, by rw [u.keys]; exact B.nodup, fun b hb => ?_⟩
 · rcases hb with rfl | ⟨x, hx, hc⟩
   · exact fun e => hn.2.2 _ B.vars.loc a (aF u.mem) e
   rcases B.cin x hx b hc with h | h
   · exact fun e => hn.2.2 _ h a (aF u.mem) e
   obtain ⟨ob, hob⟩ := B.caps b h; exact B.old_ne hob hm
 · obtain ⟨o, ho⟩ := B.ownok b hb; exact ⟨o, f.keep b o ho (ne fun e => hn.2.2 b hb a (aF u.mem) e)⟩
 · rcases u.split hn.2.1 p hp with rfl | ⟨h1, h2⟩
   · exact hP
   refine x12 (B.ledok p h2) fun o ho q => ?_; exact ⟨o, f.keep _ o ho (ne h1), q⟩
 rw [u.keys] at hb; have h0 := B.out b hb; refine ⟨?_, h0.2⟩; have : ∃ o, s.heap.get? b = some o := by
   rcases mAp hb with h | h
   · exact B.ownok b h
   obtain ⟨p, hp, rfl⟩ := mMa h; refine x12 (B.ledok p hp) fun o ho _ => ?_; exact ⟨o, ho⟩
 obtain ⟨o, ho⟩ := this; rw [f.low b o ho]; exact h0.1
theorem Bd.led1 {a : Addr} {P : Obj → Prop} (B : Bd w c γ m env own ρ nw s) (h : (a, P) ∈ nw) : LedOk m s [(a, P)] :=
 ⟨fun p hp => by rcases mSg hp with rfl; exact B.ledok _ h, fun p hp => by rcases mSg hp with rfl; exact (B.out _ (an.mpr (.inr (aF h)))).1, by simp⟩
end
end
section
section
variable {w : World} {c : Cx} {γ γ' : Array aE} {m m' : Mp} {env cenv : Env} {own : List Addr} {ρ ρ' : List VE} {nw nw' : Led} {s s' : Shared} {A : au} {E : VP}
theorem src_listA {l : Addr} {vs : List Value} {Q : VP} (B : Bd w c γ m env own ρ nw s) (hh : A.handled = none) (hk : ∃ o, m l = some o ∧ jB vs o)
   (h : ∀ I s', Bd w c γ m env own ρ nw s' → (∀ target, Src w A target c m own nw I vs.length (fun i v _ => vs[i]? = some v) s') → Q (.ref I) s') : wpAny (model PG w) A (cC (.ref l)) Q E s := by
 refine x12 hk fun o ho hP => ?_; have hl : s.heap.IsList l vs.toArray := At.list ⟨o, B.ok _ _ ho, hP⟩; refine iv hl (h _ _ (B.grow (jA _)) fun target => ⟨[l], _, _, [s.heap.objs.size], Itr.list hh (ci (aJ (B.ok _ _ ho))) vs, fun b hb => ?_, fun _ h => h.elim, ⟨rfl, ⟨_, aG _ rfl, rfl, rfl⟩, hl.at fun o e => jA _ _ o e⟩, B.privOf fun b hb => by simp at hb; exact bd hb.symm⟩); rcases mSg hb with rfl
 exact ⟨o, ho⟩
theorem sM {k : Nat} {r : Addr} {Q : VP} (B : Bd w c γ m env own ρ nw s) (hh : A.handled = none) (hr : At r (RangeO k) s.heap) (hsm : bO 0 k 1 = true)
   (h : ∀ I s', Bd w c γ m env own ρ nw s' → (∀ x p, Src w A (.Name x p) c m own nw I k (fun i v _ => ∃ t, v = .int i t) s') → Q (.ref I) s') :
   wpAny (model PG w) A (cC (.ref r)) Q E s := by
 obtain ⟨o, ho, t, u, v, rfl⟩ := hr; refine wpAny_pyIter_range ho hsm ?_; have T : ∀ x p, Itr w A (.Name x p) s.heap.objs.size [] (fun _ => False) k (fun i v _ => ∃ t, v = .int i t) (fun wr' i s' => wr' = [s.heap.objs.size] ∧ IsRangeIter s'.heap s.heap.objs.size (0 + (i : Nat) * 1) ((k : Int) - (i : Nat)) 1) := fun x p => by
   have := Itr.ofW (x := x) (p := p) (Walks.range (prog := PG) (w := w) hh s.heap.objs.size 0 1 k) [] (fun b hb => .inl hb) fun i h st b hb => by
     rcases mSg hb with rfl
     exact ⟨_, st⟩
   simpa using this
 refine h _ _ (B.grow (jA _)) fun x p => ⟨[], _, _, _, T x p, fun b hb => (nomatch hb), fun _ h => h.elim, ⟨rfl, ?_⟩, B.privOf fun b hb => by simp at hb; exact bd hb.symm⟩; show (hZ _ _) = _
 rw [show (⟨s.heap.push { cls := .type "range_iterator", data := .fields #[gn 0, gn (di 0 k 1), gn 1] }, s.gens, s.drawn, s.toks, s.os⟩ : Shared).heap.get? s.heap.objs.size = _ from aG _ rfl, nv (a12)]
 simp
theorem Src.mono {target : Expr} {I : Addr} {n : Nat} {V V' : VH} (T : Src w A target c m own nw I n V s) (h : ∀ i v hp, i < n → V i v hp → V' i v hp) : Src w A target c m own nw I n V' s := by
 refine x45 T fun fp gw St wr T a b d e => ?_; exact ⟨fp, gw, St, wr, ⟨T.frame, T.live, fun wr i s Q hi hst k => T.item wr i s Q hi hst fun v s' wr' x y z u => k v s' wr' x y (h i v _ hi z) u, T.done, T.self⟩, a, b, d, e⟩
end
end
section
theorem nY (ch j : Nat) : (dR ((ch : Int).fdiv (2 ^ (j : Int).toNat)) 1 != 0) = ch.testBit j := by
 rw [bitAnd_m1, bf, cy _ (by exact_mod_cast be _)]; have e : ((ch : Int) / 2 ^ j % 2) = ((ch / 2 ^ j % 2 : Nat) : Int) := by push_cast; rfl
 rw [e, eC]; have h : ch / 2 ^ j % 2 < 2 := bR _ (by decide); generalize ch / 2 ^ j % 2 = r at h; revert r; exact lt2 rfl rfl
section
variable {w : World} {c : Cx} {γ γ' : Array aE} {m m' : Mp} {env cenv : Env} {own : List Addr} {ρ ρ' : List VE} {nw nw' : Led} {s s' : Shared} {A : au} {E : VP}
theorem Bd.vals {xs : List Value} {is : List Nat} {f : Nat → Value} (B : Bd w c γ m env own ρ nw s) (h : All2 (fun x i => Kn m (fun _ => x = f i)) xs is) : xs = is.map f := by
 induction h with
 | nil => rfl
 | cons h _ ih => rw [ag, ← ih, B.kn h]
end
end
section
inductive Ce (ρ : List VE) : List VE → Prop
 | nil : Ce ρ []
 | cons {n : Str} {a : Addr} {v : Option Value} {l : List VE} (h : (⟨n, some a, v⟩ : VE) ∈ ρ) (r : Ce ρ l) : Ce ρ (⟨n, some a, v⟩ :: l)
theorem Ce.all {ρ l : List VE} (h : Ce ρ l) : ∀ e ∈ l, e ∈ ρ ∧ ∃ a, e.cel = some a := by
 induction h with
 | nil => exact ce_nil
 | cons h _ ih => exact ce_cons h ih
noncomputable def apart : List Str → Bool
 | [] => true
 | x :: l => !l.contains x && apart l
theorem nodup_of : ∀ {l : List Str}, apart l = true → l.Nodup := by
 intro l; induction l with
 | nil => intro _; exact .nil
 | cons x l ih =>
   intro h; unfold apart at h; rw [co] at h; exact aB.mpr ⟨by simpa using h.1, ih h.2⟩
noncomputable def Tn (ρ ρ' : List VE) : Prop := me ρ' = me ρ
theorem Tn.rfl {ρ : List VE} : Tn ρ ρ := Eq.refl _
theorem forg_put {x : Str} {v : Value} {ρ ρ' : List VE} (p : PutV x none v ρ ρ') : me ρ' = me ρ := by
 induction p with
 | head => exact Eq.refl _
 | tail _ ih =>
   unfold me at *
   rw [ag, ag, ih]
theorem Tn.put {x : Str} {v : Value} {ρ ρ₁ ρ₂ : List VE} (h : Tn ρ ρ₁) (p : PutV x none v ρ₁ ρ₂) : Tn ρ ρ₂ := (forg_put p).trans h
section
variable {w : World} {c : Cx} {γ γ' : Array aE} {m m' : Mp} {env cenv : Env} {own : List Addr} {ρ ρ' : List VE} {nw nw' : Led} {s s' : Shared} {A : au} {E : VP}
noncomputable def LcK (w : World) (c : Cx) (env : Env) (own : List Addr) (ρ : List VE) (nw : Led) (m : Mp) (P : Value → Heap → Prop) (Qx : VP) : Prop :=
 ∀ x s, kF w c env own ρ nw m (P x) s → Qx x s
theorem LcK.go {P : Value → Heap → Prop} {Qx : VP} {x : Value} (k : LcK w c env own ρ nw m P Qx) (t : Tn ρ ρ') (B : Bd w c γ m' env own ρ' nw s) (hm : m.le m') (hP : Kn m' (P x)) : Qx x s :=
 k x s ⟨γ, m', ρ', hm, hP, t, B⟩
noncomputable def LcT (w : World) (c : Cx) (A : au) (env : Env) (own : List Addr) (ρ : List VE) (nw : Led) (m : Mp) (elt : Expr) (b : Bool) (P : Value → Heap → Prop) (Qt : Bool → Shared → Prop) : Prop :=
 ∀ s, (b = true → ∀ Qx, LcK w c env own ρ nw m P Qx → wpAny (model PG w) A (eval elt env) Qx NoE s) → (b = false → kF w c env own ρ nw m (fun _ => True) s) → Qt b s
theorem LcT.go {elt : Expr} {b b' : Bool} {P : Value → Heap → Prop} {Qt : Bool → Shared → Prop} (k : LcT w c A env own ρ nw m elt b P Qt) (e : b' = b) (t : Tn ρ ρ') (B : Bd w c γ m' env own ρ' nw s) (hm : m.le m')
   (h : b = true → ∀ Qx, LcK w c env own ρ nw m P Qx → wpAny (model PG w) A (eval elt env) Qx NoE s) : Qt b' s := by
 subst e; exact k s h fun _ => ⟨γ, m', ρ', hm, fun _ _ => trivial, t, B⟩
theorem jH {elt target iter : Expr} {ifs : List Expr} {scope : Scope} {pos : Pos} {Q : VP} (B : Bd w c γ m env own ρ nw s) (ce : List VE)
   (hce : Ce ρ ce) (hf : oN scope ce = true) (hk : scope.kind = .function) (hnm : (scope.names.all fun z => z.2 != .local || scope.names.lookup z.1 == some .local) = true)
   (h : wpAny (model PG w) A (eval iter env) (fun x s₁ => wpAny (model PG w) A (cC x) (fun it s₂ => tK w A env elt target iter ifs scope pos none E Q it s₂) NoE s₁) NoE s)
   (hs : ∀ x, bA iter env x = pure x := by intro _; rfl) : wpAny (model PG w) A (eval (.ListComp elt [⟨target, iter, ifs, 0⟩] scope pos) env) Q E s :=
 lc_eval B ce hce.all hf hk hnm h hs
theorem ma {elt target iter : Expr} {ifs : List Expr} {scope : Scope} {pos py spos : Pos} {y : Str} {Q : Flow → Shared → Prop} (B : Bd w c γ m env own ρ nw s) (ce : List VE)
   (hce : Ce ρ ce) (hf : oN scope ce = true) (hk : scope.kind = .function) (hnm : (scope.names.all fun z => z.2 != .local || scope.names.lookup z.1 == some .local) = true)
   (hy : env.kindOf y = some .local) (hsw : (py.line == (eM elt [⟨target, iter, ifs, 0⟩] scope pos).pos.line && !(scope.names.any fun (n, k) => n == y && (k == .local || k == .cell))) = true)
   (h : wpAny (model PG w) A (eval iter env) (fun x s₁ => wpAny (model PG w) A (cC x) (fun it s₂ => tK w A env elt target iter ifs scope pos (some (bM (.Name y py) env)) E (fun _ s' => Q .next s') it s₂) NoE s₁) NoE s)
   (hs : ∀ x, bA iter env x = pure x := by intro _; rfl) : wpAny (model PG w) A (exec (.Assign [.Name y py] (.ListComp elt [⟨target, iter, ifs, 0⟩] scope pos) spos) env) Q E s :=
 lc_assign B ce hce.all hf hk hnm hy hsw h hs
section
variable {elt target iter e1 : Expr} {scope : Scope} {pos : Pos} {I : Addr} {n : Nat} {V : VH} {Q : VP}
noncomputable def TurnA (w : World) (A : au) (env : Env) (elt target : Expr) (scope : Scope) (m : Mp) (n : Nat) (V : VH) (ce : List VE) (ns : List Str) (W : VH) : Prop :=
 ∀ i v c1 cenv L γ m1 own ρ nw s, i < n → EnvOf cenv (cb scope env) L (ka (fun n => env.cells.lookup n) scope.names []) → m.le m1 → V i v s.heap → (∀ e ∈ ce, e ∈ ρ) → (∀ x ∈ ns, Hn x none ρ) →
   Bd w c1 γ m1 cenv own ρ nw s → ∀ Qx, LcK w c1 cenv own ρ nw m1 (W i) Qx → wpAny (model PG w) A (bM target cenv v) (fun _ s₂ => wpAny (model PG w) A (eval elt cenv) Qx NoE s₂) NoE s
noncomputable def TurnB (w : World) (A : au) (env : Env) (elt target e1 : Expr) (scope : Scope) (m : Mp) (n : Nat) (V : VH) (ce : List VE) (ns : List Str) (p : Nat → Bool) (W : VH) : Prop :=
 ∀ i v c1 cenv L γ m1 own ρ nw s, i < n → EnvOf cenv (cb scope env) L (ka (fun n => env.cells.lookup n) scope.names []) → m.le m1 → V i v s.heap → (∀ e ∈ ce, e ∈ ρ) → (∀ x ∈ ns, Hn x none ρ) →
   Bd w c1 γ m1 cenv own ρ nw s → ∀ Qt, LcT w c1 A cenv own ρ nw m1 elt (p i) (W i) Qt → wpAny (model PG w) A (bM target cenv v) (fun _ s₂ => wpAny (model PG w) A (isTrue e1 cenv (eval e1 cenv)) Qt NoE s₂) NoE s
theorem TurnA.to {ce : List VE} {ns : List Str} {W : VH} (h : TurnA w A env elt target scope m n V ce ns W) :
   ∀ i v c1 cenv L γ m1 nw1 s, i < n → EnvOf cenv (cb scope env) L (ka (fun n => env.cells.lookup n) scope.names []) → m.le m1 → V i v s.heap → (∀ q ∈ nw, q ∈ nw1) →
     Bd w c1 γ m1 cenv [L] (ns.map (fun n => ⟨n, none, none⟩) ++ ce) nw1 s →
     wpAny (model PG w) A (bM target cenv v) (fun _ s₂ => wpAny (model PG w) A (kz [] cenv) (fun ok s₃ =>
         ok = (fun _ => true) i ∧ if ok = true then wpAny (model PG w) A (eval elt cenv) (fun x s₄ => kF w c1 cenv [L] (ns.map (fun n => ⟨n, none, none⟩) ++ ce) nw1 m1 (W i x) s₄) NoE s₃
         else kF w c1 cenv [L] (ns.map (fun n => ⟨n, none, none⟩) ++ ce) nw1 m1 (fun _ => True) s₃) NoE s₂) NoE s := fun i v c1 cenv L γ m1 nw1 s h1 h2 h3 h4 _ B =>
 am (h i v c1 cenv L γ m1 _ _ nw1 s h1 h2 h3 h4 (fun e he => an.mpr (.inr he)) (fun x hx => ⟨none, an.mpr (.inl (aF (f := fun n => (⟨n, none, none⟩ : VE)) hx))⟩) B _ fun _ _ t => t) (fun _ s₂ h => kU ⟨rfl, by rw [if_pos rfl]; exact h⟩) fun _ _ x => x
structure CeOk (scope : Scope) (ns : List Str) (ce ρ : List VE) : Prop where
 hk : scope.kind = .function
 hcell : (scope.names.all fun x => x.2 != .cell) = true
 hns : (ns.all fun n => scope.names.lookup n == some .local) = true
 hce : Ce ρ ce
 hcf : (ce.all fun e => scope.names.lookup e.name == some .free) = true
 hnd : apart (ns ++ ce.map (·.name)) = true
theorem CeOk.all {ns : List Str} {ce : List VE} (h : CeOk scope ns ce ρ) : CompOk scope ns ce ρ := ⟨h.hk, h.hcell, h.hns, h.hce.all, h.hcf, nodup_of h.hnd⟩
theorem ln (B : Bd w c γ m env own ρ nw s) (T : Src w A target c m own nw I n V s) (ce : List VE) (ns : List Str) (W : VH)
   (ok : CeOk scope ns ce ρ) (hz : n ≤ aS)
   (turn : TurnA w A env elt target scope m n V ce ns W)
   (fin : ∀ γ' m' xs a s', m.le m' → Kn m' (At a (jB xs)) → All2 (fun x i => Kn m' (W i x)) xs (ae n) → Bd w c γ' m' env own ρ nw s' → Q (.ref a) s') :
   tK w A env elt target iter [] scope pos none E Q (.ref I) s := by
 refine lc_go B T ce ns (fun _ => true) W ok.all hz turn.to fun γ' m' xs a s' h1 h2 h3 B => ?_; rw [lC] at h3; exact fin γ' m' xs a s' h1 h2 h3 B
theorem m0 {y : Str} {py : Pos} (B : Bd w c γ m env own ρ nw s) (T : Src w A target c m own nw I n V s) (ce : List VE) (ns : List Str) (W : VH)
   (ok : CeOk scope ns ce ρ) (hz : n ≤ aS) (hput : Hn y none ρ)
   (turn : TurnA w A env elt target scope m n V ce ns W)
   (fin : ∀ γ' m' xs a ρ' s', m.le m' → Kn m' (At a (jB xs)) → All2 (fun x i => Kn m' (W i x)) xs (ae n) → PutV y none (.ref a) ρ ρ' → Bd w c γ' m' env own ρ' nw s' → Q .none s') :
   tK w A env elt target iter [] scope pos (some (bM (.Name y py) env)) E Q (.ref I) s := by
 refine lc_go_to B T ce ns (fun _ => true) W ok.all hz hput turn.to fun γ' m' xs a ρ' s' h1 h2 h3 p B => ?_; rw [lC] at h3; exact fin γ' m' xs a ρ' s' h1 h2 h3 p B
theorem mZ (B : Bd w c γ m env own ρ nw s) (T : Src w A target c m own nw I n V s) (ce : List VE) (ns : List Str) (p : Nat → Bool) (W : VH)
   (ok : CeOk scope ns ce ρ) (hz : n ≤ aS)
   (turn : TurnB w A env elt target e1 scope m n V ce ns p W)
   (fin : ∀ γ' m' xs a s', m.le m' → Kn m' (At a (jB xs)) → All2 (fun x i => Kn m' (W i x)) xs ((ae n).filter p) → Bd w c γ' m' env own ρ nw s' → Q (.ref a) s') :
   tK w A env elt target iter [e1] scope pos none E Q (.ref I) s := by
 refine lc_go B T ce ns p W ok.all hz (fun i v c1 cenv L γ m1 nw1 s h1 h2 h3 h4 _ B => ?_) fin
 refine am (turn i v c1 cenv L γ m1 _ _ nw1 s h1 h2 h3 h4 (fun e he => an.mpr (.inr he)) (fun x hx => ⟨none, an.mpr (.inl (aF (f := fun n => (⟨n, none, none⟩ : VE)) hx))⟩) B
   (fun ok s₃ => ok = p i ∧ if ok = true then wpAny (model PG w) A (eval elt cenv) (fun x s₄ => kF w c1 cenv [L] (ns.map (fun n => ⟨n, none, none⟩) ++ ce) nw1 m1 (W i x) s₄) NoE s₃
         else kF w c1 cenv [L] (ns.map (fun n => ⟨n, none, none⟩) ++ ce) nw1 m1 (fun _ => True) s₃) fun s₃ ht hf => ⟨rfl, ?_⟩) (fun _ s₂ h => tests_one h) fun _ _ x => x
 exact ky (fun hb => ht hb _ fun _ _ t => t) fun hb => hf hb
end
end
end
section
noncomputable def BIt (b : Array UInt8) (t : Tok) (i : Nat) (o : Obj) : Prop := o.cls = .type "bytes_iterator" ∧ o.data = .fields #[.bytes b t, .int i 0]
theorem At.bit {h : Heap} {a : Addr} {b : Array UInt8} {t : Tok} {i : Nat} (x : At a (BIt b t i) h) : fX h a b t i := by obtain ⟨o, ho, hc, hd⟩ := x; exact ⟨o, ho, hc, hd⟩
section
variable {w : World} {c : Cx} {γ γ' : Array aE} {m m' : Mp} {env cenv : Env} {own : List Addr} {ρ ρ' : List VE} {nw nw' : Led} {s s' : Shared} {A : au} {E : VP}
theorem b_iter {b : Array UInt8} {t : Tok} {Q : VP} (B : Bd w c γ m env own ρ nw s) (h : ∀ I s', Bd w c γ m env own ρ ((I, BIt b t 0) :: nw) s' → Q (.ref I) s') :
   wpAny (model PG w) A (call (.builtin "iter") [.bytes b t]) Q E s := by
 refine g0 (by decide +kernel) (by decide +kernel) kdk_entry_iter (kdk_args_iter _) ?_; unfold aO.«iter»; refine ai (m := someArgs "iter" 1 2 _) (dN (a := [gh b t]) (by first | rfl | kernel_rfl!) ?_)
 show wpAny _ _ (cC (.bytes b t) >>= _) _ _ _
 refine ai (KBw.pyIter_bytes ?_); exact aP ⟨_, rfl, h _ _ (B.pushL rfl ⟨rfl, rfl⟩)⟩
theorem bt_item {it : Addr} {i : Nat} {u : UInt8} {b : Array UInt8} {t : Tok} {Q : Option Value → Shared → Prop} (hit : fX s.heap it b t i) (hx : b[i]? = some u)
   (hQ : ∀ h', fX h' it b t (i + 1) → c0 it s.heap h' → Q (some (.int (u.toNat : Int) s.toks)) { s with heap := h', toks := s.toks + 1 }) : wpAny (model PG w) A (callSpecial? (.ref it) (aa "__next__")) Q E s := by
 refine x13 (id hit) fun o ho hc hd => ?_
 refine f0 (name := PySem.Str.ofString "__next__") (eg hit) eS
   (fZ eS (eg hit) KBw.entry_next ?_ (KBw.args_next _))
 show wpAny _ _ (field (.ref it) 0 >>= _) _ _ s
 refine ai (iY ho hd (x := .bytes b t) rfl ?_); show wpAny _ _ (if (gh b t == dT) = true then _ else _) _ _ s
 rw [if_neg (show ¬ ((gh b t == dT) = true) from ax)]
 show wpAny _ _ (field (.ref it) 1 >>= _) _ _ s
 refine ai (iY ho hd (x := .int i 0) rfl ?_); refine ai (dN (a := b) rfl ?_); simp only [bf, hx]; refine ai (wpAny_setField ho hd (by simp) (ai (wpAny_mkInt (aP ⟨_, rfl, (hQ _ ?_ (dh ..))⟩)))); exact ⟨_, dP _ ho (Obj.isFreed_of_fields (Obj.data_mapFields hd _)), (Obj.cls_mapFields ..).trans hc, by
   rw [Obj.data_mapFields hd]; simp [gn]⟩
theorem bt_stop {it : Addr} {i : Nat} {b : Array UInt8} {t : Tok} {Q : Option Value → Shared → Prop} (hh : A.handled = none) (hit : fX s.heap it b t i) (hx : b[i]? = none)
   (hQ : ∀ h' e a0, Heap.ExtBut it s.heap h' → s.heap.get? e = none → (∃ oe vs, h'.get? e = some oe ∧ oe.cls = .type "StopIteration" ∧ oe.data = .fields vs ∧ vs[0]? = some a0 ∧ vs[1]? = some .none) → E (.ref e) { s with heap := h' }) :
   wpAny (model PG w) A (callSpecial? (.ref it) (aa "__next__")) Q E s := by
 refine x13 (id hit) fun o ho hc hd => ?_
 refine f0 (name := PySem.Str.ofString "__next__") (eg hit) eS
   (fZ eS (eg hit) KBw.entry_next ?_ (KBw.args_next _))
 show wpAny _ _ (field (.ref it) 0 >>= _) _ _ s
 refine ai (iY ho hd (x := .bytes b t) rfl ?_); show wpAny _ _ (if (gh b t == dT) = true then _ else _) _ _ s
 rw [if_neg (show ¬ ((gh b t == dT) = true) from ax)]
 show wpAny _ _ (field (.ref it) 1 >>= _) _ _ s
 refine ai (iY ho hd (x := .int i 0) rfl ?_); refine ai (dN (a := b) rfl ?_); simp only [bf, hx]; refine ai (wpAny_rule (ai (wpAny_setField ho hd (by simp) ?_))); show wpAny _ _ (newExc (.type "StopIteration") [] >>= _) _ _ _
 refine ai ?_; simp only [newExc, newTuple]; refine ai (fL ?_ (by size_fits)); refine ai (m := gP _ _) (dN (a := dT) (by first | rfl | (simp only [gP]; rfl)) ?_)
 refine fL ?_ (by size_fits); simp only [raiseNew]; refine ai (wpAny_handled ?_); rw [show A.in1.handled = none from hh]
 refine ai (aP (wpAny_throw ?_)); refine hQ _ _ (.ref (s.heap.update it (Obj.mapFields fun x => x.setIfInBounds 0 dT)).objs.size) (((dh ..).extBut.push _).push _) ?_ ⟨_, _, aG _ rfl, rfl, rfl, by rw [iI (by show _ < 6; decide)]; rfl, by rw [iI (by show _ < 6; decide)]; rfl⟩
 rw [fw, Heap.size_after_update]; cases e : s.heap.get? (s.heap.objs.size + 1) with
 | none => rfl
 | some o => exact absurd (aJ e) (fB.mpr (eT _))
theorem b_next {it : Addr} {i : Nat} {u : UInt8} {b : Array UInt8} {t : Tok} {Q : VP} (B : Bd w c γ m env own ρ nw s) (up : Upd it (BIt b t i) (BIt b t (i + 1)) nw nw') (hx : b[i]? = some u)
   (h : ∀ t' s', Bd w c γ m env own ρ nw' s' → Q (.int (u.toNat : Int) t') s') : wpAny (model PG w) A (call (.builtin "next") [.ref it]) Q E s := by
 have hit := (B.at up.mem).bit; refine g0 (by decide +kernel) (by decide +kernel) kdk_entry_next (kdk_args_next _) ?_; unfold aO.«next»; refine ai (m := someArgs "next" 1 2 _) (dN (a := [d0 it]) (by first | rfl | kernel_rfl!) ?_)
 dsimp only
 refine ai (wpAny_specialOf (name := aa "__next__") (eg hit) eS.lookup ?_); refine wpAny_ite_split (fun hab => absurd hab (by decide)) (fun _ => ?_); refine ai (bt_item hit hx fun h' hit' hs => ?_); refine x13 hit' fun o' ho' hc' hd' => ?_; exact aP ⟨_, rfl, h _ _ (B.turn up (fun b o hb e => hs.extBut b o hb e) ⟨o', ho', hc', hd'⟩)⟩
theorem b_stop {it : Addr} {i : Nat} {b : Array UInt8} {t : Tok} {Q : VP} (hh : A.handled = none) (ha : At it (BIt b t i) s.heap) (hx : b[i]? = none)
   (hQ : ∀ h' e a0, Heap.ExtBut it s.heap h' → s.heap.get? e = none → (∃ oe vs, h'.get? e = some oe ∧ oe.cls = .type "StopIteration" ∧ oe.data = .fields vs ∧ vs[0]? = some a0 ∧ vs[1]? = some .none) → E (.ref e) { s with heap := h' }) :
   wpAny (model PG w) A (call (.builtin "next") [.ref it]) Q E s := by
 have hit := ha.bit; refine g0 (by decide +kernel) (by decide +kernel) kdk_entry_next (kdk_args_next _) ?_; unfold aO.«next»; refine ai (m := someArgs "next" 1 2 _) (dN (a := [d0 it]) (by first | rfl | kernel_rfl!) ?_)
 dsimp only
 refine ai (wpAny_specialOf (name := aa "__next__") (eg hit) eS.lookup ?_); refine wpAny_ite_split (fun hab => absurd hab (by decide)) (fun _ => ?_); exact ai (bt_stop (i := i) hh hit hx hQ)
structure Rz (s : Shared) (X : List Addr) (outer : List Env) (cls : Value) (e : Addr) (a0 : Value) (s' : Shared) : Prop where
 fly : Heap.FlyingW (gp s.heap X) outer e cls a0 s'.heap
 up : s.heap.UpToSlots s'.heap
 gens : s'.gens = s.gens
 os : s'.os = s.os
theorem keep_aft {X : List Addr} (b : Bef w m s) (hk : ∀ a o, s.heap.get? a = some o → a ∉ X → s'.heap.get? a = some o) (hg : s'.gens = s.gens) (ho : s'.os = s.os) (hm : ∀ a ∈ X, m a = none) : Aft X m s m s' :=
 ⟨.rfl, fun a o e => hk a o (b.ok a o e) fun h => (by rw [hm a h] at e; cases e), hk, fun _ _ _ => rfl, ho, fun i x e => by rw [hg]; exact e, by rw [hg]; exact b.bare⟩
theorem Bd.aftX {X : List Addr} (B : Bd w c γ m env own ρ nw s) (f : Aft X m s m' s') (hX : ∀ a ∈ X, a = env.locals ∨ a ∈ nw.map (·.1)) (up : env.locals ∈ X → ∃ o o', s.heap.get? env.locals = some o ∧ s'.heap.get? env.locals = some o' ∧ o'.data = o.data)
   (hsub : ∀ p ∈ nw', p.1 ∈ nw.map (·.1)) (hnd : (nw'.map (·.1)).Nodup) (hl : ∀ p ∈ nw', ∃ o, s'.heap.get? p.1 = some o ∧ p.2 o) : Bd w c s'.gens m' env own ρ nw' s' := by
 have hout : ∀ a ∈ X, a ∈ own ++ nw.map (·.1) := fun a ha => by
   rcases hX a ha with rfl | h
   · exact an.mpr (.inl B.vars.loc)
   exact an.mpr (.inr h)
 have hn := B.nodup; rw [aH] at hn; have ne : ∀ a ∈ own, a ∉ nw.map (·.1) := fun a ha h => hn.2.2 a ha a h rfl; have own' : ∀ a ∈ own, a ≠ env.locals → a ∉ X := fun a ha hne h => by
   rcases hX a h with q | q
   · exact hne q
   exact ne a ha q
 have loc : ∃ o o', s.heap.get? env.locals = some o ∧ s'.heap.get? env.locals = some o' ∧ o'.data = o.data := by
   by_cases h : env.locals ∈ X
   · exact up h
   obtain ⟨o, ho⟩ := B.ownok _ B.vars.loc; exact ⟨o, o, ho, f.keep _ o ho h, rfl⟩
 have V := B.vars; have sub' : ∀ a ∈ own ++ nw'.map (·.1), a ∈ own ++ nw.map (·.1) := fun a ha => by
   rcases mAp ha with h | h
   · exact an.mpr (.inl h)
   obtain ⟨p, hp, rfl⟩ := mMa h; exact an.mpr (.inr (hsub p hp))
 refine ⟨fun b o e => f.keep b o (B.old b o e) fun h => (B.old_ne e (hout b h)) rfl, f.ok, fun b o e => (f.low b o (B.old b o e)).trans (B.low b o e), B.gr.up f.le, B.ble.trans f.le, f.os.trans B.os, rfl, fun i x e => f.gens i x (B.gens ▸ B.gpre i x e), f.bare, ?_, B.cin, B.caps, fun b hb => ?_, hl, ?_, fun b hb => ?_⟩
 · refine ⟨V.kind, V.glob, V.bltn, V.loc, ?_, V.kl, fun e he cc hc => ?_, V.names, V.cels⟩
   · obtain ⟨mp, ⟨o, es, ep, ho, hd, r⟩, hm⟩ := V.ns; refine x23 loc fun o1 o' h1 h2 h3 => ?_; rw [ho] at h1; cases h1
     exact ⟨mp, ⟨o', es, ep, h2, h3.trans hd, r⟩, hm⟩
   obtain ⟨h1, h2, h3, v, ⟨o, ho, hd⟩, h5⟩ := V.kc e he cc hc; refine ⟨h1, h2, h3, v, ⟨o, f.keep _ o ho ?_, hd⟩, h5⟩; rcases B.cin e he cc hc with q | q
   · exact own' cc q h3
   obtain ⟨ob, hob⟩ := B.caps cc q; exact fun h => B.old_ne hob (hout cc h) rfl
 · by_cases h : b = env.locals
   · subst h; refine x23 loc fun _ o' _ h2 _ => ?_; exact ⟨o', h2⟩
   obtain ⟨o, ho⟩ := B.ownok b hb; exact ⟨o, f.keep b o ho (own' b hb h)⟩
 · rw [aH]; exact ⟨hn.1, hnd, fun x hx y hy e => by
     obtain ⟨p, hp, rfl⟩ := mMa hy; exact hn.2.2 x hx _ (hsub p hp) e⟩
 have h0 := B.out b (sub' b hb); refine ⟨?_, h0.2⟩; have : ∃ o, s.heap.get? b = some o := by
   rcases mAp (sub' b hb) with h | h
   · exact B.ownok b h
   obtain ⟨p, hp, rfl⟩ := mMa h; refine x12 (B.ledok p hp) fun o ho _ => ?_; exact ⟨o, ho⟩
 obtain ⟨o, ho⟩ := this; rw [f.low b o ho]; exact h0.1
end
end
section
theorem stop_exc : isSubtype (.type "StopIteration") (.type "BaseException") = pure true := by rw [gO]; kernel_rfl
theorem stop_self : isSubtype (.type "StopIteration") (.type "StopIteration") = pure true := by rw [gO]; kernel_rfl
theorem stop_tup : isSubtype (.type ((Manifest.find? "StopIteration").elim "type" fun x => x.metatype)) (.type "tuple") = pure false := by
 rw [show ((Manifest.find? "StopIteration").elim "type" fun x => x.metatype) = "type" from by kernel_rfl, gO]; kernel_rfl
section
variable {w : World} {c : Cx} {γ γ' : Array aE} {m m' : Mp} {env cenv : Env} {own : List Addr} {ρ ρ' : List VE} {nw nw' : Led} {s s' : Shared} {A : au} {E : VP}
theorem pK {T : Addr} {vals : Array Value} {n : Nat} {Q : List Value → Shared → Prop} (B : Bd w c γ m env own ρ nw s) (hh : A.handled = none) (ht : s.heap.IsTuple T vals) (hn : n = vals.size)
   (h : ∀ s', Bd w c γ m env own ρ nw s' → Q vals.toList s') : wpAny (model PG w) A (unpackItems (.ref T) n none) Q E s := by
 subst hn; exact unpackItems_tuple hh ht fun h' he => h _ (B.grow fun a o e => he a o (ci (aJ e)) e)
theorem b_make {a : Addr} {ns : List Int} {Q : VP} (B : Bd w c γ m env own ρ nw s) (hh : A.handled = none) (hl : LI a ns s.heap) (hr : ∀ n ∈ ns, 0 ≤ n ∧ n < 256) (hz : ns.length ≤ aS)
   (h : ∀ t s', Bd w c γ m env own ρ nw s' → Q (.bytes (byteArr ns) t) s') : wpAny (model PG w) A (call (.type "bytes") [.ref a]) Q E s := by
 refine x12 hl fun vs h1 h2 => ?_; exact call_bytes_ints h1.list h2 hr (by rw [jM h2]; exact hz) hh fun h' t k hk => h t _ (B.grow hk)
end
theorem blk {env : Env} (hk : env.scope.kind = .function) : env.blockKind = .function := by unfold Env.blockKind; rw [hk]; rfl
theorem swap2 {env : Env} {x y : Str} {px py p p' : Pos} {k k' : Nat} {v1 v2 : Expr} (hk : env.scope.kind = .function) (hx : env.kindOf x = some .local) (hy : env.kindOf y = some .local) (hp : (py.line == px.line) = true) (hxy : ([x, y].eraseDups.length != 2) = false)
   (hst : ([v1, v2].any fun | .Starred .. => true | _ => false) = false) (hf : [v1, v2].all (foldedForSure 8) = false) (hc : [v1, v2].all (constantsAlone 8) = false) :
   g9 [.Tuple [.Name x px, .Name y py] k p] (.Tuple [v1, v2] k' p') env = pure (some [x, y]) := by
 unfold g9; have e1 : (env.blockKind != i8) = false := by rw [blk hk]; rfl
 dsimp only
 refine (if_neg ?_).trans ((if_neg ?_).trans ?_)
 · rw [e1]; exact ax
 · exact fun h => ia (h.symm.trans hst)
 have e2 : (gk (fun
   | b8 id pos => if env.kindOf id == some .local && pos.line == (([b8 x px, b8 y py].head?.map (·.pos.line)).getD 0) then some id else none
   | _ => none) [b8 x px, b8 y py]) = [x, y] := by
   simp only [b7, jw, hx, hy]; have h1 : (px.line == (([b8 x px, b8 y py].head?.map (·.pos.line)).getD 0)) = true := by show (px.line == px.line) = true; simp
   have h2 : (py.line == (([b8 x px, b8 y py].head?.map (·.pos.line)).getD 0)) = true := hp; rw [h1, h2]; rfl
 generalize hN : gk _ [b8 x px, b8 y py] = N; have hN' : N = [x, y] := hN.symm.trans e2; subst hN'; refine (if_neg ?_).trans ((if_neg ?_).trans (if_neg ?_))
 · rw [show ([x, y].length != [b8 x px, b8 y py].length) = false from rfl, show [x, y].length = 2 from rfl, hxy]; exact ax
 · rw [hf]; exact ax
 rw [hc]; exact ax
theorem lu {env : Env} {M : Model} {A : au} {E : VP} {s : Shared} {x y : Str} {px py p p' pos : Pos} {k k' : Nat} {v1 v2 : Expr} {Q : Flow → Shared → Prop} (hk : env.scope.kind = .function) (hx : env.kindOf x = some .local) (hy : env.kindOf y = some .local) (hp : (py.line == px.line) = true) (hxy : ([x, y].eraseDups.length != 2) = false)
   (hst : ([v1, v2].any fun | .Starred .. => true | _ => false) = false) (hf : [v1, v2].all (foldedForSure 8) = false) (hc : [v1, v2].all (constantsAlone 8) = false)
   (h : wpAny M A (eval (.Tuple [v1, v2] k' p') env) (fun v s₁ => wpAny M A (unpackItems v 2 none) (fun items s₂ =>
     wpAny M A (hJ [bindName env y, bindName env x] items.reverse) (fun _ => Q .next) E s₂) E s₁) E s) :
   wpAny M A (exec (.Assign [.Tuple [.Name x px, .Name y py] k p] (.Tuple [v1, v2] k' p') pos) env) Q E s :=
 Assign_Tuple_swapped (names := [x, y]) h rfl (swap2 hk hx hy hp hxy hst hf hc)
noncomputable def Upto (o : Obj) (o' : Obj) : Prop := ∃ sl, o' = { o with slots := sl }
end
section
section
variable {w : World} {m : Mp} {nw : Led} {s : Shared} {A : au} {E : VP} {Q : VP}
theorem enterY {d u : Nat} {f : Addr} {args : Args} {R : fz → Shared → Prop} {s₀ : Shared} {oc : Value} {od : Option Addr} {osl : Array (Option Value)} {fd : gU} {body : List Stmt} {binds : List (Str × Value)} {ns : List Str} {ρ₀ : List VE}
   (RR : Rm A (d + 1) (u + 3)) (G₀ : Grd w s₀.heap) (b : Bef w m s) (l : LedOk m s nw)
   (ho : (KH w.params).lookup f = some ⟨oc, od, .func fd, osl⟩) (hcd : codeIn (KH w.params) fd.code fd.qualname = true) (hbody : fd.body = .stmts body)
   (hbind : ∀ (A : au) (E : VP) (Q : List (Str × Value) → Shared → Prop), Q binds s → wpAny (model PG w) A (iz fd args) Q E s₀) (hcl : fd.closure = []) (hgl : fd.globals = bS) (hbl : fd.builtins = ca) (hco : fd.scope.isCoroutine = false) (hgen : fd.scope.isGenerator = false) (hk : fd.scope.kind = .function)
   (hcell : (fd.scope.names.all fun x => x.2 != .cell) = true) (hloc : (binds.all fun x => fd.scope.names.lookup x.1 == some .local) = true) (hns : (ns.all fun n => fd.scope.names.lookup n == some .local) = true) (hnd : ns.Nodup)
   (hρ : initV ns binds = ρ₀)
   (h : ∀ (A' : au) (env : Env) (L : Addr) (c : Cx) (s' : Shared), A' = A.deeper env → env.frame = some L → EnvOf env fd.scope L [] → Rm A' d u → c = ⟨Mp.of s.heap (nw.map (·.1)), [], m, s.gens, s.os⟩ → Bd w c s.gens m env [L] ρ₀ nw s' → (∀ a o, s.heap.get? a = some o → a < L) →
     wpAny (model PG w) A' (execs body env) (fun fl s' => R (.ok (.ret (match fl with | .ret v => v | _ => .none))) s') (fun _ _ => False) s') :
   cf (model PG w) A (.call (.ref f) args) R s₀ := by
 have G := b.gr _ b.ok; refine codeAny_call_function (by have := RR.depth; exact a2 this) (G₀.k _ _ ho) rfl hco hgen hbody (jg G₀.k hcd) (hbind _ _ _ ?_); refine gL ?_ ?_ (fun h₁ hns₁ hsb₁ => ⟨G.nolim.fresh _ hsb₁, codeAny_func ?_⟩) hk
 · intro x hx; have := aA.mp hcell x hx; intro e; rw [e] at this; exact absurd this (by decide)
 · intro x hx; have := aA.mp hloc x hx; simpa using this
 have hk₁ : ∀ b o, s.heap.get? b = some o → h₁.get? b = some o := fun b o e => hsb₁.extBut b o (ci (aJ e)) (dH _ e); refine am (h _ (callEnv fd s.heap.objs.size f) s.heap.objs.size _ _ rfl rfl ⟨rfl, rfl, hcl⟩ RR.deeper rfl ?_ fun a o e => aJ e) (fun _ _ q => q) (fun _ _ x => x.elim); have old_get : ∀ a o, (Mp.of s.heap (nw.map (·.1))) a = some o → s.heap.get? a = some o := fun a o e => (Mp.of_get e).1; have L_fresh : s.heap.get? s.heap.objs.size = none := by
   cases e : s.heap.get? s.heap.objs.size with
   | none => rfl
   | some o => exact absurd (aJ e) (bB _)
 refine ⟨fun a o e => hk₁ a o (old_get a o e), fun a o e => hk₁ a o (b.ok a o e), fun _ _ _ => rfl, b.gr, .rfl, rfl, rfl, fun _ _ e => e, b.bare, ?_, ?_, fun _ h => (nomatch h), ?_, ?_, ?_, ?_⟩
 · subst hρ; refine ⟨hk, hgl, hbl, .head _, ⟨_, hns₁, fun e he _ v hv => ?_⟩, fun e he _ => ?_, fun e he c hc => ?_, ?_, ?_⟩
   · obtain ⟨n, hn, rfl⟩ := mMa he; exact hv
   · obtain ⟨n, hn, rfl⟩ := mMa he; have := aA.mp hns n hn; show fd.scope.names.lookup n = _
     simpa using this
   · obtain ⟨n, hn, rfl⟩ := mMa he; cases hc
   · show ((ns.map _).map _).Nodup
     rw [aT]; show (ns.map fun n => n).Nodup
     rw [cZ]; exact hnd
   show ((ns.map _).filterMap _).Nodup
   rw [c7]; have : (ns.filterMap ((fun (e : VE) => e.cel) ∘ fun n => (⟨n, none, binds.reverse.lookup n⟩ : VE))) = [] := by
     rw [dk]; intro a _; rfl
   rw [this]; exact .nil
 · subst hρ; intro e he a ha; obtain ⟨n, hn, rfl⟩ := mMa he; cases ha
 · intro a ha; rcases mSg ha with rfl
   refine x32 hns₁ fun o _ _ ho' _ => ?_; exact ⟨o, ho'⟩
 · intro p hp; refine x12 (l.ok p hp) fun o ho' q => ?_; exact ⟨o, hk₁ _ _ ho', q⟩
 · rw [aH]; refine ⟨aB.mpr ⟨by simp, .nil⟩, l.nodup, fun x hx y hy e => ?_⟩; subst e; rcases mSg hx with rfl
   refine x12 (mMa hy) fun p hp e => ?_; refine x12 (l.ok p hp) fun o ho' _ => ?_; rw [e, L_fresh] at ho'; cases ho'
 intro a ha; rcases mAp ha with ha | ha
 · rcases mSg ha with rfl
   refine ⟨?_, ?_⟩
   · cases e : m s.heap.objs.size with
     | none => rfl
     | some o => have := b.ok _ _ e; rw [L_fresh] at this; cases this
   show (Mp.of s.heap (nw.map (·.1))) s.heap.objs.size = none
   cases e : (Mp.of s.heap (nw.map (·.1))) s.heap.objs.size with
   | none => rfl
   | some o => have := old_get _ _ e; rw [L_fresh] at this; cases this
 obtain ⟨p, hp, rfl⟩ := mMa ha; exact ⟨l.out p hp, Mp.of_none (aF hp)⟩
theorem enterX {d u : Nat} {f : Addr} {args : Args} {R : fz → Shared → Prop} {s₀ : Shared} {oc : Value} {od : Option Addr} {osl : Array (Option Value)} {fd : gU} {body : List Stmt} {binds : List (Str × Value)} {ns : List Str} {ρ₀ : List VE}
   (RR : Rm A (d + 1) (u + 3)) (G₀ : Grd w s₀.heap) (b : Bef w m s) (l : LedOk m s nw)
   (ho : (KH w.params).lookup f = some ⟨oc, od, .func fd, osl⟩) (hcd : codeIn (KH w.params) fd.code fd.qualname = true) (hbody : fd.body = .stmts body)
   (hbind : ∀ (M : Model) (A : au) (E : VP) (Q : List (Str × Value) → Shared → Prop), Q binds s → wpAny M A (iz fd args) Q E s₀) (hcl : fd.closure = []) (hgl : fd.globals = bS) (hbl : fd.builtins = ca) (hco : fd.scope.isCoroutine = false) (hgen : fd.scope.isGenerator = false) (hk : fd.scope.kind = .function)
   (hcell : (fd.scope.names.all fun x => x.2 != .cell) = true) (hloc : (binds.all fun x => fd.scope.names.lookup x.1 == some .local) = true) (hns : (ns.all fun n => fd.scope.names.lookup n == some .local) = true) (hnd : ns.Nodup)
   (hρ : initV ns binds = ρ₀)
   (h : ∀ (A' : au) (env : Env) (L : Addr) (c : Cx) (s' : Shared), A' = A.deeper env → env.frame = some L → EnvOf env fd.scope L [] → Rm A' d u → c = ⟨Mp.of s.heap (nw.map (·.1)), [], m, s.gens, s.os⟩ → Bd w c s.gens m env [L] ρ₀ nw s' → (∀ a o, s.heap.get? a = some o → a < L) →
     wpAny (model PG w) A' (execs body env) (fun fl s' => R (.ok (.ret (match fl with | .ret v => v | _ => .none))) s') (fun _ _ => False) s') :
   cf (model PG w) A (.call (.ref f) args) R s₀ :=
 enterY RR G₀ b l ho hcd hbody (fun A E Q q => hbind _ A E Q q) hcl hgl hbl hco hgen hk hcell hloc hns hnd hρ h
end
end
section
noncomputable abbrev KK (w : World) : Frag := KH w.params
noncomputable def nO (w : World) (tk : Tok) (lst : Addr) (n : Nat) : Obj := { cls := .type "dict", data := .dict #[{ hash := ej w.params (aa "_headers"), key := .str (aa "_headers") tk, val := .ref lst }] n }
noncomputable def HdK (w : World) (m : Mp) (x lst : Addr) : Prop := ∃ dx tk n, m x = some (fj 248 dx) ∧ m dx = some (nO w tk lst n)
theorem HdK.up {w : World} {m m' : Mp} {x lst : Addr} (l : m.le m') (h : HdK w m x lst) : HdK w m' x lst := by obtain ⟨dx, tk, n, h1, h2⟩ := h; exact ⟨dx, tk, n, l _ _ h1, l _ _ h2⟩
theorem HdK.inst {w : World} {m : Mp} {x lst : Addr} {h : Heap} (k : HdK w m x lst) (ok : Ok m h) : ∃ dx tk n, InstAt h x (fj 248 dx) 248 (some (nO w tk lst n)) := by
 refine x32 k fun dx tk n h1 h2 => ?_; exact ⟨dx, tk, n, ⟨ok _ _ h1, rfl, rfl, ok _ _ h2⟩⟩
theorem qX (C : Addr) (rest : List Value) (kw : List (Str × Value)) : (gX "type.__call__" ⟨.ref C :: rest, kw⟩).weight = 1 := by kernel_rfl
theorem rD (C : Addr) (rest : List Value) (kw : List (Str × Value)) : (gX "type.__call__" ⟨.ref C :: rest, kw⟩).cUnits = 1 := by kernel_rfl
theorem Rm.under {A : au} {d u : Nat} (r : Rm A (d + 2) (u + 2)) (C : Addr) (rest : List Value) (kw : List (Str × Value)) : Rm (A.under (.builtin "type.__call__" ⟨.ref C :: rest, kw⟩)) d u := by
 refine ⟨r.handled, ?_, ?_⟩
 · have h1 := r.depth; show A.depth + (gX "type.__call__" ⟨.ref C :: rest, kw⟩).weight + d < _
   rw [qX]; exact a21 h1
 have h1 := r.units; show A.units + (gX "type.__call__" ⟨.ref C :: rest, kw⟩).cUnits + u < _
 rw [rD]; exact a21 h1
section
variable {w : World} {c : Cx} {γ γ' : Array aE} {m m' : Mp} {env cenv : Env} {own : List Addr} {ρ ρ' : List VE} {nw nw' : Led} {s s' : Shared} {A : au} {E : VP}
theorem lH {x lst f : Addr} {name : Str} {pl : Sem Bool} {Q : Value × List Value → Shared → Prop} (B : Bd w c γ m env own ρ nw s) (hx : HdK w m x lst) (hf : findIn (KK w) (.ref 248) name = some (some (.ref f))) (ht : typeIn (KK w) (.ref f) = some (.type "function"))
   (hs : ∀ tk n, shadowIn (some (nO w tk lst n)) name = some false) (h : Q (.ref f, [.ref x]) s) : wpAny (model PG w) A (gb (.ref x) name pl) Q E s := by
 refine x31 (hx.inst B.ok) fun dx tk n I => ?_; exact method_fn (B.kn B.gr).k I (by rfl) (by rfl) hf ht (hs tk n) h
theorem rY {x lst : Addr} {expr : Bool} {Q : VP} (B : Bd w c γ m env own ρ nw s) (hx : HdK w m x lst) (h : ∀ s', Bd w c γ m env own ρ nw s' → Q (.ref lst) s') : wpAny (model PG w) A (getAttr (.ref x) (aa "_headers") expr) Q E s := by
 refine x31 (hx.inst B.ok) fun dx tk n I => ?_; exact get_value (B.kn B.gr).k I (by rfl) (by rfl) (by rfl) (h _ (B.tk _ _))
theorem pI {f : Addr} {first : List Value} {e : Expr} {rest : List Expr} {pos : Pos} {Q : VP} (hk : keepIn (KK w) (.ref f) = true)
   (h : wpAny (model PG w) A (eu (cV pos (bo (e :: rest) env))) (fun vs s₁ => (KK w).In s₁.heap ∧ wpAny (model PG w) A (call (.ref f) (first ++ vs)) Q E s₁) E s)
   (he : bo (e :: rest) env = (false, eval e env) :: bo rest env := by rfl) (hplain : (cV pos (bo rest env)).any (·.1) = false := by rfl) :
   wpAny (model PG w) A (ec pos (.ref f) first (cV pos (bo (e :: rest) env)) []) Q E s := by
 rw [he] at h ⊢; exact callWith_of (by show ((false || (cV pos (bo rest env)).any (·.1)) || false) = false; rw [hplain]; rfl) (keeps_K hk) (evalArgs_plain h)
theorem Bd.adopt {a : Addr} {P : Obj → Prop} (B : Bd w c γ m env own ρ nw s) (f : Aft [] m s m' s') (hn : s.heap.get? a = none) (hm : m' a = none) (hP : At a P s'.heap) : Bd w c s'.gens m' env own ρ ((a, P) :: nw) s' := by
 refine x12 hP fun o ho hp => ?_; refine (B.aft f).addL ho hp hm ?_ fun h => ?_
 · cases e : c.old a with
   | none => rfl
   | some ob => have := B.old a ob e; rw [hn] at this; cases this
 rcases mAp h with h | h
 · obtain ⟨ob, h1⟩ := B.ownok a h; rw [hn] at h1; cases h1
 obtain ⟨p, hp2, rfl⟩ := mMa h; refine x12 (B.ledok p hp2) fun ob h1 _ => ?_; rw [hn] at h1; cases h1
theorem o_set {x dx lst : Addr} {Q : Unit → Shared → Prop} (B : Bd w c γ m env own ρ nw s) (hx : m x = some (fj 248 dx)) (up : Upd dx (fun o => o = aV) (fun o => ∃ tk n, o = nO w tk lst n) nw nw')
   (h : ∀ s', Bd w c γ m env own ρ nw' s' → Q () s') : wpAny (model PG w) A (setAttr (.ref x) (aa "_headers") (.ref lst)) Q E s := by
 have X := (B.kn B.gr).k; obtain ⟨od, D, rfl⟩ := B.at up.mem; have hxh := B.ok _ _ hx; have I : InstAt s.heap x (fj 248 dx) 248 (some aV) := ⟨hxh, rfl, rfl, D⟩; refine set_plain X I (by rfl) ?_; refine osa_open (s := { s with toks := s.toks + 1 }) X I (by rfl) (show takerIn (KK w) 248 (aa "_headers") = some none from by rfl) fun b => ?_
 refine x12 (any_some (show (clsIn (KK w) 248).any (·.hasDict) = true from by rfl)) fun cd hc hd' => ?_
 refine ai (aP (ai (ai (jd (s := { s with toks := s.toks + 1 }) hxh (ai (Looks.here (s := ⟨s.heap, s.gens, s.drawn, s.toks + 1, s.os⟩) (looks_clsIn X hc) ?_))))))
 rw [hd']; refine aP (a := some dx) (ai (aP (ai ?_))); unfold nsSet; refine ai (ai (iO (aP (ai (wpAny_mkText (ai (jd (s := { s with toks := s.toks + 1 + 1 }) D ?_)))))))
 dsimp only
 have hnone : aRefKeyMayBeTheName (aa "_headers") #[] = false := by rw [aRefKeyMayBeTheName_at]; simp
 rw [hnone]; refine iM (s := { s with toks := s.toks + 1 + 1 }) D ?_
 have D' : (s.heap.update dx (Obj.putName (aa "_headers") (ej w.params (aa "_headers")) (.str (aa "_headers") (s.toks + 1)) (.ref lst))).get? dx = some (nO w (s.toks + 1) lst 1) := by
   rw [dP _ D (by rfl)]; rfl
 refine ai (wpAny_lookBehind (o := nO w (s.toks + 1) lst 1) D' (pastItsLine_dict (by rw [aD]; show 1 ≤ _; decide)) ?_)
 refine aP (h _ (B.turn up (fun b o hb e => ?_) ⟨_, D', _, _, rfl⟩)); exact (dh s.heap dx _).extBut b o hb e
theorem for_empty {target : Expr} {body : List Stmt} {l : Addr} {Q : Flow → Shared → Prop} (B : Bd w c γ m env own ρ nw s) (hh : A.handled = none) (hl : At l (jB []) s.heap) (h : ∀ γ s', Bd w c γ m env own ρ nw s' → Q .next s') :
   wpAny (model PG w) A (cC (.ref l)) (fun it s₂ => cf (model PG w) A (.forLoop target it body [] env) (fun r s' => match r with | .ok f => Q f s' | .error e => fb (model PG w) A env E e s') s₂) E s := by
 have hl' := hl.list; refine x12 (id hl) fun ol hol _ => ?_; refine iv hl' ?_; have B1 : Bd w c γ m env own ρ nw ⟨s.heap.push { cls := .type "list_iterator", data := .fields #[.ref l, .int 0 0] }, s.gens, s.drawn, s.toks, s.os⟩ := B.grow (jA _); have T := Itr.list (w := w) hh (target := target) (I := s.heap.objs.size) (ci (aJ hol)) []; refine gZ (fun k s₂ => s₂ = ⟨s.heap.push { cls := .type "list_iterator", data := .fields #[.ref l, .int 0 0] }, s.gens, s.drawn, s.toks, s.os⟩) (fun n s₂ hI => ?_) 0 rfl; subst hI; refine am (T.done [s.heap.objs.size] _ (fun s₁ => ∃ γ, Bd w c γ m env own ρ nw s₁) ⟨rfl, ⟨_, aG _ rfl, rfl, rfl⟩, hl'.at fun o e => jA _ _ o e⟩ fun s' ch => ⟨_, B1.ch ch (B.privOf fun b hb => by simp at hb; exact bd hb.symm) fun _ hf => hf.elim⟩) (fun r s₁ h₁ => ?_) fun _ _ x => x.elim; cases r with
 | none => obtain ⟨γ2, B2⟩ := h₁; exact wpAny_execs_nil (h γ2 s₁ B2)
 | some v => exact h₁.elim
end
end
section
theorem qh {prog : Program} {w : World} {h : Heap} {d : Addr} (ho : h.get? d = some aV) : h.DictAt (PySem.strKind prog w) d [] 0 :=
 ⟨aV, #[], ho, ⟨rfl, rfl, rfl⟩, rfl, fun e he => (by simp at he), .nil, .nil⟩
section
variable {w : World} {c : Cx} {γ γ' : Array aE} {m m' : Mp} {env cenv : Env} {own : List Addr} {ρ ρ' : List VE} {nw nw' : Led} {s s' : Shared} {A : au} {E : VP}
theorem gm_items {d : Addr} {pl : Sem Bool} {Q : Value × List Value → Shared → Prop} (hd : s.heap.get? d = some aV) (h : Q (.builtin "dict.items", [.ref d]) s) : wpAny (model PG w) A (gb (.ref d) (aa "items") pl) Q E s :=
 fN ⟨_, hd, rfl⟩ PySem.F.plainAttrs_dict PySem.F.slot_dict_items PySem.F.type_dict_items (fun a e => by cases e; exact ⟨_, hd, rfl⟩) h
theorem d_items {d : Addr} {Q : VP} (B : Bd w c γ m env own ρ nw s) (hd : m d = some aV) (hs : (d == fG) = false)
   (h : ∀ v s', Bd w c γ m env own ρ nw s' → s'.heap.IsItemsView v d → Q (.ref v) s') : wpAny (model PG w) A (call (.builtin "dict.items") [.ref d]) Q E s := by
 have ho := B.ok _ _ hd; refine call_meetsIn PySem.F.slot_dict_items ⟨_, ho, rfl⟩ PySem.F.entry_dict_items (PySem.F.args_dict_items_1 _) (meets_dict_items (PySem.strKind PG w) d hs) ⟨⟨[], (qh ho).dictOf⟩, ?_⟩; exact h _ _ (B.grow (jA _)) ⟨_, aG _ rfl, rfl, rfl⟩
theorem te {target : Expr} {body : List Stmt} {v d : Addr} {Q : Flow → Shared → Prop} (B : Bd w c γ m env own ρ nw s) (hh : A.handled = none) (hd : m d = some aV) (hv : s.heap.IsItemsView v d) (h : ∀ γ s', Bd w c γ m env own ρ nw s' → Q .next s') :
   wpAny (model PG w) A (cC (.ref v)) (fun it s₂ => cf (model PG w) A (.forLoop target it body [] env) (fun r s' => match r with | .ok f => Q f s' | .error e => fb (model PG w) A env E e s') s₂) E s := by
 have ho := B.ok _ _ hd; refine wpAny_pyIter_items (knd := PySem.strKind PG w) hv (qh ho) ?_; generalize hob : ({ cls := .type "dict_itemiterator", data := .fields #[.none, .bool false, .ref d, .int 0 0, .int (([] : List (Str × Value)).length : Nat) 0, .int (0 : Nat) 0, .none, .none] } : Obj) = ob; have hfr : ob.isFreed = false := by rw [← hob]; rfl
 have B1 : Bd w c γ m env own ρ nw ⟨s.heap.push ob, s.gens, s.drawn, s.toks, s.os⟩ := B.grow (jA _); have hfresh := B.fresh; refine gZ (fun k s₂ => s₂ = ⟨s.heap.push ob, s.gens, s.drawn, s.toks, s.os⟩) (fun n s₂ hI => ?_) 0 rfl; subst hI; refine wpAny_pyNext_items_end (knd := PySem.strKind PG w) (kvs := []) (i := 0) hh (ok := .none) (ov := .none) (d := d) (ep := 0) ?_ (qh (jA _ _ _ ho)) rfl fun h' he => ?_
 · show (hZ _ _) = _
   rw [aG _ hfr, ← hob]; rfl
 refine wpAny_execs_nil (h γ _ ?_); exact B1.lose (fun b o hb e => he b o hb e) hfresh.1 hfresh.2.2 hfresh.2.1
theorem lM {f : Addr} {first : List Value} {e : Expr} {rest : List Expr} {pos kpos cpos : Pos} {kn : Str} {b : Bool} {kk : Nat} {Q : VP} (hk : keepIn (KK w) (.ref f) = true) (X : (KK w).In s.heap)
   (h : wpAny (model PG w) A (eu (cV pos (bo (e :: rest) env))) (fun vs s₁ => (KK w).In s₁.heap ∧ wpAny (model PG w) A (call (.ref f) (first ++ vs) [(kn, .bool b)]) Q E s₁) E s)
   (hplain : ((cV pos (bo (e :: rest) env)).any (·.1) || (iA pos (keywordEach [⟨some kn, .Constant (.bool b) kk cpos, kpos⟩] env)).any (·.1.isNone)) = false := by rfl) (he : bo (e :: rest) env = (false, eval e env) :: bo rest env := by rfl) :
   wpAny (model PG w) A (ec pos (.ref f) first (cV pos (bo (e :: rest) env)) (iA pos (keywordEach [⟨some kn, .Constant (.bool b) kk cpos, kpos⟩] env))) Q E s := by
 refine callWith_KW (K := KK w) X hk (by rfl) (am h (fun vs s₁ h₁ => ?_) fun _ _ x => x) hplain he; show wpAny _ _ (evalAll [do let v ← eval (.Constant (.bool b) kk cpos) env; fM pos; pure v]) _ _ _
 refine wpAny_evalAll_cons (ai (eh (ai (bP (aP (wpAny_evalAll_nil ?_)))))); exact h₁
end
end
local macro_rules | `(tactic| walk_at $s:str) => Mine.wkX s.getString
local macro_rules | `(tactic| walk_at "uf") => `(tactic| with_unfolding_all exact rfl)
local macro_rules | `(tactic| walk_at "num") => `(tactic| first | decide | omega | assumption | (simp; done) | rfl)
local macro_rules | `(tactic| walk_at "mr") => `(tactic| with_reducible walk_at "mem")
set_option hygiene false in
local macro_rules | `(tactic| walk_at "opq") => `(tactic| (walk_at "op1"; clear B; intro own ρ; intros; rename_i B))
local macro_rules | `(tactic| walk_at "bv") => `(tactic| ((with_reducible guard_target = wpAny _ _ (ec _ (bootValue _ _) _ (cV _ _) _) _ _ _); first
      | ((show wpAny _ _ (ec _ (Value.builtin _) _ _ _) _ _ _); (try dsimp only); refine PyProof.Rows.callWith_builtin1 ?_)
      | ((show wpAny _ _ (ec _ (gE _) _ _ _) _ _ _); (try dsimp only); refine PyProof.Rows.callWith_type1 ?_)))
local macro_rules | `(tactic| walk_at "fit") => `(tactic| first | decide | size_fits | (rw [aD]; simp; omega) | (rw [aD]; omega))
local macro_rules | `(tactic| walk_at "sts") => `(tactic| repeat walk_at "st")
set_option hygiene false in
local macro_rules | `(tactic| walk_at "qs") => `(tactic| repeat (with_reducible refine hQc _ _ ?_; clear hQc))
set_option hygiene false in
local macro_rules | `(tactic| walk_at "ex") => `(tactic| (with_reducible refine rA htk ?_))
set_option hygiene false in
local macro_rules | `(tactic| walk_at "st") => `(tactic| ((with_reducible show 1 ≤ _ → _); intro htk))
section
section
variable {w : World}
noncomputable def flagNames : List Str := ["OPTIMIZED", "NEWLOCALS", "VARARGS", "VARKEYWORDS", "NESTED", "GENERATOR", "NOFREE", "COROUTINE", "ITERABLE_COROUTINE", "ASYNC_GENERATOR"]
noncomputable def jD (k : Nat) : Str := if k < 10 then flagNames.getD k aj else aa "0x" ++ dp (aa "1248") ((k : Int).fmod 4) ++ Txt.mul (aa "0") ((k : Int).fdiv 4)
theorem c_word (k : Nat) (hk : k < 32) {A : au} {m : Mp} {s : Shared} {t : Tok} {Q E : VP} (hR : Rm A 1 4) (b : Bef w m s)
   (h : ∀ t m' s', Aft [] m s m' s' → Q (.str (jD k) t) s') :
   wpAny (model PG w) A (call (.ref 264) [.int k t]) Q E s := by
 refine nh (d := 0) (u := 1) (nw := []) (ns := ["place"]) (ρ₀ := [⟨"place", none, some (.int k t)⟩]) hR b .nil rfl rfl rfl rfl rfl rfl rfl rfl rfl rfl (by decide +kernel) (by rfl) (by decide +kernel) (by decide +kernel) rfl ?_; intro A env L c s' hE hR' hc B hL; walk_at "opq"; walk_at "sts"; refine ky (fun hb => ?_) (fun hb => ?_)
 · have hk10 : k < 10 := by simp at hb; exact a251 hb
   walk_at "sts"; refine pQ B (by decide +kernel) (by walk_at "fit") (by decide +kernel) ?_; clear B; intro a1 m1 s hm1 hk1 B; walk_at "sts"; refine x12 (B.kn hk1) fun vs hl hs => ?_; have e : cz (aa "OPTIMIZED NEWLOCALS VARARGS VARKEYWORDS NESTED GENERATOR NOFREE COROUTINE ITERABLE_COROUTINE ASYNC_GENERATOR") (aa " ") = flagNames := by decide +kernel
   rw [e] at hs; obtain ⟨t', hv⟩ := mM hs (i := k) (n := jD k) (by unfold jD; rw [if_pos hk10]; rw [ab]; rw [ac (by simpa [flagNames] using hk10)]; rfl); refine j0 hl (a12) (a250 hk10) hv ?_; walk_at "qs"; exact h _ m1 _ (B.done hc .nil jC)
 have hk10 : ¬ k < 10 := by simp at hb; exact a249 hb
 walk_at "sts"; have hm : 0 ≤ (k : Int).fmod 4 ∧ (k : Int).fmod 4 < 4 := ⟨cx _ (by decide), db _ (by decide)⟩; have hd : 0 ≤ (k : Int).fdiv 4 ∧ (k : Int).fdiv 4 < 8 := by rw [cy _ (by decide)]; exact a248 hk
 refine qC B (a247 hm) (by rw [show ((aa "1248").length : Int) = 4 from by decide +kernel]; exact hm.2) (oQ (a246 hm) (a245 hm)) ?_; clear B; intro t1 s B
 refine lN B (by rw [sb]; decide +kernel) ?_; clear B; intro t2 s B; walk_at "sts"; have hd8 : ∃ j : Nat, j < 8 ∧ (k : Int).fdiv 4 = j := ⟨((k : Int).fdiv 4).toNat, by exact a244 hd, by exact a243 hd⟩; have hq : MulOk (aa "0") ((k : Int).fdiv 4) ∧ (Txt.mul (aa "0") ((k : Int).fdiv 4)).length ≤ 8 := by
   refine x12 hd8 fun j hj e => ?_; rw [e]; have : ∀ j : Fin 8, MulOk (aa "0") (j.val : Nat) ∧ (Txt.mul (aa "0") (j.val : Nat)).length ≤ 8 := by unfold MulOk; decide +kernel
   walk_at "qs"; exact this ⟨j, hj⟩
 refine s_mul B hq.1 ?_; clear B; intro t3 s B; refine lN B (by have := hq.2; rw [jz, sb, aD]; have : (aa "0x").length = 2 := (by decide +kernel); (first | lia | omega)) ?_; clear B; intro t4 s B
 have e : jD k = aa "0x" ++ dp (aa "1248") ((k : Int).fmod 4) ++ Txt.mul (aa "0") ((k : Int).fdiv 4) := by unfold jD; rw [if_neg hk10]
 rw [← e]; walk_at "qs"; exact h _ m _ (B.done hc .nil jC)
end
end
section
theorem la {env : Env} : ∀ {names : List (Str × br)} {x : Str}, names.lookup x = some .cell →
   (names.map fun (n, k) => if (k == cq && env.scope.kind == .function && env.kindOf n == some .cell) then (n, dF) else (n, k)).lookup x = some .cell
 | [], _, h => by simp at h
 | (n, k) :: r, x, h => by
   have ih := @la env r x; show gj x ((if (k == cq && env.scope.kind == .function && env.kindOf n == some .cell) = true then (n, dF) else (n, k)) :: _) = _
   cases hx : x == n with
   | true =>
     simp only [aX, hx] at h; cases h
     simp [aX, hx]
   | false =>
     simp only [aX, hx] at h; by_cases hc : (k == cq && env.scope.kind == .function && env.kindOf n == some .cell) = true
     · rw [if_pos hc]; simp only [aX, hx]; exact ih h
     rw [if_neg hc]; simp only [aX, hx]; exact ih h
theorem lh {M : Model} {A : au} {E : VP} {s : Shared} {scope : Scope} {globals : Addr} {closure : List (Str × Addr)} {qual : Str} {env : Env} {kn : Str} {Q : Env → Shared → Prop}
   (hcf1 : ∀ n acc, cr n scope.names acc = (kn, n) :: acc) (hcp1 : ∀ h, pushCells h scope.names = h.push { cls := .type "cell", data := .cell none })
   (h : Q (newEnv scope s.heap.objs.size globals ((kn, s.heap.objs.size + 1) :: closure) qual none .none (some env) ca) ⟨(s.heap.push { cls := .type "dict", data := .dict #[] }).push { cls := .type "cell", data := .cell none }, s.gens, s.drawn, s.toks, s.os⟩) :
   wpAny M A (cU scope globals closure [] qual none .none (some env)) Q E s := by
 simp only [cU, Option.isSome_some, if_true]; refine ai (iZ ?_); refine ai (wpAny_layCells _ (fun name kind cells => by cases hkc : kind == dF <;> simp [hkc]) _ _ _ _ ?_)
 rw [hcf1, hcp1, fw]; refine ai ?_; rw [List.forIn_nil]; exact aP (aP h)
section
variable {w : World} {c : Cx} {γ γ' : Array aE} {m m' : Mp} {env cenv : Env} {own : List Addr} {ρ ρ' : List VE} {nw nw' : Led} {s s' : Shared} {A : au} {E : VP}
theorem Bd.outN {caps : List Addr} {L : Addr} {Ls : List Addr} (B : Bd w c γ m env own ρ nw s) (C : Bd w (c.inner own s.heap caps) γ' m' cenv (L :: Ls) ρ' nw' s') (hL : cenv.locals = L) : Bd w c γ' m' env own ρ ((L, NsO) :: nw') s' := by
 refine x12 C.vars.ns fun mp hn _ => ?_; rw [hL] at hn; refine x12 (NsO.of hn) fun o ho hP => ?_; have hLo := C.out L (an.mpr (.inl (.head _))); have hnd := C.nodup; rw [aH] at hnd; have hin : ∀ b ∈ own, b ≠ L := fun b hb e => by
   obtain ⟨ob, h⟩ := B.ownok b hb; have := hLo.2; simp only [Cx.inner] at this; rw [if_pos (e ▸ hb)] at this; rw [e, this] at h; cases h
 refine (B.comeback C).addL ho hP hLo.1 ?_ fun h => ?_
 · have := hLo.2; simp only [Cx.inner] at this; rwa [if_neg (fun h => hin L h rfl)] at this
 rcases mAp h with h | h
 · exact hin L h rfl
 exact hnd.2.2 L (.head _) L h rfl
theorem tD {elt target iter : Expr} {ifs : List Expr} {scope : Scope} {pos : Pos} {I : Addr} {ns : List Str} {kn : Str} {ce : List VE} {R : Value → Addr → fz → Shared → Prop}
   {fp wr : List Addr} {gw : Nat → Prop} {n : Nat} {V : VH} {St : List Addr → Nat → Shared → Prop}
   (B : Bd w c γ m env own ρ nw s) (T : Itr w A target I fp gw n V St) (Inv : Nat → List Value → Mp → List VE → Led → Prop)
   (hk : scope.kind = .function) (hcf1 : ∀ n acc, cr n scope.names acc = (kn, n) :: acc) (hcp1 : ∀ h, pushCells h scope.names = h.push { cls := .type "cell", data := .cell none }) (hkn : scope.names.lookup kn = some .cell) (hns : (ns.all fun n => scope.names.lookup n == some .local) = true)
   (hce : ∀ e ∈ ce, e ∈ ρ ∧ ∃ a, e.cel = some a) (hcf : (ce.all fun e => scope.names.lookup e.name == some .free) = true) (hnd : (ns ++ kn :: ce.map (·.name)).Nodup)
   (hfp : ∀ b ∈ fp, ∃ o, m b = some o) (hgw : ∀ j, gw j → c.G[j]? = none) (hst : St wr 0 s) (p : Priv wr c m own nw)
   (turn : ∀ i v c1 cenv L acc γ m1 ρ' xs nw' s, i < n → EnvOf cenv (cb scope env) L ((kn, L + 1) :: ka (fun n => env.cells.lookup n) scope.names []) → Inv i xs m1 ρ' nw' → m.le m1 → V i v s.heap → Bd w c1 γ m1 cenv [L, L + 1] ρ' ((acc, jB xs) :: nw') s →
     wpAny (model PG w) A (bM target cenv v) (fun _ s₂ => wpAny (model PG w) A (kz ifs cenv) (fun ok s₃ =>
         if ok = true then wpAny (model PG w) A (eval elt cenv) (fun x s₄ => ∃ γ' m' ρ' nw', xs.length ≤ aS ∧ Inv (i + 1) (xs ++ [x]) m' ρ' nw' ∧ m.le m' ∧ Bd w c1 γ' m' cenv [L, L + 1] ρ' ((acc, jB xs) :: nw') s₄) NoE s₃
         else ∃ γ' m' ρ' nw', Inv (i + 1) xs m' ρ' nw' ∧ m.le m' ∧ Bd w c1 γ' m' cenv [L, L + 1] ρ' ((acc, jB xs) :: nw') s₃) NoE s₂) NoE s)
   (h0 : ∀ L, Inv 0 [] m (ns.map (fun n => ⟨n, none, none⟩) ++ ⟨kn, some (L + 1), none⟩ :: ce) nw)
   (fin : ∀ γ' m' ρ' xs nw' L acc s', Inv n xs m' ρ' nw' → m.le m' → Bd w c γ' m' env own ρ ((L, NsO) :: (acc, jB xs) :: nw') s' → R (.ref acc) L (.ok .next) s') :
   wpAny (model PG w) A (fh []) (fun acc s₃ => wpAny (model PG w) A (cU scope env.globals (ka (fun n => env.cells.lookup n) scope.names []) [] env.qual none .none (some env)) (fun cenv s₄ =>
     cf (model PG w) A (.compStart (.ListComp elt [⟨target, iter, ifs, 0⟩] scope pos) 0 (.ref I) acc { cenv with scope := cb scope env }) (R acc cenv.locals) s₄) NoE s₃) NoE s := by
 refine g8 ?_ (by decide); have hf0 := B.fresh; have B1 : Bd w c γ m env own ρ ((s.heap.objs.size, jB []) :: nw) ⟨s.heap.push { cls := .type "list", data := .seq ([] : List Value).toArray }, s.gens, s.drawn, s.toks, s.os⟩ := B.pushL rfl ⟨_, rfl⟩; generalize hacc : s.heap.objs.size = acc at *
 generalize hs1 : (⟨s.heap.push { cls := .type "list", data := .seq ([] : List Value).toArray }, s.gens, s.drawn, s.toks, s.os⟩ : Shared) = s1 at *
 have hs1' : s1 = ⟨s.heap.push { cls := .type "list", data := .seq ([] : List Value).toArray }, s.gens, s.drawn, s.toks, s.os⟩ := hs1.symm; have k1 : ∀ a o, s.heap.get? a = some o → s1.heap.get? a = some o := fun a o e => by rw [hs1']; exact jA _ a o e
 have g1 : s1.gens = s.gens := by rw [hs1']
 refine lh hcf1 hcp1 ?_; have hf1 := B1.fresh; have hns0 : ((s1.heap.push { cls := .type "dict", data := .dict #[] }).push { cls := .type "cell", data := .cell none }).Ns s1.heap.objs.size (fun _ => none) := (Heap.Ns.new s1.heap (.type "dict")).keeps (jA _); have hcl0 : ((s1.heap.push { cls := .type "dict", data := .dict #[] }).push { cls := .type "cell", data := .cell none }).IsCell (s1.heap.objs.size + 1) none := by
   refine ⟨{ cls := .type "cell", data := .cell none }, ?_, rfl⟩; have := aG (s1.heap.push { cls := .type "dict", data := .dict #[] }) (o := { cls := .type "cell", data := .cell none }) rfl; rw [fw] at this; exact this
 have k2 : ∀ a o, s1.heap.get? a = some o → ((s1.heap.push { cls := .type "dict", data := .dict #[] }).push { cls := .type "cell", data := .cell none }).get? a = some o := fun a o e => jA _ _ _ (jA _ _ _ e); have hb1 : ∀ a : Addr, s1.heap.objs.size ≤ a → s1.heap.get? a = none := fun a ha => by
   cases e : s1.heap.get? a with
   | none => rfl
   | some o => exact absurd (aJ e) (fB.mpr ha)
 have hLL : ∀ a : Addr, s1.heap.objs.size ≤ a → m a = none ∧ c.old a = none ∧ a ∉ own ++ ((acc, jB []) :: nw).map (·.1) := fun a ha => by
   refine ⟨?_, ?_, fun h => ?_⟩
   · cases e : m a with
     | none => rfl
     | some o => have := B1.ok _ _ e; rw [hb1 a ha] at this; cases this
   · cases e : c.old a with
     | none => rfl
     | some o => have := B1.old _ _ e; rw [hb1 a ha] at this; cases this
   rcases mAp h with h | h
   · obtain ⟨o, ho⟩ := B1.ownok _ h; rw [hb1 a ha] at ho; cases ho
   refine x12 (mMa h) fun p hp e => ?_; refine x12 (B1.ledok p hp) fun o ho _ => ?_; rw [e, hb1 a ha] at ho; cases ho
 generalize hh' : (s1.heap.push { cls := .type "dict", data := .dict #[] }).push { cls := .type "cell", data := .cell none } = h' at *
 generalize hL : s1.heap.objs.size = L at *
 have hLS : L ≤ L + 1 := eT _; have hLn : (L + 1 : Nat) ≠ L := ij _; have V := B1.vars; have hco : ∀ e ∈ ce, ∀ a, e.cel = some a → (∃ o, s1.heap.get? a = some o) ∧ (a ∈ own ∨ a ∈ c.caps) := fun e he a ha => by
   obtain ⟨hr, _⟩ := hce e he; obtain ⟨_, _, _, v, ⟨o, ho, _⟩, _⟩ := V.kc e hr a ha; exact ⟨⟨o, ho⟩, B1.cin e hr a ha⟩
 have up : ∀ a o, c.old a = some o → (c.inner own s1.heap (ce.filterMap (·.cel))).old a = some o := fun a o e => by
   simp only [Cx.inner]; rw [if_neg (fun h => by rw [(B1.out a (an.mpr (.inl h))).2] at e; cases e)]; exact e
 have C : Bd w (c.inner own s1.heap (ce.filterMap (·.cel))) γ m { (newEnv scope L env.globals ((kn, L + 1) :: ka (fun n => env.cells.lookup n) scope.names []) env.qual none .none (some env) ca) with scope := cb scope env } [L, L + 1] (ns.map (fun n => ⟨n, none, none⟩) ++ ⟨kn, some (L + 1), none⟩ :: ce) ((acc, jB []) :: nw)
     ⟨h', s1.gens, s1.drawn, s1.toks, s1.os⟩ := by
   have mem : ∀ e ∈ (ns.map (fun n => (⟨n, none, none⟩ : VE)) ++ ⟨kn, some (L + 1), none⟩ :: ce), (∃ n ∈ ns, e = ⟨n, none, none⟩) ∨ e = ⟨kn, some (L + 1), none⟩ ∨ e ∈ ce := fun e he => by
     rcases mAp he with he | he
     · obtain ⟨n, hn, rfl⟩ := mMa he; exact .inl ⟨n, hn, rfl⟩
     rcases mCo he with rfl | he
     · exact .inr (.inl rfl)
     exact .inr (.inr he)
   have hB := B1.nodup; rw [aH] at hB; refine ⟨fun a o e => ?_, fun a o e => k2 _ _ (B1.ok a o e), fun a o e => ?_, B1.gr, B1.ble, B1.os, B1.gens, B1.gpre, B1.bare, ⟨hk, V.glob, V.bltn, .head _, ⟨_, hns0, fun e he hc v hv => ?_⟩, fun e he hc => ?_, fun e he a ha => ?_, ?_, ?_⟩, fun e he a ha => ?_, fun a ha => ?_, fun a ha => ?_, fun p hp => ?_, ?_, fun a ha => ?_⟩
   · simp only [Cx.inner] at e; by_cases h : a ∈ own
     · rw [if_pos h] at e; exact k2 _ _ e
     rw [if_neg h] at e; exact k2 _ _ (B1.old a o e)
   · simp only [Cx.inner] at e; by_cases h : a ∈ own
     · have h1 := (B1.out a (an.mpr (.inl h))).1; show m a = c.base a
       rw [h1]; cases q : c.base a with
       | none => rfl
       | some ob => have := B1.ble a ob q; rw [h1] at this; cases this
     rw [if_neg h] at e; exact B1.low a o e
   · rcases mem e he with ⟨n, _, rfl⟩ | rfl | h
     · cases hv
     · cases hc
     obtain ⟨_, a, ha⟩ := hce e h; rw [hc] at ha; cases ha
   · rcases mem e he with ⟨n, hn, rfl⟩ | rfl | h
     · have := aA.mp hns n hn; exact lookup_relabel_local (by simpa using this)
     · cases hc
     obtain ⟨_, a, ha⟩ := hce e h; rw [hc] at ha; cases ha
   · rcases mem e he with ⟨n, hn, rfl⟩ | rfl | h
     · cases ha
     · cases ha
       refine ⟨.inl (la hkn), ?_, hLn, none, hcl0, fun u hu => nomatch hu⟩; show gj kn ((kn, L + 1) :: _) = _
       rw [aX, beq_self_eq_true]
     obtain ⟨hr, _⟩ := hce e h; obtain ⟨y1, y2, y3, v, ⟨o, ho, hd⟩, y5⟩ := V.kc e hr a ha; have hfr := aA.mp hcf e h; have hne : (e.name == kn) = false := by
       refine beq_eq_false_iff_ne.mpr fun q => ?_; rw [aH] at hnd; exact (aB.mp hnd.2.1).1 (q ▸ aF h)
     refine ⟨kq (by simpa using hfr), ?_, fun q => ?_, v, ⟨o, k2 _ _ ho, hd⟩, y5⟩
     · show gj e.name ((kn, L + 1) :: _) = _
       rw [aX, hne]; exact lq y2 _ _ (.inl (by simpa using hfr)) (fun b hb => nomatch hb)
     have : a = L := q; rw [this, hb1 L (ap _)] at ho; cases ho
   · rw [aM, aT]; have : (ns.map ((fun (x : VE) => x.name) ∘ fun n => (⟨n, none, none⟩ : VE))) = ns := cZ _; rw [this, ag]; exact hnd
   · rw [fW, c7]; have : (ns.filterMap ((fun (x : VE) => x.cel) ∘ fun n => (⟨n, none, none⟩ : VE))) = [] := by
       rw [dk]; intro a _; rfl
     rw [this, bi, b7]; rw [aH] at hnd; refine aB.mpr ⟨fun h => ?_, nH (ce := ce) V.cels (fun e he => (hce e he).1) (aB.mp hnd.2.1).2⟩; refine x12 (bQ.mp h) fun e he ha => ?_; obtain ⟨⟨o, ho⟩, _⟩ := hco e he _ ha; rw [hb1 _ hLS] at ho; cases ho
   · rcases mem e he with ⟨n, hn, rfl⟩ | rfl | h
     · cases ha
     · cases ha; exact .inl (.tail _ (.head _))
     exact .inr (bQ.mpr ⟨e, h, ha⟩)
   · refine x12 (bQ.mp ha) fun e he ha => ?_; obtain ⟨⟨o, ho⟩, q⟩ := hco e he a ha; simp only [Cx.inner]; by_cases h : a ∈ own
     · rw [if_pos h]; exact ⟨o, ho⟩
     rw [if_neg h]; exact B1.caps a (q.resolve_left h)
   · rcases mCo ha with rfl | ha
     · refine x32 hns0 fun o _ _ ho _ => ?_; exact ⟨o, ho⟩
     rcases mSg ha with rfl
     refine x12 hcl0 fun o ho _ => ?_; exact ⟨o, ho⟩
   · refine x12 (B1.ledok p hp) fun o ho q => ?_; exact ⟨o, k2 _ _ ho, q⟩
   · rw [aH]; refine ⟨aB.mpr ⟨fun h => hLn (mSg h).symm, aB.mpr ⟨by simp, .nil⟩⟩, hB.2.1, fun x hx y hy e => ?_⟩; have hge : L ≤ x := by
       rcases mCo hx with rfl | hx
       · exact ap _
       rcases mSg hx with rfl; exact hLS
     exact (hLL x hge).2.2 (an.mpr (.inr (e ▸ hy)))
   rcases mAp ha with ha | ha
   · have hge : L ≤ a := by
       rcases mCo ha with rfl | ha
       · exact ap _
       rcases mSg ha with rfl; exact hLS
     refine ⟨(hLL a hge).1, ?_⟩; simp only [Cx.inner]; rw [if_neg (fun h => (hLL a hge).2.2 (an.mpr (.inl h)))]; exact (hLL a hge).2.1
   have := B1.out a (an.mpr (.inr ha)); refine ⟨this.1, ?_⟩; simp only [Cx.inner]; rw [if_neg (fun h => hB.2.2 a h a ha rfl)]; exact this.2
 generalize hs2 : (⟨h', s1.gens, s1.drawn, s1.toks, s1.os⟩ : Shared) = s2 at C; have st2 : St wr 0 s2 := T.frame wr 0 s s2 hst (fun b _ o e => by rw [← hs2]; exact k2 _ _ (k1 _ _ e)) (fun b _ o e => by rw [← hs2]; exact k2 _ _ (k1 _ _ e)) (fun j x _ e => by rw [← hs2]; show s1.gens[j]? = _; rw [g1]; exact e)
 have p2 : Priv wr (c.inner own s1.heap (ce.filterMap (·.cel))) m [L, L + 1] ((acc, jB []) :: nw) := by
   have ex : ∀ b ∈ wr, ∃ o, s.heap.get? b = some o := T.live wr 0 s hst; refine ⟨p.m, fun b hb h => ?_, fun b hb => ?_⟩
   · obtain ⟨o, ho⟩ := ex b hb; rcases mAp h with h | h
     · have hge : L ≤ b := by
         rcases mCo h with rfl | h
         · exact ap _
         rcases mSg h with rfl; exact hLS
       have := k1 _ _ ho; rw [hb1 b hge] at this; cases this
     rw [ag] at h; rcases mCo h with rfl | h
     · have := aJ ho; rw [hacc] at this; exact bB _ this
     exact p.own b hb (an.mpr (.inr h))
   simp only [Cx.inner]; rw [if_neg (fun h => p.own b hb (an.mpr (.inl h)))]; exact p.old b hb
 have loop : cf (model PG w) A (.compLoop (.ListComp elt [⟨target, iter, ifs, 0⟩] scope pos) 0 (.ref I) (.ref acc) { (newEnv scope L env.globals ((kn, L + 1) :: ka (fun n => env.cells.lookup n) scope.names []) env.qual none .none (some env) ca) with scope := cb scope env }) (R (.ref acc) L) s2 := by
   refine qj (t0 := 0) (c := c.inner own s1.heap (ce.filterMap (·.cel))) .one T Inv hfp hgw (fun i v c1 γ m ρ xs nw s hi _ hI hm hv B' _ => turn i v c1 _ L acc γ m ρ xs nw s hi ⟨rfl, rfl, rfl⟩ hI hm hv B') (fun γ' m' ρ' xs nw' s' hI hm B' => ?_) (h0 L) .rfl C (be _) st2 p2; exact fin γ' m' ρ' xs nw' L acc s' hI hm (B1.outN B' rfl)
 exact codeAny_compStart_list loop (am (Q := fun it' s' => cf (model PG w) A (.compLoop (.ListComp elt [⟨target, iter, ifs, 0⟩] scope pos) 0 it' (.ref acc) { (newEnv scope L env.globals ((kn, L + 1) :: ka (fun n => env.cells.lookup n) scope.names []) env.qual none .none (some env) ca) with scope := cb scope env }) (R (.ref acc) L) s') (T.self wr 0 s2 _ st2 loop) (fun _ _ q => q) fun _ _ x => x.elim)
theorem lc_go1 {elt target iter : Expr} {ifs : List Expr} {scope : Scope} {pos : Pos} {I : Addr} {n : Nat} {V : VH} {Q : VP} (B : Bd w c γ m env own ρ nw s) (T : Src w A target c m own nw I n V s) (ce : List VE) (ns : List Str) (kn : Str) (p : Nat → Bool) (W : VH)
   (hk : scope.kind = .function) (hcf1 : ∀ n acc, cr n scope.names acc = (kn, n) :: acc) (hcp1 : ∀ h, pushCells h scope.names = h.push { cls := .type "cell", data := .cell none }) (hkn : scope.names.lookup kn = some .cell) (hns : (ns.all fun n => scope.names.lookup n == some .local) = true)
   (hce : ∀ e ∈ ce, e ∈ ρ ∧ ∃ a, e.cel = some a) (hcf : (ce.all fun e => scope.names.lookup e.name == some .free) = true) (hnd : (ns ++ kn :: ce.map (·.name)).Nodup) (hz : n ≤ aS)
   (turn : ∀ i v c1 cenv L γ m1 nw1 vk s, i < n → EnvOf cenv (cb scope env) L ((kn, L + 1) :: ka (fun n => env.cells.lookup n) scope.names []) → m.le m1 → V i v s.heap → (∀ q ∈ nw, q ∈ nw1) →
     Bd w c1 γ m1 cenv [L, L + 1] (ns.map (fun n => ⟨n, none, none⟩) ++ ⟨kn, some (L + 1), vk⟩ :: ce) nw1 s →
     wpAny (model PG w) A (bM target cenv v) (fun _ s₂ => wpAny (model PG w) A (kz ifs cenv) (fun ok s₃ =>
         ok = p i ∧ if ok = true then wpAny (model PG w) A (eval elt cenv) (fun x s₄ => ∃ vk', kF w c1 cenv [L, L + 1] (ns.map (fun n => ⟨n, none, none⟩) ++ ⟨kn, some (L + 1), vk'⟩ :: ce) nw1 m1 (W i x) s₄) NoE s₃
         else ∃ vk', kF w c1 cenv [L, L + 1] (ns.map (fun n => ⟨n, none, none⟩) ++ ⟨kn, some (L + 1), vk'⟩ :: ce) nw1 m1 (fun _ => True) s₃) NoE s₂) NoE s)
   (fin : ∀ γ' m' xs a s', m.le m' → Kn m' (At a (jB xs)) → All2 (fun x i => Kn m' (W i x)) xs ((ae n).filter p) → Bd w c γ' m' env own ρ nw s' → Q (.ref a) s') :
   tK w A env elt target iter ifs scope pos none E Q (.ref I) s := by
 refine x45 T fun fp gw St wr T hfp hgw hst hpr => ?_; have hforg : ∀ (L : Addr) (vk : Option Value), me (ns.map (fun n => (⟨n, none, none⟩ : VE)) ++ ⟨kn, some (L + 1), vk⟩ :: ce) = ns.map (fun n => ⟨n, none, none⟩) ++ ⟨kn, some (L + 1), vk⟩ :: ce := by
   intro L vk; unfold me; rw [aM, aT, ag]; congr 1
   congr 1
   conv => rhs; rw [← eR ce]
   refine bW fun e he => ?_; obtain ⟨_, a, ha⟩ := hce e he; cases e with
   | mk nm cl vl => simp only at ha; subst ha; rfl
 unfold tK; refine tD (R := fun acc C => gf (model PG w) A E none Q acc C) (ns := ns) (kn := kn) (ce := ce) B T (fun i xs m1 ρ' nw' => (∃ (L : Addr) (vk : Option Value), ρ' = ns.map (fun n => ⟨n, none, none⟩) ++ ⟨kn, some (L + 1), vk⟩ :: ce) ∧ nw' = nw ∧ xs.length ≤ i ∧ All2 (fun x j => Kn m1 (W j x)) xs ((ae i).filter p)) hk hcf1 hcp1 hkn hns hce hcf hnd hfp hgw hst hpr ?_ (fun L => ⟨⟨L, none, rfl⟩, rfl, be _, .nil⟩) ?_
 · rintro i v c1 cenv L acc γ m1 ρ' xs nw' s hi hE ⟨⟨L0, vk, rfl⟩, rfl, hlen, hxs⟩ hm hv B; have hLL : (L0 + 1 : Nat) = L + 1 := by
     have h1 := (B.vars.kc ⟨kn, some (L0 + 1), vk⟩ (an.mpr (.inr (.head _))) (L0 + 1) rfl).2.1; rw [hE.cells, aX, beq_self_eq_true] at h1; exact (cK h1).symm
   have hL0 : (some (L0 + 1) : Option Addr) = some (L + 1) := congrArg some hLL; rw [hL0] at B; refine am (turn i v c1 cenv L γ m1 _ vk s hi hE hm hv (fun q hq => .tail _ hq) B) (fun _ s₂ h₂ => am h₂ (fun ok s₃ h₃ => ?_) fun _ _ e => e) fun _ _ e => e; obtain ⟨rfl, h₃⟩ := h₃; have hr : (ae (i + 1)).filter p = (ae i).filter p ++ if p i = true then [i] else [] := by
     rw [eV, cI]; congr 1
     rw [bH]; split <;> simp
   by_cases hp : p i = true
   · rw [if_pos hp] at h₃ ⊢; refine am h₃ (fun x s₄ h₄ => ?_) fun _ _ e => e; refine x44 h₄ fun vk' γ' m' ρ' h1 h2 h3 h4 => ?_; refine ⟨γ', m', _, nw', by exact a1 hz hi hlen, ⟨⟨L, vk', rfl⟩, rfl, by simp; exact hlen, ?_⟩, hm.trans h1, by rw [← hforg, ← h3]; exact h4.forget⟩; rw [hr, if_pos hp]; exact (hxs.imp fun _ _ k => k.up h1).append (.cons h2 .nil)
   rw [if_neg hp] at h₃ ⊢; refine x44 h₃ fun vk' γ' m' ρ' h1 h2 h3 h4 => ?_; refine ⟨γ', m', _, nw', ⟨⟨L, vk', rfl⟩, rfl, by exact a0 hlen, ?_⟩, hm.trans h1, by rw [← hforg, ← h3]; exact h4.forget⟩; rw [hr, if_neg hp, bE]; exact hxs.imp fun _ _ k => k.up h1
 rintro γ' m' ρ' xs nw' L acc s' ⟨_, rfl, _, hxs⟩ hm B'; obtain ⟨mp, hn⟩ := NsO.ns (B'.at (.head _)); refine ⟨mp, hn, fun h' hs => ?_⟩; have B2 : Bd w c γ' m' env own ρ ((acc, jB xs) :: nw') ⟨h', s'.gens, s'.drawn, s'.toks, s'.os⟩ := B'.lose1 (jT hs); refine x13 B2.freeze fun m2 h1 h2 h3 => ?_; exact fin γ' m2 xs acc _ (hm.trans h1) h2 (hxs.imp fun _ _ k => k.up h1) h3
end
end
section
section
variable {w : World} {c : Cx} {γ γ' : Array aE} {m m' : Mp} {env cenv : Env} {own : List Addr} {ρ ρ' : List VE} {nw nw' : Led} {s s' : Shared} {A : au} {E : VP}
theorem l_sum {a : Addr} {ns : List Int} {Q : VP} (B : Bd w c γ m env own ρ nw s) (hh : A.handled = none) (hl : LI a ns s.heap)
   (h : ∀ t s', Bd w c γ m env own ρ nw s' → Q (.int ns.sum t) s') : wpAny (model PG w) A (call (.builtin "sum") [.ref a]) Q E s := by
 refine x12 hl fun vs h1 h2 => ?_; have hl := h1.list; obtain ⟨xs, e⟩ := h2.allInts.items; rw [e] at hl; refine sum_intListG hh hl fun h' tk t' hk => ?_; have e2 : preSum (numAt xs) xs.size = ns.sum := by
   rw [preSum_eq, bt (by simp), ← nums_intItems, ← e, show vs.toArray.toList = vs from rfl, h2.numsOf]
 rw [e2]; exact h t' _ (B.grow hk)
theorem ints_take {vs : List Value} {ns : List Int} (k : Nat) (h : d6 vs ns) : d6 (vs.take k) (ns.take k) := by
 induction h generalizing k with
 | nil => rw [eL, eL]; exact .nil
 | cons n t r ih =>
   cases k with
   | zero => exact .nil
   | succ k => exact .cons n t (ih k)
theorem qL {W : Int → Prop} {xs : List Value} {is : List Nat} (B : Bd w c γ m env own ρ nw s) (h : All2 (fun x i => Kn m (fun _ => ∃ n t, x = .int n t ∧ W n)) xs is) : ∃ ns, d6 xs ns ∧ ∀ n ∈ ns, W n := by
 induction h with
 | nil => exact ⟨[], .nil, fun _ h => nomatch h⟩
 | cons h _ ih =>
   refine x12 ih fun ns h1 h2 => ?_; obtain ⟨n, t, rfl, hw⟩ := B.kn h; exact ⟨n :: ns, .cons n t h1, fun k hk => by
     rcases mCo hk with rfl | hk
     · exact hw
     exact h2 k hk⟩
end
section
variable {w : World}
theorem c_sums {a sd : Addr} {ns sds : List Int} (hns : ns.length ≤ 1000) (hsd : sds.length ≤ 1000) {A : au} {m : Mp} {s : Shared} {Q E : VP} (hR : Rm A 1 4) (b : Bef w m s) (hk : Kn m (LI a ns)) (hks : Kn m (LI sd sds))
   (h : ∀ r rs m' s', Aft [] m s m' s' → Kn m' (LI r rs) → rs.length = sds.length → (∀ n ∈ rs, 0 ≤ n ∧ n < 1000000) → Q (.ref r) s') :
   wpAny (model PG w) A (call (.ref 257) [.ref a, .ref sd]) Q E s := by
 refine oR (d := 0) (u := 1) (nw := []) (ns := ["seeds"]) (cn := ["script"])
   (ρ₀ := fun L => [⟨"seeds", none, some (.ref sd)⟩, ⟨"script", some (L + 1), some (.ref a)⟩]) (own₀ := fun L => [L, L + 1]) hR b .nil rfl rfl rfl rfl rfl rfl rfl rfl rfl rfl (by rfl) (by decide +kernel) (by decide +kernel) (by decide +kernel) (fun L => rfl) (fun L => rfl) (fun L => rfl) ?_
 intro A env L c s' hE hR' hc B hL; walk_at "opq"; walk_at "sts"; refine jH B [⟨"script", some (L + 1), some (.ref a)⟩] (by walk_at "cs") rfl rfl rfl ?_; walk_at "sts"; refine x12 (B.koI hks) fun vs hko hvs => ?_; apply kN B hR'.handled hko; intro I s B T; refine lc_go1 B T [⟨"script", some (L + 1), some (.ref a)⟩] ["seed"] (aa "k") (fun _ => true) (fun i v _ => ∃ n t, v = .int n t ∧ (0 ≤ n ∧ n < 1000000)) rfl (fun _ _ => rfl) (fun _ => rfl) rfl (by decide +kernel) (by walk_at "ce") rfl (by show fQ [aa "seed", aa "k", aa "script"]; decide +kernel) (by rw [jM hvs]; exact szl (a97 hsd)) ?_ ?_
 · rintro i v c1 cenv L2 γ1 m1 nw1 vk s hi hE hm1 hv hnw B; simp only [ag, b6, aY, bi] at B; obtain ⟨T, tp, x, rfl, hx, hT⟩ := hv; obtain ⟨sdi, tx, hsx, rfl⟩ := kD hvs hx; refine kE B hR'.handled hT rfl rfl ?_; clear B; intro s B; refine ak (af ?_); walk_at "st"; refine ak (af ?_); walk_at "st"; refine aL ?_; refine kU ⟨rfl, ?_⟩; rw [if_pos rfl]; walk_at "sts"; refine jH B [⟨"k", some (L2 + 1), some (.int (i : Nat) tp)⟩] (by walk_at "cs") rfl rfl rfl ?_; walk_at "sts"; refine x12 (B.koI (hk.up hm1)) fun us hus hui => ?_; have hul := jM hui; refine kC B (B.ato hus) .none (.int _ _) ?_ (by rw [hul]; exact szl (a97 hns)); clear B; intro x2 m2 s hm2 hk2 B; rw [show ((60 : Int)) = ((60 : Nat) : Int) from rfl, fx] at hk2
   have hki := ints_take 60 hui; have hul2 : (us.take 60).length ≤ 1000 := by rw [bq]; exact a102
   generalize us.take 60 = us2 at hk2 hki hul2; generalize ns.take 60 = ns2 at hki; walk_at "sts"; apply kN B hR'.handled (B.ko hk2); intro I s B T; refine mZ B T [⟨"k", some (L2 + 1), some (.int (i : Nat) tp)⟩] ["place", "number"] (fun j => decide (j % 4 = i)) (fun j v _ => ∃ n t, v = .int n t ∧ True) ⟨rfl, rfl, rfl, by walk_at "cs", rfl, rfl⟩ ?_ ?_ ?_
   · rw [aD]; show us2.length ≤ _; exact a97 hul2
   · intro j v c2 cenv L3 γ3 m3 own ρ nw3 s hj hE hm3 hv hC hM B Qt hK; obtain ⟨T, tj, x, rfl, hx, hT⟩ := hv; obtain ⟨num, tn, hn2, rfl⟩ := kD hki (by simpa using hx); refine kE B hR'.handled hT rfl rfl ?_; clear B; intro s B; refine ak (af ?_); walk_at "st"; refine ak (af ?_); walk_at "st"; refine aL ?_; walk_at "sts"; refine hK.go ?_ (by walk_at "tn") B .rfl fun hb Qx hK => ?_
     · show _ = decide (j % 4 = i)
       rw [dc _ (by decide)]; by_cases q : j % 4 = i
       · rw [decide_eq_true q]; exact beq_iff_eq.mpr (a101 q)
       rw [decide_eq_false q]; exact beq_eq_false_iff_ne.mpr (a100 q)
     walk_at "sts"; exact hK.go (by walk_at "tn") B .rfl (fun _ _ => ⟨_, _, rfl, trivial⟩)
   intro γ3 m3 xs x3 s hm3 hk3 hxs B; refine x12 (qL B hxs) fun rs hrs _ => ?_; walk_at "sts"; refine l_sum B hR'.handled ⟨xs, B.kn hk3, hrs⟩ ?_; clear B; intro t3 s B; walk_at "sts"; walk_at "qs"; refine ⟨_, oX B (hm2.trans hm3) (fun _ _ => ⟨_, _, rfl, ?_⟩) rfl⟩; have h1 : (0 : Int) < 10 ^ Int.toNat 6 := by decide
   walk_at "qs"; exact ⟨cx _ h1, db _ h1⟩
 intro γ1 m1 xs r1 s hm1 hk1 hz B; rw [lC] at hz; refine x12 (qL B hz) fun rs hrs hrb => ?_; walk_at "sts"; walk_at "qs"; exact h r1 rs _ _ (B.done hc .nil jC) (fun hp ok => ⟨xs, hk1 hp ok, hrs⟩) (by rw [← jM hrs, hz.length, dQ, jM hvs]) hrb
end
end
section
open PySem.Builtin
noncomputable def j1 (s sub : Str) (hi limit : Nat) (st : Array Nat × Nat) (i : Nat) : Array Nat × Nat :=
 if (decide (st.1.size < limit) && decide (st.2 ≤ i) && decide (i + sub.length ≤ hi) && Str.subAt s sub i) = true then (st.1.push i, i + sub.length) else st
theorem sj {α σ : Type} {f : σ → α → σ} {g : α → σ → Id (ForInStep σ)} (h : ∀ a s, g a s = pure (d7 (f s a))) : ∀ (l : List α) (s : σ), (forIn l s g : Id σ) = pure (l.foldl f s)
 | [], s => rfl
 | a :: l, s => by
   rw [eW, h]; exact sj h l (f s a)
theorem pY (s sub : Str) (lo hi limit : Nat) : bj s sub lo hi limit = ((bC lo (hi + 1 - lo)).foldl (j1 s sub hi limit) (#[], lo)).1.toList := by
 unfold bj; simp only [Std.Legacy.Range.forIn_eq_forIn_range', Std.Legacy.Range.size]; rw [sj (f := j1 s sub hi limit)]
 · simp
 intro a st; unfold j1; split <;> rfl
noncomputable def jL (c : Nat) : List Nat → Nat → List Nat
 | [], _ => []
 | a :: r, k => if a = c then k :: jL c r (k + 1) else jL c r (k + 1)
theorem lU (c a : Nat) (r : List Nat) (k : Nat) : jL c (a :: r) k = if a = c then k :: jL c r (k + 1) else jL c r (k + 1) := rfl
theorem mq (c : Nat) : ∀ (l : List Nat) (k : Nat), (jL c l k).length ≤ l.length
 | [], _ => ap _
 | a :: r, k => by
   unfold jL; have := mq c r (k + 1); split <;> simp <;> (first | lia | omega)
theorem oD (c : Nat) : ∀ (a b : List Nat) (k : Nat), jL c (a ++ b) k = jL c a k ++ jL c b (k + a.length)
 | [], b, k => rfl
 | x :: a, b, k => by
   have := oD c a b (k + 1); rw [aY, lU, lU, this, ay, show k + 1 + a.length = k + (a.length + 1) from by exact a342]
   split <;> rfl
theorem subAt_one (x : Str) (c i : Nat) (hi : i < x.length) : Str.subAt x ⟨#[c]⟩ i = decide (x.cps.toList[i]? = some c) := by
 unfold Str.subAt; have e : (x.cps.extract i (i + (⟨#[c]⟩ : Str).length)).toList = [x.cps[i]'hi] := by
   have h2 : i < x.cps.toList.length := by rw [eY]; exact hi
   rw [dl, cE, show i + (⟨#[c]⟩ : Str).length - i = 1 from by have : (⟨#[c]⟩ : Str).length = 1 := rfl; exact a341 this, bp h2]
   show [x.cps.toList[i]] = _
   rfl
 have e2 : x.cps.extract i (i + (⟨#[c]⟩ : Str).length) = #[x.cps[i]'hi] := by
   apply dw.mp; rw [e]
 rw [e2]; have e3 : x.cps.toList[i]? = some (x.cps[i]'hi) := by
   rw [dM]; exact cB hi
 rw [e3]; by_cases h : x.cps[i]'hi = c
 · rw [h]; simp
 simp [h]
theorem pX (x : Str) (c limit : Nat) : bj x ⟨#[c]⟩ 0 x.length limit = (jL c x.cps.toList 0).take limit := by
 rw [pY, Nat.sub_zero]; have hl : x.cps.toList.length = x.length := by simp [du]
 have go : ∀ n, n ≤ x.length → ∃ free, free ≤ n ∧ (bC 0 n).foldl (j1 x ⟨#[c]⟩ x.length limit) (#[], 0) = (((jL c (x.cps.toList.take n) 0).take limit).toArray, free) := by
   intro n; induction n with
   | zero => intro _; exact ⟨0, ap _, by simp [jL]⟩
   | succ n ih =>
     intro hn; refine x12 (ih (a340 hn)) fun free hf e => ?_; have hlt : n < x.cps.toList.length := a339 hl hn
     rw [show bC 0 (n + 1) = bC 0 n ++ [n] from by rw [ju]; simp, ct, e, aR, dY]
     have et : x.cps.toList.take (n + 1) = x.cps.toList.take n ++ [x.cps.toList[n]] := by rw [bK, ac hlt]; rfl
     rw [et, oD]; have el : 0 + (x.cps.toList.take n).length = n := by rw [bq]; exact a338 hl hn
     rw [el]; unfold j1; rw [subAt_one x c n (by exact hn)]; have e1 : (⟨#[c]⟩ : Str).length = 1 := rfl; simp only [e1, ac hlt, dm, bq]; by_cases hc : x.cps.toList[n] = c
     · have e2 : jL c [x.cps.toList[n]] n = [n] := by unfold jL; rw [if_pos hc]; rfl
       rw [e2]; by_cases hlim : min limit (jL c (x.cps.toList.take n) 0).length < limit
       · rw [if_pos (by rw [decide_eq_true hlim, decide_eq_true hf, decide_eq_true (show n + 1 ≤ x.length from hn), decide_eq_true (show some x.cps.toList[n] = some c from by rw [hc])]; rfl)]
         refine ⟨n + 1, ap _, ?_⟩; have hlen : (jL c (x.cps.toList.take n) 0).length < limit := a337 hlim
         congr 1
         rw [hU, bt (bD hlen), bt (show [n].length ≤ _ from by show 1 ≤ _; exact a336 hlen)]
         simp
       rw [if_neg (by rw [decide_eq_false hlim]; simp)]; refine ⟨free, by exact a0 hf, ?_⟩; congr 2
       rw [hU]; rw [show limit - (jL c (x.cps.toList.take n) 0).length = 0 from by exact a335 hlim]
       simp
     have e2 : jL c [x.cps.toList[n]] n = [] := by unfold jL; rw [if_neg hc]; rfl
     rw [e2, bE, if_neg (by rw [decide_eq_false (show ¬ some x.cps.toList[n] = some c from fun q => hc (cK q)), cQ]; exact ax)]
     exact ⟨free, by exact a0 hf, rfl⟩
 refine x12 (go x.length (ap _)) fun free hf e => ?_; have er : bC 0 (x.length + 1) = bC 0 x.length ++ [x.length] := by rw [ju]; simp
 rw [er, ct, e, aR, dY]; unfold j1; have hno : decide (x.length + (⟨#[c]⟩ : Str).length ≤ x.length) = false := decide_eq_false (Nat.not_le.mpr (ik _)); rw [if_neg (by rw [hno, cQ, cP]; exact ax)]; have : x.cps.toList.take x.length = x.cps.toList := bt (a334 hl); rw [this]
noncomputable def kZ (c : Nat) : List Nat → List Nat → List (List Nat)
 | acc, [] => [acc]
 | acc, a :: r => if a = c then acc :: kZ c [] r else kZ c (acc ++ [a]) r
theorem pV (x : Str) (c : Nat) : ∀ (l pre acc : List Nat) (st : Nat), x.cps.toList = pre ++ l → acc = pre.drop st → st ≤ pre.length →
   (((st :: (jL c l pre.length).map (· + 1)).zip (jL c l pre.length ++ [x.length])).map fun (i, j) => Str.strSub x i j) = (kZ c acc l).map fun l => ⟨l.toArray⟩
 | [], pre, acc, st, hx, ha, hs => by
   have hl : x.length = pre.length := by have : x.cps.toList.length = x.length := (by simp [du]); rw [← this, hx]; simp
   show [Str.strSub x st x.length] = [_]
   congr 1
   unfold Str.strSub; congr 1
   apply dw.mp; rw [dl, cE, hx, hl, ha, bE, bt (by simp)]
 | a :: r, pre, acc, st, hx, ha, hs => by
   have hx' : x.cps.toList = (pre ++ [a]) ++ r := by rw [hx]; simp
   have hlen : (pre ++ [a]).length = pre.length + 1 := by simp
   unfold jL kZ; by_cases hc : a = c
   · rw [if_pos hc, if_pos hc, ag, aY, jt, ag, ag]; have := pV x c r (pre ++ [a]) [] (pre.length + 1) hx' (by rw [← hlen, eJ]) (a333 hlen); rw [hlen] at this; rw [this]; congr 1
     show Str.strSub x st pre.length = _
     unfold Str.strSub; congr 1
     apply dw.mp; rw [dl, cE, hx, ha, cO hs, eO (by simp), bt (by simp)]
   rw [if_neg hc, if_neg hc]; have := pV x c r (pre ++ [a]) (acc ++ [a]) st hx' (by rw [ha, cO hs]) (a332 hs hlen); rw [hlen] at this; exact this
theorem pb (x : Str) (c : Nat) (hc : c < 256) : cz x ⟨#[c]⟩ = (kZ c [] x.cps.toList).map fun l => ⟨l.toArray⟩ := by
 have hl : x.cps.toList.length = x.length := by simp [du]
 have hp := pV x c x.cps.toList [] [] 0 rfl rfl (ap _); have ho := pX x c (x.length + 1); rw [bt (by have := mq c x.cps.toList 0; exact a331 hl this)] at ho; unfold cz; rw [ho]; have hself : jL c x.cps.toList 0 = [] → [x] = (kZ c [] x.cps.toList).map fun l => ⟨l.toArray⟩ := fun he => by
   rw [bU, he] at hp; rw [← hp]; show [x] = [Str.strSub x 0 x.length]
   congr 1
   unfold Str.strSub du; rw [jp]
 split
 · rename_i h
   simp only [cA, decide_eq_true_eq] at h; refine hself ?_; rcases h with h | h
   · have h0 : x.length = 0 := by have : (⟨#[c]⟩ : Str).length = 1 := rfl; exact a330 h this
     have : x.cps.toList = [] := dy.mp (a329 hl h0); rw [this]; rfl
   exfalso
   have h1 : Str.strKind ⟨#[c]⟩ = 1 := by unfold Str.strKind; simp [hc]
   rw [h1] at h; unfold Str.strKind at h; split at h
   · exact a328 h
   split at h <;> (first | lia | omega)
 split
 · rename_i h
   exact hself (dz.mp h)
 exact hp
theorem nu (c : Nat) : ∀ (l acc : List Nat), (kZ c acc l).length ≤ l.length + 1
 | [], _ => ap _
 | a :: r, acc => by
   unfold kZ; have h1 := nu c r []; have h2 := nu c r (acc ++ [a]); split <;> simp <;> (first | lia | omega)
theorem nr (c : Nat) : ∀ (l acc : List Nat), ∀ p ∈ kZ c acc l, p.length ≤ acc.length + l.length
 | [], acc, p, h => by rw [mSg h]; exact ap _
 | a :: r, acc, p, h => by
   unfold kZ at h; rw [ay]; split at h
   · rcases mCo h with rfl | h
     · exact a327
     have := nr c r [] p h; simp only [bU] at this; exact a326 this
   have := nr c r (acc ++ [a]) p h; simp only [aw, ay, bU] at this; exact a325 this
theorem pf (c : Nat) : ∀ (l acc : List Nat), 0 < (kZ c acc l).length
 | [], acc => Nat.one_pos
 | a :: r, acc => by
   unfold kZ; split
   · simp
   exact pf c r _
theorem parts_len (x : Str) (c : Nat) : (Str.partsBetween x (Str.occurrences x ⟨#[c]⟩ 0 x.length (x.length + 1)) 1).length ≤ x.length + 1 := by
 have ho := pX x c (x.length + 1); unfold Str.partsBetween; simp only [al, List.length_zip, ay, aw, bU, ho, bq]; have hl : x.cps.toList.length = x.length := by simp [du]
 have := mq c x.cps.toList 0; exact a324 hl this
theorem qK : ∀ (r : List Str) (acc : Array Nat), (r.foldl (fun acc p => acc ++ (aa "").cps ++ p.cps) acc).toList = acc.toList ++ (r.map fun y => y.cps.toList).flatten
 | [], acc => by simp
 | x :: r, acc => by
   rw [aR, qK r, ag, cu]; have : (aa "").cps = #[] := by decide +kernel
   rw [this]; simp
theorem p9 (ys : List Str) : (dC (aa "") ys).cps.toList = (ys.map fun y => y.cps.toList).flatten := by
 show (eX (aa "") ys).cps.toList = _
 unfold eX; rw [qK]; cases ys with
 | nil => rfl
 | cons y r => rfl
theorem kP (x : Str) : x.length = x.cps.toList.length := by simp [du]
theorem lX (ys : List Str) : (dC (aa "") ys).length = (ys.map (·.length)).sum := by
 rw [kP, p9, List.length_flatten, aT]; have : (List.length ∘ fun (y : Str) => y.cps.toList) = fun y => y.length := by funext y; rw [kP]; rfl
 rw [this]
end
section
section
variable {w : World} {c : Cx} {γ γ' : Array aE} {m m' : Mp} {env cenv : Env} {own : List Addr} {ρ ρ' : List VE} {nw nw' : Led} {s s' : Shared} {A : au} {E : VP}
theorem l_pop {l : Addr} {vs : List Value} {k : Nat} {u : Tok} {y : Value} {Q : VP} (B : Bd w c γ m env own ρ nw s) (up : Upd l (jB vs) (jB (vs.eraseIdx k)) nw nw') (hy : vs[k]? = some y) (hz : vs.length ≤ 1000)
   (h : ∀ s', Bd w c γ m env own ρ nw' s' → Q y s') : wpAny (model PG w) A (call (.builtin "list.pop") [.ref l, .int (k : Nat) u]) Q E s := by
 obtain ⟨n, ho⟩ := (B.at up.mem).plain; have hk := (aC.mp hy).1; have hi : seqIndex? (k : Nat) vs.toArray.size = some k := by
   unfold seqIndex?; simp only [dm]; split <;> rename_i hh
   · (first | lia | omega)
   simp; exact hk
 have hT : s.TypeIs (.ref l) "list" := (B.at up.mem).list.typeIs; have hfit : gI (k : Nat) = true := by
   unfold gI; have h1 : decide (-(2 ^ 63 : Int) ≤ (k : Nat)) = true := decide_eq_true (a154); have h2 : decide (((k : Nat) : Int) < 2 ^ 63) = true := decide_eq_true (a28 hz hk); rw [h1, h2]; rfl
 have hz1 : vs.toArray.size ≤ aS := by rw [aD, dm]; exact a97 hz
 have hy1 : vs.toArray[k]? = some y := by rw [eG]; exact hy
 have hm := @PySem.MeetsSeq.list_pop_at l vs.toArray n ((k : Nat) : Int) u k y hfit hi hy1 hz1; have hsb : c0 l s.heap (s.heap.update l (Obj.mapSeq fun xs => xs.eraseIdxIfInBounds k)) := dh ..; have e : vs.toArray.eraseIdxIfInBounds k = (vs.eraseIdx k).toArray := by
   unfold Array.eraseIdxIfInBounds; simp [hk]
 have hq : wants Q E (.ok (.ret y)) { s with heap := s.heap.update l (Obj.mapSeq fun xs => xs.eraseIdxIfInBounds k) } := by
   refine h _ (B.turn up (fun b o hb e => hsb.extBut b o hb e) ⟨_, dP _ ho rfl, (if (vs.eraseIdx k).toArray.size == vs.toArray.size then n else n + 1), ?_⟩)
   show bZ _ _ _ _ = _
   simp only [e]
 exact @ie PG w A E s _ _ _ _ _ _ _ Q F.slot_list_pop hT F.entry_list_pop (F.args_list_pop_2 _ _) @hm ⟨ho, hq⟩
theorem gm_pop {l : Addr} {vs : List Value} {pl : Sem Bool} {Q : Value × List Value → Shared → Prop} (hl : At l (jB vs) s.heap) (h : Q (.builtin "list.pop", [.ref l]) s) : wpAny (model PG w) A (gb (.ref l) (aa "pop") pl) Q E s := by
 obtain ⟨n, ho⟩ := hl.plain; exact fN hl.list.typeIs PySem.F.plainAttrs_list PySem.F.slot_list_pop PySem.F.type_list_pop (fun a e => by cases e; exact ⟨_, ho, rfl⟩) h
theorem p5 (a b : Nat) : ((a : Int)).fmod (b : Int) = ((a % b : Nat) : Int) := by rw [dc _ (bm _)]; rfl
theorem p6 (a b : Nat) : ((a : Int)).fdiv (b : Int) = ((a / b : Nat) : Int) := by rw [cy _ (bm _)]; rfl
theorem sI {vs : List Value} {ns : List Str} (k : Nat) (h : cg vs ns) : cg (vs.eraseIdx k) (ns.eraseIdx k) := by
 induction h generalizing k with
 | nil => rw [List.eraseIdx_nil, List.eraseIdx_nil]; exact .nil
 | cons n t r ih =>
   cases k with
   | zero => exact r
   | succ k => exact .cons n t (ih k)
theorem qw {vs : List Value} {ns : List Str} (k : Nat) (h : cg vs ns) : cg (vs.take k) (ns.take k) := by
 induction h generalizing k with
 | nil => rw [eL, eL]; exact .nil
 | cons n t r ih =>
   cases k with
   | zero => exact .nil
   | succ k => exact .cons n t (ih k)
theorem qx {vs : List Value} {ns : List Str} (k : Nat) (h : cg vs ns) : cg (vs.drop k) (ns.drop k) := by
 induction h generalizing k with
 | nil => rw [List.drop_nil, List.drop_nil]; exact .nil
 | cons n t r ih =>
   cases k with
   | zero => exact .cons n t r
   | succ k => exact ih k
theorem lS {vs : List Value} {ns : List Str} (h : cg vs ns) {k : Nat} (hk : k < ns.length) : ∃ t, vs[k]? = some (.str (ns.getD k aj) t) :=
 mM h (mz hk)
end
noncomputable def dressL : List Str := [aa "", aa "\\)", aa "\\\\\"(\"", aa "\\\"", aa "\")\"", aa "\"(\""]
noncomputable def poolL : List Str := ["a", "A", "b", "B", "c", "C"]
noncomputable def lm (st : Nat × Nat × List Str × List Str) (size : Nat) : Nat × Nat × List Str × List Str :=
 (st.1 / size, st.2.1 / 6, st.2.2.1.eraseIdx (st.1 % size), st.2.2.2 ++ [dressL.getD (st.2.1 % 6) aj ++ st.2.2.1.getD (st.1 % size) aj])
noncomputable def jO (order dress k : Nat) : Nat × Nat × List Str × List Str := ([6, 5, 4, 3, 2, 1].take k).foldl lm (order, dress, poolL, [])
noncomputable def ru (x y : Str) : Str := aa "(" ++ x ++ aa "?" ++ y ++ aa ")"
noncomputable def k6 (st : Nat × List Str) (size : Nat) : Nat × List Str :=
 (st.1 / size, st.2.take (st.1 % size) ++ [ru (st.2.getD (st.1 % size) aj) (st.2.getD (st.1 % size + 1) aj)] ++ st.2.drop (st.1 % size + 2))
noncomputable def j4 (merging : Nat) (leaves : List Str) (k : Nat) : Nat × List Str := ([5, 4, 3, 2, 1].take k).foldl k6 (merging, leaves)
noncomputable def lP (text : Str) (signs : List Str) : Str := (cz text (aa "?")).getD 0 aj ++ dC (aa "") (cY (· ++ ·) signs ((cz text (aa "?")).drop 1))
theorem nM {order dress i : Nat} (hi : i < 6) : jO order dress (i + 1) = lm (jO order dress i) (6 - i) := by
 unfold jO; rw [bK, ct]; revert hi; generalize i = j; revert j; exact lt6 rfl rfl rfl rfl rfl rfl
theorem lW (order dress : Nat) : ∀ i, i ≤ 6 → (jO order dress i).2.2.1.length = 6 - i ∧ (jO order dress i).2.2.2.length = i ∧ (∀ x ∈ (jO order dress i).2.2.1, x ∈ poolL) ∧ ∀ x ∈ (jO order dress i).2.2.2, ∃ d ∈ dressL, ∃ p ∈ poolL, x = d ++ p
 | 0, _ => ⟨rfl, rfl, fun x h => h, fun x h => nomatch h⟩
 | i + 1, hi => by
   refine x04 (lW order dress i (a153 hi)) fun h1 h2 h3 h4 => ?_; rw [nM (by exact hi)]; have hk : (jO order dress i).1 % (6 - i) < (jO order dress i).2.2.1.length := by rw [h1]; exact bR _ (a152 hi)
   have hd : (jO order dress i).2.1 % 6 < dressL.length := bR _ (by decide); refine ⟨?_, ?_, fun x hx => h3 x (List.mem_of_mem_eraseIdx hx), fun x hx => ?_⟩
   · show ((jO order dress i).2.2.1.eraseIdx _).length = _
     rw [List.length_eraseIdx, if_pos hk, h1]; exact a151
   · show ((jO order dress i).2.2.2 ++ [_]).length = _
     rw [aw, h2]; rfl
   rcases mAp hx with hx | hx
   · exact h4 x hx
   rw [mSg hx]; refine ⟨_, ?_, _, h3 _ ?_, rfl⟩
   · rw [ab, ac hd]; exact bG hd
   rw [ab, ac hk]; exact bG hk
noncomputable def tot (l : List Str) : Nat := (l.map (·.length)).sum
theorem pL (a b : List Str) : tot (a ++ b) = tot a + tot b := by unfold tot; rw [aM, List.sum_append]
theorem tot_le {l : List Str} {k : Nat} (h : ∀ x ∈ l, x.length ≤ k) : tot l ≤ k * l.length := by
 induction l with
 | nil => exact be _
 | cons x r ih =>
   have h1 := ih fun y hy => h y (.tail _ hy); have h2 := h x (.head _); unfold tot at h1 ⊢; rw [ag, bx, ay, Nat.mul_succ]; exact a150 h1 h2
theorem qY {l : List Str} {x : Str} (h : x ∈ l) : x.length ≤ tot l := by
 induction l with
 | nil => cases h
 | cons y r ih =>
   unfold tot at ih ⊢; rw [ag, bx]; rcases mCo h with rfl | h
   · exact aK _ _
   exact ad (ih h) (aq _ _)
theorem glue2_len (x y : Str) : (ru x y).length = x.length + y.length + 3 := by
 unfold ru; simp only [jz]; have h1 : (aa "(").length = 1 := by decide +kernel
 have h2 : (aa "?").length = 1 := by decide +kernel
 have h3 : (aa ")").length = 1 := by decide +kernel
 exact a149 h1 h2 h3
theorem split2 {α : Type} {l : List α} {k : Nat} (d : α) (h : k + 1 < l.length) : l = l.take k ++ [l.getD k d, l.getD (k + 1) d] ++ l.drop (k + 2) := by
 have e1 : l.getD k d = l[k] := by rw [ab, ac (a148 h)]; rfl
 have e2 : l.getD (k + 1) d = l[k + 1] := by rw [ab, ac h]; rfl
 rw [e1, e2, dn]; conv => lhs; rw [← dO k l, bp (a148 h), bp h]
 rfl
theorem mU {merging i : Nat} {leaves : List Str} (hi : i < 5) : j4 merging leaves (i + 1) = k6 (j4 merging leaves i) (5 - i) := by
 unfold j4; rw [bK, ct]; revert hi; generalize i = j; revert j; exact lt5 rfl rfl rfl rfl rfl
theorem mw {merging : Nat} {leaves : List Str} (h6 : leaves.length = 6) (ht : tot leaves ≤ 36) : ∀ i, i ≤ 5 → (j4 merging leaves i).2.length = 6 - i ∧ tot (j4 merging leaves i).2 ≤ 36 + 3 * i
 | 0, _ => ⟨h6, ht⟩
 | i + 1, hi => by
   obtain ⟨h1, h2⟩ := mw (merging := merging) h6 ht i (a147 hi); rw [mU (by exact hi)]; generalize hS : j4 merging leaves i = S at *
   obtain ⟨mg, ps⟩ := S; simp only at h1 h2; have hk : mg % (5 - i) < 5 - i := bR _ (a146 hi); have hsp := split2 (l := ps) (k := mg % (5 - i)) aj (a128 h1 hk); unfold k6; simp only; refine ⟨?_, ?_⟩
   · simp only [aw, bq, List.length_drop, ay, bU]; exact a145 h1 hk
   rw [pL, pL]; have e : tot ps = tot (ps.take (mg % (5 - i))) + tot [ps.getD (mg % (5 - i)) aj, ps.getD (mg % (5 - i) + 1) aj] + tot (ps.drop (mg % (5 - i) + 2)) := by
     conv => lhs; rw [hsp]
     rw [pL, pL]
   have g : tot [ru (ps.getD (mg % (5 - i)) aj) (ps.getD (mg % (5 - i) + 1) aj)] = tot [ps.getD (mg % (5 - i)) aj, ps.getD (mg % (5 - i) + 1) aj] + 3 := by
     unfold tot; simp only [ag, b6, bx, List.sum_nil, glue2_len]; exact a144
   exact a143 h2 e g
theorem pA {x : Str} (h : ∃ d ∈ dressL, ∃ p ∈ poolL, x = d ++ p) : x.length ≤ 6 := by
 obtain ⟨d, hd, p, hp, rfl⟩ := h; have : ∀ d ∈ dressL, ∀ p ∈ poolL, (d ++ p).length ≤ 6 := by decide +kernel
 exact this d hd p hp
section
variable {w : World}
inductive Down : Nat → List Value → Prop
 | nil : Down 0 []
 | cons {n : Nat} {vs : List Value} (t : Tok) (h : Down n vs) : Down (n + 1) (.int ((n + 1 : Nat) : Int) t :: vs)
theorem su {n i : Nat} {vs : List Value} {v : Value} (h : Down n vs) (e : vs[i]? = some v) : ∃ t, v = .int ((n - i : Nat) : Int) t := by
 induction h generalizing i with
 | nil => cases e
 | @cons n vs t h ih =>
   cases i with
   | zero => exact ⟨t, (cK e).symm⟩
   | succ i =>
     have := ih (i := i) e; rwa [Nat.add_sub_add_right]
theorem zip_short {signs pcs : List Str} (hsx : ∀ x ∈ signs, x.length ≤ 10) (hp : ∀ x ∈ pcs, x.length ≤ 60) : ∀ x ∈ cY (fun (a b : Str) => a ++ b) signs (pcs.drop 1), x.length ≤ 70 := by
 intro x hx; obtain ⟨j, hj, rfl⟩ := bn.mp hx; rw [List.getElem_zipWith, jz]; exact bc (hsx _ (bG _)) (hp _ (dX (bG _)))
theorem zip_len {signs pcs : List Str} (hsl : signs.length ≤ 1000) : (cY (fun (a b : Str) => a ++ b) signs (pcs.drop 1)).length ≤ 1000 := by
 rw [gC]; exact ad (cW ..) hsl
theorem all_getD {l : List Str} : (ae l.length).map (fun j => l.getD j aj) = l := by
 have := jI (l := l) (d := aj) (f := fun x => x) rfl; simpa using this
theorem parts_q (text : Str) : (de text (bj text (aa "?") 0 text.length (text.length + 1)) 1).length ≤ text.length + 1 := parts_len text 63
theorem qE {text : Str} (hl1 : text.length ≤ 60) : (∀ x ∈ cz text (aa "?"), x.length ≤ 60) ∧ 0 < (cz text (aa "?")).length ∧ (cz text (aa "?")).length ≤ 1000 := by
 have hq : aa "?" = ⟨#[63]⟩ := by decide +kernel
 have htl' : text.cps.toList.length = text.length := by simp [du]
 rw [hq, pb text 63 (by decide), al]; refine ⟨fun x hx => ?_, pf 63 text.cps.toList [], a110 hl1 (nu 63 text.cps.toList []) htl'⟩; obtain ⟨p, hp, rfl⟩ := mMa hx; have := nr 63 text.cps.toList [] p hp; show p.toArray.size ≤ 60
 simp only [dm, bU] at this ⊢; exact a111 hl1 htl' this
theorem c_formula (order merging dress : Nat) {sg : Addr} {signs : List Str} {A : au} {m : Mp} {s : Shared} {t1 t2 t3 : Tok} {Q E : VP} (hR : Rm A 1 4) (b : Bef w m s) (hk : Kn m (LS sg signs)) (hsl : signs.length ≤ 1000) (hsx : ∀ x ∈ signs, x.length ≤ 10)
   (h : ∀ T lv t m' s', Aft [] m s m' s' → Kn m' (LS lv (jO order dress 6).2.2.2) → Kn m' (At T (tJ [.ref lv, .str (lP ((j4 merging (jO order dress 6).2.2.2 5).2.getD 0 aj) signs) t])) → Q (.ref T) s') :
   wpAny (model PG w) A (call (.ref 283) [.int order t1, .int merging t2, .ref sg, .int dress t3]) Q E s := by
 refine nh (d := 0) (u := 1) (nw := []) (ns := ["order", "merging", "signs", "dress", "pool", "leaves", "size", "parts", "place", "pieces"])
   (ρ₀ := [⟨"order", none, some (.int order t1)⟩, ⟨"merging", none, some (.int merging t2)⟩, ⟨"signs", none, some (.ref sg)⟩, ⟨"dress", none, some (.int dress t3)⟩, ⟨"pool", none, none⟩, ⟨"leaves", none, none⟩, ⟨"size", none, none⟩, ⟨"parts", none, none⟩, ⟨"place", none, none⟩, ⟨"pieces", none, none⟩]) hR b .nil rfl rfl rfl rfl rfl rfl rfl rfl rfl rfl (by decide +kernel) (by rfl) (by decide +kernel) (by decide +kernel) rfl ?_
 intro A env L c s' hE hR' hc B hL; walk_at "opq"; walk_at "sts"; refine lu B.vars.kind (hE.kind (by rfl)) (hE.kind (by rfl)) rfl (by decide +kernel) rfl rfl rfl ?_; walk_at "sts"; walk_at "nL"; intro pl s B; walk_at "sts"; walk_at "nL"; intro lv s B; walk_at "sts"; walk_at "nt"; intro tp m1 s hm1 hk1 B; refine pK B hR'.handled (B.kn hk1).tup rfl ?_; clear B; intro s B; refine ak (fF ?_); walk_at "st"; refine ak (fF ?_); walk_at "st"; refine aL ?_; walk_at "sts"; walk_at "nt"; intro tq m2 s hm2 hk2 B; apply on B hR'.handled (B.ko hk2); intro I s B T; refine c9 (oP (σ := List Value × List Value) (x₀ := ([], _)) (fun x => [(lv, jB x.1), (pl, jB x.2)]) B T ["order", "dress", "size"] (fun i m' ρ x => ∃ ta td, (⟨"order", none, some (.int ((jO order dress i).1 : Nat) ta)⟩ : VE) ∈ ρ ∧ (⟨"dress", none, some (.int ((jO order dress i).2.1 : Nat) td)⟩ : VE) ∈ ρ ∧ cg x.1 (jO order dress i).2.2.2 ∧ cg x.2 (jO order dress i).2.2.1) ?_ ?_ ?_) (fun _ _ x => x)
 · exact ⟨t1, t3, by walk_at "mem", by walk_at "mem", .nil, .cons _ _ (.cons _ _ (.cons _ _ (.cons _ _ (.cons _ _ (.cons _ _ .nil)))))⟩
 · clear B T; rintro i v c1 γ1 m3 ρ s xx hi how ⟨ta, td, rm1, rm2, hlv, hpv⟩ hm3 hv B hback Qb hN hB hQ; have hi6 : i < 6 := hi; obtain ⟨tz, rfl⟩ := su (n := 6) (.cons _ (.cons _ (.cons _ (.cons _ (.cons _ (.cons _ .nil)))))) hv; refine x04 (lW order dress i (a142 hi6)) fun g1 g2 g3 g4 => ?_; have hrs := nM (order := order) (dress := dress) hi6; generalize hS : jO order dress i = S at *
   obtain ⟨o, d, pls, lvl⟩ := S; simp only at hlv hpv g1 g2 g3 g4 rm1 rm2; refine af ?_; walk_at "sts"; walk_at "nl"; intro x1 m4 s hm4 hk4 B; walk_at "sts"; rw [show (6 : Int) = ((6 : Nat) : Int) from rfl, p5]
   have hd6 : d % 6 < 6 := bR _ (by decide); have hdl : Kn m4 (LS x1 dressL) := fun hp ok => ⟨_, hk4 hp ok, .cons _ _ (.cons _ _ (.cons _ _ (.cons _ _ (.cons _ _ (.cons _ _ .nil)))))⟩; have hdg : dressL[((d % 6 : Nat) : Int).toNat]? = some (dressL.getD (d % 6) aj) := mz hd6; generalize hq : ((d % 6 : Nat) : Int) = q at hdg ⊢; refine lV (B.kn hdl) (a141 hq) (a140 hq) hdg fun td2 => ?_; walk_at "sts"; refine gm_pop (B.at (.tail _ (.head _))) ?_; walk_at "sts"; rw [p5]; have hk6 : o % (6 - i) < pls.length := by rw [g1]; exact bR _ (a139 hi6)
   obtain ⟨tp2, hpg⟩ := lS hpv hk6; have hpl := jE hpv; refine l_pop B (.tail .head) hpg (a138 g1 hpl) ?_; clear B; intro s B; have hdm : dressL.getD (d % 6) aj ∈ dressL := kM hd6; have hpm : pls.getD (o % (6 - i)) aj ∈ poolL := g3 _ (kM hk6); have hsz : (dressL.getD (d % 6) aj).length + (pls.getD (o % (6 - i)) aj).length ≤ 6 := by
     have := pA ⟨_, hdm, _, hpm, rfl⟩; rwa [jz] at this
   refine lN B (szl (a137 hsz)) ?_; clear B; intro t5 s B; walk_at "sts"; refine kL B .head (by rw [jE hlv]; exact szl (a136 hi6 g2)) ?_; clear B; intro s B; walk_at "sts"; refine lu B.vars.kind (hE.kind (by rfl)) (hE.kind (by rfl)) rfl (by decide +kernel) rfl rfl rfl ?_; walk_at "sts"; refine i_div B (a135 g1 hk6) (iT (by (first | lia | omega))) ?_; clear B; intro t6 s B
   walk_at "sts"; rw [p6 o (6 - i), show (d : Int).fdiv 6 = ((d / 6 : Nat) : Int) from p6 d 6]
   walk_at "nt"; intro x7 m7 s hm7 hk7 B; refine pK B hR'.handled (B.kn hk7).tup rfl ?_; clear B; intro s B; refine ak (fF ?_); walk_at "st"; refine ak (fF ?_); walk_at "st"; refine aL ?_; walk_at "sts"; walk_at "qs"; refine hN _ m7 _ _ (_, _) (by walk_at "ow") ⟨_, _, by rw [hrs]; walk_at "mem", by rw [hrs]; walk_at "mem", by rw [hrs]; exact kK hlv (.cons _ _ .nil), by rw [hrs]; exact sI _ hpv⟩ (hm4.trans hm7) B
 clear B T; rintro γ1 m3 ρ s xx how ⟨ta, td, rm1, rm2, hlv, hpv⟩ hm3 B; obtain ⟨lvs, pvs⟩ := xx; replace hlv : cg lvs (jO order dress 6).2.2.2 := hlv; refine x04 (lW order dress 6 (a134)) fun g1 g2 g3 g4 => ?_; have htl : tot (jO order dress 6).2.2.2 ≤ 36 := by
   have := tot_le fun x hx => pA (g4 x hx); rw [g2] at this; exact this
 generalize hLs : (jO order dress 6).2.2.2 = ls at *
 refine x13 B.freeze fun m4 hm4 hk4 B => ?_; walk_at "sts"; walk_at "nt"; intro tq2 m5 s hm5 hk5 B; apply on B hR'.handled (B.ko hk5); intro I2 s B T; refine c9 (lK B T ["merging", "parts", "place", "size"] (fun i m' ρ => ∃ (pa : Addr) (tm : Tok), (⟨"merging", none, some (.int ((j4 merging ls i).1 : Nat) tm)⟩ : VE) ∈ ρ ∧ (⟨"parts", none, some (.ref pa)⟩ : VE) ∈ ρ ∧ Kn m' (LS pa (j4 merging ls i).2)) ?_ ?_ ?_) (fun _ _ x => x)
 · exact ⟨lv, t2, by walk_at "mem", by walk_at "mem", fun hp ok => ⟨lvs, (hk4.up hm5) hp ok, hlv⟩⟩
 · clear B T; rintro i v c1 γ2 m6 ρ s hi how ⟨pa, tm, rm3, rm4, hpa⟩ hm6 hv B hback Qb hN hB hQ; have hi5 : i < 5 := hi; obtain ⟨tz, rfl⟩ := su (n := 5) (.cons _ (.cons _ (.cons _ (.cons _ (.cons _ .nil))))) hv; obtain ⟨q1, q2⟩ := mw (merging := merging) g2 htl i (a133 hi5); have hrs := mU (merging := merging) (leaves := ls) hi5; generalize hS : j4 merging ls i = S at *
   obtain ⟨mg, ps⟩ := S; simp only at hpa q1 q2 rm3; refine af ?_; walk_at "st"; walk_at "st"; refine lu B.vars.kind (hE.kind (by rfl)) (hE.kind (by rfl)) rfl (by decide +kernel) rfl rfl rfl ?_; walk_at "sts"; refine i_div B (a132 hi5) (iT (by (first | lia | omega))) ?_; clear B; intro t7 s B
   walk_at "sts"; rw [p5, p6]; walk_at "nt"; intro x7 m7 s hm7 hk7 B; refine pK B hR'.handled (B.kn hk7).tup rfl ?_; clear B; intro s B; refine ak (fF ?_); walk_at "st"; refine ak (fF ?_); walk_at "st"; refine aL ?_; have hk : mg % (5 - i) < 5 - i := bR _ (a131 hi5); have hstep : k6 (mg, ps) (5 - i) = (mg / (5 - i), ps.take (mg % (5 - i)) ++ [ru (ps.getD (mg % (5 - i)) aj) (ps.getD (mg % (5 - i) + 1) aj)] ++ ps.drop (mg % (5 - i) + 2)) := rfl; rw [hstep] at hrs; generalize hK : mg % (5 - i) = k at *
   refine x12 (B.koS (hpa.up hm7)) fun pv hpo hps => ?_; have hpl := jE hps; have hpz : pv.length ≤ aS := by rw [hpl, q1]; exact szl (a130)
   walk_at "sts"; refine kC B (B.ato hpo) .none (.int _ _) ?_ hpz; clear B; intro y1 m8 s hm8 hk8 B; rw [fx] at hk8; walk_at "sts"; obtain ⟨ti1, hi1⟩ := lS hps (show k < ps.length by exact a129 q1 hk)
   obtain ⟨ti2, hi2⟩ := lS hps (show k + 1 < ps.length by exact a128 q1 hk)
   have hl1 : (ps.getD k aj).length ≤ 60 := a127 hi5 q2 (qY (kM (a129 q1 hk))); have hl2 : (ps.getD (k + 1) aj).length ≤ 60 := a127 hi5 q2 (qY (kM (a128 q1 hk))); have c1' : (aa "(").length = 1 := by decide +kernel
   have c2' : (aa "?").length = 1 := by decide +kernel
   have c3' : (aa ")").length = 1 := by decide +kernel
   refine j0 (B.ato (jQ hm8 hpo)) (a12) (a126 hk) hi1 ?_; refine lN B (szl (a125 hl1 c1')) ?_; clear B; intro t8 s B; walk_at "sts"; refine lN B (by rw [aD, jz]; exact a124 hl1 c1' c2') ?_; clear B; intro t9 s B; walk_at "sts"; rw [show ((k : Nat) : Int) + 1 = ((k + 1 : Nat) : Int) from by exact a62]
   refine j0 (B.ato (jQ hm8 hpo)) (a123) (a122 hk) hi2 ?_; refine lN B (by rw [aD, jz, jz]; exact a121 hl1 hl2 c1' c2') ?_; clear B; intro t10 s B; walk_at "sts"; refine lN B (by rw [aD, jz, jz, jz]; exact a120 hl1 hl2 c1' c2' c3') ?_; clear B; intro t11 s B; walk_at "sts"; walk_at "nl"; intro y2 m9 s hm9 hk9 B; refine my B (B.kn (hk8.up hm9)) (B.kn hk9) (by rw [aD]; simp; exact a119 hk) ?_; clear B; intro y3 m10 s hm10 hk10 B; walk_at "sts"; rw [show ((k : Nat) : Int) + 2 = ((k + 2 : Nat) : Int) from by exact a118]
   refine kC B (B.ato (jQ ((hm8.trans hm9).trans hm10) hpo)) (.int _ _) .none ?_ hpz; clear B; intro y4 m11 s hm11 hk11 B; rw [fy] at hk11; refine my B (B.kn (hk10.up hm11)) (B.kn hk11) (by rw [aD]; simp; exact a117 q1 hpl) ?_; clear B; intro y5 m12 s hm12 hk12 B; walk_at "sts"; have hmm : m6.le m12 := ((((hm7.trans hm8).trans hm9).trans hm10).trans hm11).trans hm12; walk_at "qs"; refine hN _ m12 _ _ (by walk_at "ow") ⟨y5, _, by rw [hrs]; walk_at "mem", by walk_at "mem", ?_⟩ hmm B; rw [hrs]; refine fun hp ok => ⟨_, hk12 hp ok, ?_⟩; simp only [gA]; walk_at "qs"; exact kK (kK (qw k hps) (.cons _ _ .nil)) (qx (k + 2) hps)
 clear B T; rintro γ2 m6 ρ s how ⟨pa, tm, rm3, rm4, hpa⟩ hm6 B; replace hpa : Kn m6 (LS pa (j4 merging ls 5).2) := hpa; obtain ⟨q1, q2⟩ := mw (merging := merging) g2 htl 5 (a116); generalize hS : (j4 merging ls 5).2 = ps at *
 refine x12 (B.koS hpa) fun pv hpo hps => ?_; have hpl := jE hps; obtain ⟨ti1, hi1⟩ := lS hps (show 0 < ps.length by exact a115 q1)
 have hl1 : (ps.getD 0 aj).length ≤ 60 := a114 q2 (qY (kM (a115 q1))); generalize ps.getD 0 aj = text at *
 walk_at "sts"; refine j0 (B.ato hpo) (by decide) (by decide) hi1 ?_; walk_at "sts"; have hpl2 := parts_q text; refine pQ B (by decide +kernel) (szl (a113 hl1)) ?_ ?_
 · rw [show (aa "?").length = 1 from by decide +kernel]; exact szl (a112 hl1 hpl2)
 clear B; intro pc m7 s hm7 hk7 B; refine x12 (B.koS hk7) fun us huo hus => ?_; have hul := jE hus; have hfin := h; unfold lP at hfin; have hpieces := (qE hl1).1; have hps0 := (qE hl1).2; generalize cz text (aa "?") = pcs at *
 have huz : us.length ≤ aS := szl (a109 hul hps0); obtain ⟨tu0, hu0⟩ := lS hus (show 0 < pcs.length by exact hps0.1)
 walk_at "sts"; refine j0 (B.ato huo) (by decide) (by decide) hu0 ?_; walk_at "sts"; refine x12 (B.koS (hk.up ((((hm1.trans hm2).trans hm3).trans hm4).trans ((hm5.trans hm6).trans hm7)))) fun gs hgo hgs => ?_; have hgl := jE hgs; refine jH B [] (by walk_at "cs") rfl rfl rfl ?_; walk_at "sts"; refine kC B (B.ato huo) (.int _ _) .none ?_ huz; clear B; intro y1 m8 s hm8 hk8 B; rw [show (1 : Int) = ((1 : Nat) : Int) from rfl, fy] at hk8
 walk_at "sts"; have hdp := qx 1 hus; apply src_zip B hR'.handled (jQ hm8 hgo) (B.ko hk8); intro I3 s B T; refine ln B T [] ["sign", "piece"] (fun j v _ => ∃ t, v = .str ((cY (· ++ ·) signs (pcs.drop 1)).getD j aj) t) ⟨rfl, rfl, rfl, by walk_at "cs", rfl, rfl⟩ ?_ ?_ ?_
 · rw [aD]; have := cW gs.length (us.drop 1).toArray.toList.length; exact a108 hsl hgl
 · intro j v c2 cenv L3 γ3 m9 own ρ nw3 s hj hE hm9 hv hC hM B Qx hK; obtain ⟨T, x, y, rfl, hx, hy, hT⟩ := hv; obtain ⟨sx, tx, hsx1, rfl⟩ := j3 hgs hx; obtain ⟨py, ty, hpy1, rfl⟩ := j3 hdp (by simpa using hy); refine kE B hR'.handled hT rfl rfl ?_; clear B; intro s B; refine ak (af ?_); walk_at "st"; refine ak (af ?_); walk_at "st"; refine aL ?_; walk_at "sts"; have hz1 := hsx _ (av hsx1); have hz2 := hpieces _ (dX (av hpy1)); refine lN B (szl (a107 hz1 hz2)) ?_; clear B; intro t12 s B; walk_at "qs"; exact hK.go (by walk_at "tn") B .rfl (fun _ _ => ⟨t12, by rw [ab, jj, hsx1, hpy1]; rfl⟩)
 intro γ3 m9 xs z1 s hm9 hk9 hxs B; have hst := B.strs hxs; have hlen2 : min gs.length (us.drop 1).toArray.toList.length = (cY (fun (a b : Str) => a ++ b) signs (pcs.drop 1)).length := by
   rw [gC, hgl, ← jE hdp]
 rw [hlen2] at hst; rw [all_getD] at hst; have hzl := zip_short hsx hpieces; have htz := tot_le hzl; have hzn := zip_len (pcs := pcs) hsl; walk_at "sts"; refine mP B (B.kn hk9) hst ?_ ?_
 · have : (aa "").length = 0 := by decide +kernel
   rw [this, Nat.mul_zero, fS]; walk_at "qs"; exact ad htz (a104 hzn)
 clear B; intro t13 s B; walk_at "sts"; have hj := lX (cY (fun (a b : Str) => a ++ b) signs (pcs.drop 1)); have hp0 : (pcs.getD 0 aj).length ≤ 60 := hpieces _ (kM hps0.1); unfold tot at htz; refine lN B (by rw [hj]; exact szl (a103 htz hzn hp0)) ?_; clear B; intro t14 s B; walk_at "sts"; walk_at "nt"; intro z2 m10 s hm10 hk10 B; have hmm : m4.le m10 := ((((hm5.trans hm6).trans hm7).trans hm8).trans hm9).trans hm10; walk_at "qs"; exact hfin z2 lv t14 m10 s (B.done hc .nil jC) (fun hp ok => ⟨lvs, (hk4.up hmm) hp ok, hlv⟩) hk10
end
end
section
theorem rp_attrs : PlainAttrs "re.Pattern" :=
 ⟨⟨"object.__getattribute__", by rw [i7, gD]; kernel_rfl, by decide +kernel⟩, by rw [i7, gD]; kernel_rfl⟩
theorem rp_slot : Slot "re.Pattern" "search" "re.Pattern.search" :=
 .of (owner := "re.Pattern") (n := "search") (by rw [i7, gD]; kernel_rfl) (by decide +kernel) (by decide +kernel) (by decide +kernel)
   (by first | exact .inl (by decide +kernel) | exact .inr (by decide +kernel)) (by rw [gO]; kernel_rfl)
theorem rp_type : typeOf (.builtin "re.Pattern.search") = pure (.type "method_descriptor") := by show builtinType _ = _; rw [builtinType_eq_fast]; kernel_rfl
theorem rp_entry : entryFor table "re.Pattern.search" = some aO.«re.Pattern.search» := entryFor_of_tree (by kernel_rfl)
theorem rp_args (a b : Value) : argsOk "re.Pattern.search" ⟨[a, b], []⟩ := by unfold argsOk; kernel_rfl
noncomputable def jN (w : World) (nm : Bool) (x : Str) : Prop := ∀ S t, peek (KK w) S (aO.«re.Pattern.search» ⟨[.ref (if nm then 114 else 119), .str x t], []⟩) = some (.done (.ret .none))
theorem so_word (w : World) : ∀ k, k < 32 → jN w true (jD k)
 | 0, _ => fun S t => by kernel_rfl
 | 1, _ => fun S t => by kernel_rfl
 | 2, _ => fun S t => by kernel_rfl
 | 3, _ => fun S t => by kernel_rfl
 | 4, _ => fun S t => by kernel_rfl
 | 5, _ => fun S t => by kernel_rfl
 | 6, _ => fun S t => by kernel_rfl
 | 7, _ => fun S t => by kernel_rfl
 | 8, _ => fun S t => by kernel_rfl
 | 9, _ => fun S t => by kernel_rfl
 | 10, _ => fun S t => by kernel_rfl
 | 11, _ => fun S t => by kernel_rfl
 | 12, _ => fun S t => by kernel_rfl
 | 13, _ => fun S t => by kernel_rfl
 | 14, _ => fun S t => by kernel_rfl
 | 15, _ => fun S t => by kernel_rfl
 | 16, _ => fun S t => by kernel_rfl
 | 17, _ => fun S t => by kernel_rfl
 | 18, _ => fun S t => by kernel_rfl
 | 19, _ => fun S t => by kernel_rfl
 | 20, _ => fun S t => by kernel_rfl
 | 21, _ => fun S t => by kernel_rfl
 | 22, _ => fun S t => by kernel_rfl
 | 23, _ => fun S t => by kernel_rfl
 | 24, _ => fun S t => by kernel_rfl
 | 25, _ => fun S t => by kernel_rfl
 | 26, _ => fun S t => by kernel_rfl
 | 27, _ => fun S t => by kernel_rfl
 | 28, _ => fun S t => by kernel_rfl
 | 29, _ => fun S t => by kernel_rfl
 | 30, _ => fun S t => by kernel_rfl
 | 31, _ => fun S t => by kernel_rfl
 | k + 32, h => absurd h (a157)
theorem so_lower (w : World) : ∀ k, k < 32 → jN w true (aQ (aI (jD k)))
 | 0, _ => fun S t => by kernel_rfl
 | 1, _ => fun S t => by kernel_rfl
 | 2, _ => fun S t => by kernel_rfl
 | 3, _ => fun S t => by kernel_rfl
 | 4, _ => fun S t => by kernel_rfl
 | 5, _ => fun S t => by kernel_rfl
 | 6, _ => fun S t => by kernel_rfl
 | 7, _ => fun S t => by kernel_rfl
 | 8, _ => fun S t => by kernel_rfl
 | 9, _ => fun S t => by kernel_rfl
 | 10, _ => fun S t => by kernel_rfl
 | 11, _ => fun S t => by kernel_rfl
 | 12, _ => fun S t => by kernel_rfl
 | 13, _ => fun S t => by kernel_rfl
 | 14, _ => fun S t => by kernel_rfl
 | 15, _ => fun S t => by kernel_rfl
 | 16, _ => fun S t => by kernel_rfl
 | 17, _ => fun S t => by kernel_rfl
 | 18, _ => fun S t => by kernel_rfl
 | 19, _ => fun S t => by kernel_rfl
 | 20, _ => fun S t => by kernel_rfl
 | 21, _ => fun S t => by kernel_rfl
 | 22, _ => fun S t => by kernel_rfl
 | 23, _ => fun S t => by kernel_rfl
 | 24, _ => fun S t => by kernel_rfl
 | 25, _ => fun S t => by kernel_rfl
 | 26, _ => fun S t => by kernel_rfl
 | 27, _ => fun S t => by kernel_rfl
 | 28, _ => fun S t => by kernel_rfl
 | 29, _ => fun S t => by kernel_rfl
 | 30, _ => fun S t => by kernel_rfl
 | 31, _ => fun S t => by kernel_rfl
 | k + 32, h => absurd h (a157)
theorem so_pool (w : World) : ∀ x ∈ poolL, jN w true x := by
 intro x hx; rcases mCo hx with rfl | hx
 · exact fun S t => by kernel_rfl
 rcases mCo hx with rfl | hx
 · exact fun S t => by kernel_rfl
 rcases mCo hx with rfl | hx
 · exact fun S t => by kernel_rfl
 rcases mCo hx with rfl | hx
 · exact fun S t => by kernel_rfl
 rcases mCo hx with rfl | hx
 · exact fun S t => by kernel_rfl
 rcases mCo hx with rfl | hx
 · exact fun S t => by kernel_rfl
 cases hx
section
variable {w : World} {c : Cx} {γ γ' : Array aE} {m m' : Mp} {env cenv : Env} {own : List Addr} {ρ ρ' : List VE} {nw nw' : Led} {s s' : Shared} {A : au} {E : VP}
theorem rp_is (nm : Bool) {h : Heap} (G : Grd w h) : ∃ o, h.get? (if nm then 114 else 119) = some o ∧ o.cls = .type "re.Pattern" ∧ o.dict = none := by
 cases nm with
 | true => exact ⟨_, G.k 114 _ (by rfl), rfl, rfl⟩
 | false => exact ⟨_, G.k 119 _ (by rfl), rfl, rfl⟩
theorem qN (nm : Bool) {pl : Sem Bool} {Q : Value × List Value → Shared → Prop} (G : Grd w s.heap) (h : Q (.builtin "re.Pattern.search", [.ref (if nm then 114 else 119)]) s) : wpAny (model PG w) A (gb (.ref (if nm then 114 else 119)) (aa "search") pl) Q E s := by
 refine x13 (rp_is nm G) fun o ho hc hd => ?_; exact fN ⟨o, ho, hc⟩ rp_attrs rp_slot rp_type (fun a e => by cases e; exact ⟨_, ho, hd⟩) h
theorem qD (nm : Bool) {x : Str} {t : Tok} {Q : VP} (G : Grd w s.heap) (hx : jN w nm x) (h : Q .none s) : wpAny (model PG w) A (call (.builtin "re.Pattern.search") [.ref (if nm then 114 else 119), .str x t]) Q E s := by
 refine x13 (rp_is nm G) fun o ho hc hd => ?_; refine fZ rp_slot ⟨o, ho, hc⟩ rp_entry ?_ (rp_args _ _); exact (Looks.of_peek (M := model PG w) G.k (hx _ t)).here ⟨_, rfl, h⟩
end
section
variable {w : World}
theorem type_str {A : au} {E : VP} {s : Shared} {x : Str} {t : Tok} {Q : VP} (hq : Q (.type "str") s) : wpAny (model PG w) A (call (.type "type") [.str x t]) Q E s :=
 call_type_of (je _ _ _) (by decide) hq
theorem is_types {M : Model} {A : au} {E : VP} {s : Shared} {X Y : String} {Q : VP} (h : Q (.bool (gE X == gE Y)) s) : wpAny M A (fE .Is (.type X) (.type Y)) Q E s := aP (a := Value.bool (gE X == gE Y)) h
theorem ni {x : Str} (nm : Bool) (hx : jN w nm x) {self : Value} {A : au} {m : Mp} {s : Shared} {t : Tok} {Q E : VP} (hR : Rm A 1 4) (b : Bef w m s)
   (h : ∀ t m' s', Aft [] m s m' s' → Q (.str x t) s') :
   wpAny (model PG w) A (call (.ref 149) [self, .str x t] [(aa "name", .bool nm)]) Q E s := by
 refine nh (d := 0) (u := 1) (nw := []) (ns := ["self", "value", "name", "regex"]) (ρ₀ := [⟨"self", none, some self⟩, ⟨"value", none, some (.str x t)⟩, ⟨"name", none, some (.bool nm)⟩, ⟨"regex", none, none⟩]) hR b .nil rfl rfl rfl rfl rfl rfl rfl rfl rfl rfl (by decide +kernel) (by rfl) (by decide +kernel) (by decide +kernel) rfl ?_; intro A env L c s' hE hR' hc B hL; walk_at "opq"; walk_at "sts"; refine type_str ?_; walk_at "sts"; refine is_types ?_; walk_at "sts"; refine lb rfl ?_; walk_at "sts"; cases nm with
 | true =>
   refine lb rfl ?_; walk_at "sts"; refine qN true (B.kn B.gr) ?_; walk_at "sts"; refine qD true (B.kn B.gr) hx ?_; walk_at "sts"; refine truthy_none ?_; refine j6 rfl ?_; walk_at "sts"; walk_at "qs"; exact h t m s (B.done hc .nil jC)
 | false =>
   refine j6 rfl ?_; walk_at "sts"; refine qN false (B.kn B.gr) ?_; walk_at "sts"; refine qD false (B.kn B.gr) hx ?_; walk_at "sts"; refine truthy_none ?_; refine j6 rfl ?_; walk_at "sts"; walk_at "qs"; exact h t m s (B.done hc .nil jC)
end
end
section
theorem join_one (v : Str) : dC (aa "; ") [v] = v := rfl
section
variable {w : World}
theorem c_add {x lst : Addr} {nm vl : Str} (hnm : jN w true nm) (hvl : jN w false vl) (hvz : vl.length ≤ 1000) {hs : List Value} (hhs : hs.length ≤ 1000) {A : au} {m : Mp} {s : Shared} {t1 t2 : Tok} {Q E : VP} (hR : Rm A 3 10) (b : Bef w m s)
   (hx : HdK w m x lst) (hl : At lst (jB hs) s.heap) (hlm : m lst = none)
   (h : ∀ T t t' m' s', Aft [lst] m s m' s' → At lst (jB (hs ++ [.ref T])) s'.heap → Kn m' (At T (tJ [.str nm t, .str vl t'])) → Q .none s') :
   wpAny (model PG w) A (call (.ref 245) [.ref x, .str nm t1, .str vl t2]) Q E s := by
 refine eZ ?_; have G := b.gr _ b.ok; have k1 : ∀ a o, s.heap.get? a = some o → (s.heap.push aV).get? a = some o := jA _; have hdx : (s.heap.push aV).get? s.heap.objs.size = some aV := aG _ rfl; have fresh : s.heap.get? s.heap.objs.size = none := by
   cases e : s.heap.get? s.heap.objs.size with
   | none => rfl
   | some o => exact absurd (aJ e) (bB _)
 have hsys : (s.heap.objs.size == fG) = false := by
   obtain ⟨mp, ⟨o, es, ep, ho, _⟩, _⟩ := G.g; have h1 := aJ ho; have h2 : bS = 3 := rfl; have h3 : fG = 1 := rfl; refine beq_eq_false_iff_ne.mpr fun e => ?_; rw [h2] at h1; rw [e, h3] at h1; walk_at "qs"; exact absurd h1 (by decide)
 generalize hdxe : s.heap.objs.size = dx at *
 have hmd : m dx = none := by
   cases e : m dx with
   | none => rfl
   | some o => have := b.ok _ _ e; rw [fresh] at this; cases this
 generalize hh1 : s.heap.push aV = h1 at *
 have b1 : Bef w (m.put dx aV) ⟨h1, s.gens, s.drawn, s.toks, s.os⟩ := by
   walk_at "qs"; refine ⟨fun a o e => ?_, b.gr.up (Mp.le_put hmd), b.bare⟩; unfold Mp.put at e; by_cases q : a = dx
   · rw [if_pos q] at e; cases e; rw [q]; exact hdx
   rw [if_neg q] at e; exact k1 a o (b.ok a o e)
 have hne : lst ≠ dx := fun q => by
   refine x12 hl fun o ho _ => ?_; rw [q, fresh] at ho; cases ho
 have l1 : LedOk (m.put dx aV) ⟨h1, s.gens, s.drawn, s.toks, s.os⟩ [(lst, jB hs)] := ⟨fun p hp => by rcases mSg hp with rfl; obtain ⟨o, ho, hP⟩ := hl; exact ⟨o, k1 _ _ ho, hP⟩, fun p hp => by rcases mSg hp with rfl; show Mp.put _ _ _ lst = none; rw [Mp.put_ne hne]; exact hlm, by simp⟩
 refine enterX (d := 2) (u := 7) (s := ⟨h1, s.gens, s.drawn, s.toks, s.os⟩) (nw := [(lst, jB hs)]) (binds := [(aa "self", .ref x), (aa "_name", .str nm t1), (aa "_value", .str vl t2), (aa "_params", .ref dx)])
   (ns := ["self", "_name", "_value", "_params", "parts", "k", "v"]) (ρ₀ := [⟨"self", none, some (.ref x)⟩, ⟨"_name", none, some (.str nm t1)⟩, ⟨"_value", none, some (.str vl t2)⟩, ⟨"_params", none, some (.ref dx)⟩, ⟨"parts", none, none⟩, ⟨"k", none, none⟩, ⟨"v", none, none⟩])
   (hR.less (a162) (a161)) G b1 l1 rfl rfl rfl (fun M A E Q q => ?_) rfl rfl rfl rfl rfl rfl (by decide +kernel) (by rfl) (by decide +kernel) (by decide +kernel) rfl ?_
 · show wpAny M A (alloc aV >>= fun d => pure [(aa "self", d0 x), (aa "_name", .str nm t1), (aa "_value", .str vl t2), (aa "_params", .ref d)]) _ _ _
   refine ai (iZ (aP ?_)); rw [hdxe, hh1]; walk_at "qs"; exact q
 intro A' env L c s' hA hfm hE hR' hc B hL; clear hA; generalize hγ : s.gens = γ0 at B; have hdk : (m.put dx aV) dx = some aV := Mp.put_self; have hx1 : HdK w (m.put dx aV) x lst := hx.up (Mp.le_put hmd); generalize hm1 : m.put dx aV = m1 at *
 walk_at "sts"; walk_at "nL"; intro ps s B; walk_at "sts"; refine lb rfl ?_; walk_at "sts"; refine hH ?_; walk_at "sts"; refine lH (f := 149) B hx1 (by rfl) (by rfl) (fun _ _ => by rfl) ?_; refine lM (by rfl) (B.kn B.gr).k ?_; walk_at "sts"; walk_at "qs"; refine ⟨(B.kn B.gr).k, ?_⟩; refine ni false hvl (hR'.less (a160) (a159)) B.bef ?_; intro t3 m2 s2 f2; replace B := B.aft f2; walk_at "sts"; refine kL B .head (by rw [aD]; decide) ?_; clear B; intro s B; walk_at "sts"; refine gm_items (B.ok _ _ (f2.le _ _ hdk)) ?_; walk_at "sts"; refine d_items B (f2.le _ _ hdk) hsys ?_; clear B; intro vw s B hvw; refine te B hR'.handled (f2.le _ _ hdk) hvw fun γ3 s B => ?_; walk_at "sts"; refine fI ?_; walk_at "sts"; refine rY B (hx1.up f2.le) ?_; clear B; intro s B; walk_at "sts"; refine hH ?_; walk_at "sts"; refine lH (f := 149) B (hx1.up f2.le) (by rfl) (by rfl) (fun _ _ => by rfl) ?_; refine lM (by rfl) (B.kn B.gr).k ?_; walk_at "sts"; walk_at "qs"; refine ⟨(B.kn B.gr).k, ?_⟩; refine ni true hnm (hR'.less (a160) (a159)) B.bef ?_; intro t4 m3 s3 f3; replace B := B.aft f3; walk_at "sts"; refine mP (ys := [vl]) B (B.at (.head _)) (.cons _ _ .nil) ?_ ?_
 · show ([vl].map (·.length)).sum + 1 * (aa "; ").length ≤ 16777216
   have : (aa "; ").length = 2 := by decide +kernel
   rw [this]; simp only [ag, b6, bx, List.sum_nil]; exact a158 hvz
 clear B; intro t5 s B; rw [join_one]; walk_at "sts"; walk_at "nt"; intro T m4 s hm4 hk4 B; walk_at "sts"; refine kL B (.tail .head) (szl (a97 hhs)) ?_; clear B; intro s B; walk_at "sts"; have f := B.done hc l1 (by simp); walk_at "qs"; refine h T _ _ m4 s ⟨(by rw [← hm1]; exact Mp.le_put hmd : m.le m1).trans f.le, f.ok, fun a o e hX => f.keep a o (k1 a o e) hX, fun a o e => (f.low a o (k1 a o e)).trans ?_, f.os, f.gens, f.bare⟩ (B.at (.tail _ (.head _))) hk4; rw [← hm1]; walk_at "qs"; exact Mp.put_ne fun q => by rw [q, fresh] at e; cases e
end
end
section
noncomputable def HdL (m : Mp) (lst : Addr) (es : List (Str × Str)) : Prop := ∃ hs, (∃ o, m lst = some o ∧ jB hs o) ∧ All2 (fun v p => ∃ T t t', v = .ref T ∧ ∃ o, m T = some o ∧ tJ [.str p.1 t, .str p.2 t'] o) hs es
theorem HdL.up {m m' : Mp} {lst : Addr} {es : List (Str × Str)} (l : m.le m') (h : HdL m lst es) : HdL m' lst es := by obtain ⟨hs, h1, h2⟩ := h; exact ⟨hs, jQ l h1, h2.imp fun _ _ z1 => by obtain ⟨T, t, t', e, k⟩ := z1; exact ⟨T, t, t', e, jQ l k⟩⟩
noncomputable def allOf (es : List (Str × Str)) (nm : Str) : List Str := ((ae es.length).filter fun i => aQ (es.getD i (aj, aj)).1 == aQ nm).map fun i => (es.getD i (aj, aj)).2
noncomputable def nk (x : Str) : Prop := bw (aQ x).length = false
section
variable {w : World}
theorem c_getall {x lst : Addr} {nm : Str} {es : List (Str × Str)} (hso : jN w true (aQ nm)) (hlo : nk nm) (hle : ∀ p ∈ es, nk p.1) (hel : es.length ≤ 1000) {A : au} {m : Mp} {s : Shared} {t : Tok} {Q E : VP} (hR : Rm A 3 10) (b : Bef w m s)
   (hx : HdK w m x lst) (hl : HdL m lst es) (h : ∀ r m' s', Aft [] m s m' s' → Kn m' (LS r (allOf es nm)) → Q (.ref r) s') :
   wpAny (model PG w) A (call (.ref 187) [.ref x, .str nm t]) Q E s := by
 refine oR (d := 2) (u := 7) (nw := []) (ns := ["self"]) (cn := ["name"])
   (ρ₀ := fun L => [⟨"self", none, some (.ref x)⟩, ⟨"name", some (L + 1), some (.str nm t)⟩]) (own₀ := fun L => [L, L + 1]) hR b .nil rfl rfl rfl rfl rfl rfl rfl rfl rfl rfl (by rfl) (by decide +kernel) (by decide +kernel) (by decide +kernel) (fun L => rfl) (fun L => rfl) (fun L => rfl) ?_
 intro A env L c s' hE hR' hc B hL; walk_at "opq"; walk_at "sts"; refine hH ?_; walk_at "sts"; refine lH (f := 149) B hx (by rfl) (by rfl) (fun _ _ => by rfl) ?_; refine lM (by rfl) (B.kn B.gr).k ?_; walk_at "sts"; refine SC.lower hlo ?_; replace B := B.tk s'.drawn (s'.toks + 1); walk_at "sts"; walk_at "qs"; refine ⟨(B.kn B.gr).k, ?_⟩; refine ni true hso (hR'.less (a160) (a159)) B.bef ?_; intro t3 m2 s2 f2; replace B := B.aft f2; walk_at "sts"; refine jH B [⟨"name", some (L + 1), some (.str (aQ nm) t3)⟩] (by walk_at "cs") rfl rfl rfl ?_; refine fI ?_; walk_at "sts"; refine rY B (hx.up f2.le) ?_; clear B; intro s B; refine x12 (hl.up f2.le) fun hs hko hes => ?_; have hel2 := hes.length; apply jJ B hR'.handled hko; intro I s B T; refine mZ B T [⟨"name", some (L + 1), some (.str (aQ nm) t3)⟩] ["kv"] (fun i => aQ (es.getD i (aj, aj)).1 == aQ nm) (fun i v _ => ∃ t, v = .str (es.getD i (aj, aj)).2 t) ⟨rfl, rfl, rfl, by walk_at "cs", rfl, rfl⟩ (szl (a164 hel hel2)) ?_ ?_
 · intro i v c1 cenv L2 γ1 m1 own ρ nw1 s hi hE hm1 hv hC hM B Qt hK; obtain ⟨p, hp, T, ta, tb, rfl, hT⟩ := hes.get hv; have hpd : es.getD i (aj, aj) = p := by rw [ab, hp]; rfl
   refine af ?_; walk_at "st"; walk_at "sts"; refine t_item (B.ato (jQ hm1 hT)).tup (by decide) (by decide) rfl ?_; walk_at "sts"; refine SC.lower (hle p (av hp)) ?_; replace B := B.tk s.drawn (s.toks + 1); walk_at "sts"; refine hK.go (by simp only [hpd]) (by walk_at "tn") B .rfl fun hb Qx hK => ?_; walk_at "sts"; refine t_item (B.ato (jQ hm1 hT)).tup (by decide) (by decide) rfl ?_; exact hK.go (by walk_at "tn") B .rfl (fun _ _ => ⟨_, by rw [hpd]⟩)
 intro γ1 m1 xs r1 s hm1 hk1 hz B; have hst := B.strs hz; walk_at "sts"; rw [hel2] at hst; walk_at "qs"; exact h r1 _ _ (B.done hc .nil jC) fun hp ok => ⟨xs, hk1 hp ok, hst⟩
theorem c_keys {x lst : Addr} {es : List (Str × Str)} (hel : es.length ≤ 1000) {A : au} {m : Mp} {s : Shared} {Q E : VP} (hR : Rm A 1 4) (b : Bef w m s)
   (hx : HdK w m x lst) (hl : HdL m lst es) (h : ∀ r m' s', Aft [] m s m' s' → Kn m' (LS r (es.map (·.1))) → Q (.ref r) s') :
   wpAny (model PG w) A (call (.ref 200) [.ref x]) Q E s := by
 refine nh (d := 0) (u := 1) (nw := []) (ns := ["self"]) (ρ₀ := [⟨"self", none, some (.ref x)⟩]) hR b .nil rfl rfl rfl rfl rfl rfl rfl rfl rfl rfl (by decide +kernel) (by rfl) (by decide +kernel) (by decide +kernel) rfl ?_; intro A env L c s' hE hR' hc B hL; walk_at "opq"; walk_at "sts"; refine jH B [] (by walk_at "cs") rfl rfl rfl ?_; refine fI ?_; walk_at "sts"; refine rY B hx ?_; clear B; intro s B; refine x12 hl fun hs hko hes => ?_; have hel2 := hes.length; apply jJ B hR'.handled hko; intro I s B T; refine ln B T [] ["k", "v"] (fun i v _ => ∃ t, v = .str (es.getD i (aj, aj)).1 t) ⟨rfl, rfl, rfl, by walk_at "cs", rfl, rfl⟩ (szl (a164 hel hel2)) ?_ ?_
 · intro i v c1 cenv L2 γ1 m1 own ρ nw1 s hi hE hm1 hv hC hM B Qx hK; obtain ⟨p, hp, T, ta, tb, rfl, hT⟩ := hes.get hv; have hpd : es.getD i (aj, aj) = p := by rw [ab, hp]; rfl
   refine kE B hR'.handled (B.ato (jQ hm1 hT)).tup rfl rfl ?_; clear B; intro s B; refine ak (af ?_); walk_at "st"; refine ak (af ?_); walk_at "st"; refine aL ?_; walk_at "sts"; exact hK.go (by walk_at "tn") B .rfl (fun _ _ => ⟨_, by rw [hpd]⟩)
 intro γ1 m1 xs r1 s hm1 hk1 hz B; have hst := B.strs hz; walk_at "sts"; rw [hel2, jI (f := fun (p : Str × Str) => p.1) rfl] at hst; walk_at "qs"; exact h r1 _ _ (B.done hc .nil jC) fun hp ok => ⟨xs, hk1 hp ok, hst⟩
noncomputable def nb (es : List (Str × Str)) (nm d : Str) : Str := match es.find? (fun p => aQ p.1 == aQ nm) with | some p => p.2 | none => d
theorem c_get {x lst : Addr} {nm d : Str} {es : List (Str × Str)} (hso : jN w true (aQ nm)) (hlo : nk nm) (hle : ∀ p ∈ es, nk p.1) (hel : es.length ≤ 1000) {A : au} {m : Mp} {s : Shared} {t td : Tok} {R : fz → Shared → Prop} (hR : Rm A 3 10) (b : Bef w m s)
   (hx : HdK w m x lst) (hl : HdL m lst es) (h : ∀ t m' s', Aft [] m s m' s' → R (.ok (.ret (.str (nb es nm d) t))) s') :
   cf (model PG w) A (.call (.ref 195) ⟨[.ref x, .str nm t], [(aa "default", .str d td)]⟩) R s := by
 refine enterX (d := 2) (u := 7) (s := s) (nw := []) (binds := [(aa "self", .ref x), (aa "name", .str nm t), (aa "default", .str d td)])
   (ns := ["self", "name", "default", "k", "v"]) (ρ₀ := [⟨"self", none, some (.ref x)⟩, ⟨"name", none, some (.str nm t)⟩, ⟨"default", none, some (.str d td)⟩, ⟨"k", none, none⟩, ⟨"v", none, none⟩])
   hR (b.gr _ b.ok) b .nil rfl rfl rfl (fun M A E Q q => kp_binds (K := KK w) (b.gr _ b.ok).k (fun S => by rfl) M A E Q q) rfl rfl rfl rfl rfl rfl (by decide +kernel) (by rfl) (by decide +kernel) (by decide +kernel) rfl ?_
 intro A env L c s' hA hfm hE hR' hc B hL; clear hA; walk_at "opq"; walk_at "sts"; refine hH ?_; walk_at "sts"; refine lH (f := 149) B hx (by rfl) (by rfl) (fun _ _ => by rfl) ?_; refine lM (by rfl) (B.kn B.gr).k ?_; walk_at "sts"; refine SC.lower hlo ?_; replace B := B.tk s'.drawn (s'.toks + 1); walk_at "sts"; walk_at "qs"; refine ⟨(B.kn B.gr).k, ?_⟩; refine ni true hso (hR'.less (a160) (a159)) B.bef ?_; intro t3 m2 s2 f2; replace B := B.aft f2; walk_at "sts"; refine fI ?_; walk_at "sts"; refine rY B (hx.up f2.le) ?_; clear B; intro s B; refine x12 (hl.up f2.le) fun hs hko hes => ?_; have hel2 := hes.length; apply jJ B hR'.handled hko; intro I s B T; refine c9 (lK B T ["k", "v"] (fun i m' ρ => ∀ j p, j < i → es[j]? = some p → (aQ p.1 == aQ nm) = false) (fun j p hj => absurd hj (fU _)) ?_ ?_) (fun _ _ x => x)
 · clear B T; intro i v c1 γ1 m3 ρ s hi how hno hm3 hv B hback Qb hN hB hQ; obtain ⟨p, hp, T, ta, tb, rfl, hT⟩ := hes.get hv; refine kE B hR'.handled (B.ato (jQ hm3 hT)).tup rfl rfl ?_; clear B; intro s B; refine ak (af ?_); walk_at "st"; refine ak (af ?_); walk_at "st"; refine aL ?_; walk_at "sts"; refine SC.lower (hle p (av hp)) ?_; replace B := B.tk s.drawn (s.toks + 1); walk_at "sts"; refine ky (fun hb => ?_) (fun hb => ?_)
   · walk_at "sts"; have e : nb es nm d = p.2 := by
       unfold nb; have : es.find? (fun p => aQ p.1 == aQ nm) = some p := by
         rw [List.find?_eq_some_iff_getElem]; have hi' := (aC.mp hp).1; walk_at "qs"; refine ⟨hb, i, hi', (aC.mp hp).2, fun j hj => ?_⟩; have := hno j es[j] hj (ac (a163 hel2 hi hj)); rw [this]; rfl
       rw [this]
     have := h tb _ _ ((hback.go B).done hc .nil jC); rw [e] at this; walk_at "qs"; refine hQ _ _ ?_; walk_at "qs"; exact this
   walk_at "sts"; walk_at "qs"; refine hN _ m3 _ _ (by walk_at "ow") (fun j q hj hq => ?_) .rfl B; rcases ja.mp hj with hj | rfl
   · walk_at "qs"; exact hno j q hj hq
   rw [hp] at hq; cases hq; exact hb
 clear B T; intro γ1 m3 ρ s how hno hm3 B; walk_at "sts"; have e : nb es nm d = d := by
   unfold nb; have : es.find? (fun p => aQ p.1 == aQ nm) = none := by
     rw [jv]; intro p hp; obtain ⟨j, hj, e⟩ := bn.mp hp; have := hno j p (a10 hel2 hj) (by rw [ac hj, e]); rw [this]; decide
   rw [this]
 have := h td _ _ (B.done hc .nil jC); rw [e] at this; walk_at "qs"; exact this
end
end
section
local macro_rules | `(tactic| walk_at "lk") => `(tactic| first
 | with_reducible refine Looks.at (by assumption) ?_
 | with_reducible refine ai ?_ | with_reducible refine nd_bind ?_ | with_reducible refine dg ?_ | with_reducible refine g7 ?_
 | (refine nd_load (by assumption) ?_; try dsimp only) | (refine nd_pure ?_; try dsimp only) | k_node)
section
variable {w : World} {A : au} {E : VP}
theorem merge_one {h : Heap} {g dr t os} {d a : Addr} {hsh : Int} {key : Str} {tk : Tok} {v : Value} {n : Nat} {Q : Unit → Shared → Prop}
   (hd : h.get? d = some aV) (ha : h.get? a = some (dictOf [⟨hsh, .str key tk, v⟩] n)) (hs : (a == fG) = false)
   (hq : ∀ h', (∀ b o, b ≠ d → h.get? b = some o → h'.get? b = some o) → h'.get? d = some (dictOf [⟨hsh, .str key tk, v⟩] 1) → Q () ⟨h', g, dr, t, os⟩) :
   wpAny (model PG w) A (mergeMapping d (.ref a) true) Q E ⟨h, g, dr, t, os⟩ := by
 have hne : a ≠ d := fun e => by rw [e, hd] at ha; cases ha
 unfold mergeMapping; unfold isInstance; repeat walk_at "lk"
 rw [if_neg (by rw [hs]; exact ax)]; repeat walk_at "lk"
 rw [if_pos (show (#[].all fun (e : dL) => isExactStrKey e.key) = true from by simp)]
 repeat walk_at "lk"
 simp only [jk]; repeat walk_at "lk"
 rw [if_pos (show (#[].all fun (e : dL) => isExactStrKey e.key) = true from by simp)]
 repeat walk_at "lk"
 simp only [jk]; repeat walk_at "lk"
 show wpAny _ _ (updatePart d none (fc fun x => x.push ⟨hsh, .str key tk, v⟩)) _ _ _
 refine iM (s := ⟨h, g, dr, t, os⟩) hd ?_; have D' : (h.update d (fc fun x => x.push ⟨hsh, .str key tk, v⟩)).get? d = some (dictOf [⟨hsh, .str key tk, v⟩] 1) := by
   rw [dP _ hd (by rfl)]; rfl
 have K' : ∀ b o, b ≠ d → h.get? b = some o → (h.update d (fc fun x => x.push ⟨hsh, .str key tk, v⟩)).get? b = some o := fun b o hb e => (dh h d _).extBut b o hb e; have ha' := K' a _ hne ha; show wpAny _ _ _ _ _ ⟨h.update d (fc fun x => x.push ⟨hsh, .str key tk, v⟩), g, dr, t, os⟩
 generalize h.update d (fc fun x => x.push ⟨hsh, .str key tk, v⟩) = h' at *
 refine wpAny_lookBehind (o := dictOf [⟨hsh, .str key tk, v⟩] 1) D' (pastItsLine_dict (by rw [aD]; show 1 ≤ _; decide)) ?_
 repeat walk_at "lk"
 rw [if_neg (by simp)]; repeat walk_at "lk"
 exact hq h' K' D'
theorem rG {pos : Pos} {q f a : Addr} {self : Value} {env : Env} {e e2 : Expr} {s : Shared} {hsh : Int} {key : Str} {tk : Tok} {v : Value} {n : Nat} {Q : VP} (hf : fnIn (KK w) f = true) (hs : (a == fG) = false)
   (h : wpAny (model PG w) A (eval e env) (fun v0 s₁ => wpAny (model PG w) A (eval e2 env) (fun mv s₂ => mv = .ref a ∧ s₂.heap.get? s₁.heap.objs.size = some aV ∧ s₂.heap.get? a = some (dictOf [⟨hsh, .str key tk, v⟩] n) ∧
     ∀ h', (∀ b o, b ≠ s₁.heap.objs.size → s₂.heap.get? b = some o → h'.get? b = some o) → MethP (KK w) q f self h' ∧ wpAny (model PG w) A (call (.ref q) [v0] [(key, v)]) Q E ⟨h', s₂.gens, s₂.drawn, s₂.toks, s₂.os⟩) E ⟨s₁.heap.push aV, s₁.gens, s₁.drawn, s₁.toks, s₁.os⟩) E s) :
   wpAny (model PG w) A (ec pos (.ref q) [] (cV pos [(false, eval e env)]) (iA pos [(none, eval e2 env)])) Q E s := by
 generalize eval e2 env = x2 at *
 replace h := Calls.spliced_cons (rest := []) (Q := fun vs s₁ => wpAny (model PG w) A x2 (fun mv s₂ => mv = .ref a ∧ s₂.heap.get? s₁.heap.objs.size = some aV ∧ s₂.heap.get? a = some (dictOf [⟨hsh, .str key tk, v⟩] n) ∧
     ∀ h' : Heap, (∀ b o, b ≠ s₁.heap.objs.size → s₂.heap.get? b = some o → h'.get? b = some o) → MethP (KK w) q f self h' ∧ wpAny (model PG w) A (call (.ref q) vs [(key, v)]) Q E ⟨h', s₂.gens, s₂.drawn, s₂.toks, s₂.os⟩) E ⟨s₁.heap.push aV, s₁.gens, s₁.drawn, s₁.toks, s₁.os⟩) (am h (fun v0 s₁ h₁ => Calls.spliced_nil h₁) fun _ _ x => x)
 unfold ec; refine ai (dg ?_); unfold evalArgs; show wpAny _ _ (eu (cV pos [(false, eval e env)]) >>= _) _ _ _
 refine ai (am h (fun vs s₁ h₁ => ?_) fun _ _ x => x); refine dg ?_; rw [if_neg (show ¬ ((iA pos [(none, x2)]).all fun x => x.1.isSome) = true from by show ¬ (false = true); decide)]
 refine ai ?_; unfold mergedKeywords; refine ai (iZ ?_); refine ai (dg ?_); dsimp only
 refine ai ?_; show wpAny _ _ (forIn [((none : Option Str), (do let v ← x2; fM pos; pure v))] _ _) _ _ _
 rw [eW]; obtain ⟨hh, g, dr, tt, os⟩ := s₁; dsimp only at h₁ ⊢
 repeat walk_at "lk"
 refine am h₁ (fun mv s₂ h₂ => ?_) fun _ _ x => x; obtain ⟨rfl, hd, ha, hk⟩ := h₂; refine ai (bP (aP ?_)); refine ai (g7 (dg (wpAny_tryCatch (g7 ?_)))); obtain ⟨h2, g2, dr2, tt2, os2⟩ := s₂; refine merge_one hd ha hs fun h3 K3 D3 => ?_; have hc := hk h3 K3; clear hk K3 ha hd h₁; dsimp only at hc ⊢
 repeat walk_at "lk"
 show wpAny _ _ (fM pos) _ _ _
 refine bP ?_; show wpAny _ _ (keeperOf (.ref q) >>= _) _ _ _
 obtain ⟨hM, hc⟩ := hc; refine x12 (keeps_M (M := model PG w) hf h3 hM) fun k hk' L => ?_; refine ai (L.at ?_)
 have tail : ∀ {t : Sem Value}, wpAny (model PG w) A t Q E ⟨h3, g2, dr2, tt2, os2⟩ → wpAny (model PG w) A (t >>= fun r => holding [r] point >>= fun _ => pure r) Q E ⟨h3, g2, dr2, tt2, os2⟩ :=
   fun ht => ai (am ht (fun r s₂ hr => ai (dg (wpAny_point (aP hr)))) fun _ _ x => x)
 rw [show (((cV pos [(false, eval e env)]).any fun x => x.fst) || (iA pos [(none, x2)]).any fun x => x.fst.isNone) = true from rfl]
 rcases hk' with rfl | rfl | rfl
 · refine tail ?_; unfold callMarked; exact Calls.wpAny_keep hc
 · exact tail (wpAny_operateT hc)
 exact tail (wpAny_operateT hc)
theorem Call_KW {x : Str} {p pos : Pos} {args : List Expr} {kws : List Keyword} {env : Env} {s : Shared} {Q : VP}
   (h : wpAny (model PG w) A (eval (.Name x p) env) (fun f s₁ => wpAny (model PG w) A (ec pos f [] (cV pos (bo args env)) (iA pos (keywordEach kws env))) Q E s₁) E s) :
   wpAny (model PG w) A (eval (.Call (.Name x p) args kws pos) env) Q E s := ai h
end
end
section
section
variable {w : World} {c : Cx} {γ γ' : Array aE} {m m' : Mp} {env cenv : Env} {own : List Addr} {ρ ρ' : List VE} {nw nw' : Led} {s s' : Shared} {A : au} {E : VP}
theorem o_bound {x lst : Addr} {expr : Bool} {Q : VP} (B : Bd w c γ m env own ρ nw s) (hx : HdK w m x lst)
   (h : ∀ q m' s', m.le m' → m' q = some (methodObj (.ref 195) (.ref x)) → Bd w c γ m' env own ρ nw s' → Q (.ref q) s') : wpAny (model PG w) A (getAttr (.ref x) (aa "get") expr) Q E s := by
 refine x31 (hx.inst B.ok) fun dx tk n I => ?_; have X := (B.kn B.gr).k; refine get_bind X I (by rfl) (g := .builtin "function.__get__") (a := .ref 195) (by rfl) (by rfl) ?_; refine eZ (fn_get (s := { s with toks := s.toks + 1 }) X (by rfl) (handed_on rfl ?_))
 exact h _ _ _ (B.freshLe _) Mp.put_self (B.pushK rfl)
theorem tF {x lst q : Addr} {nm d : Str} {es : List (Str × Str)} (hso : jN w true (aQ nm)) (hlo : nk nm) (hle : ∀ p ∈ es, nk p.1) (hel : es.length ≤ 1000) {A : au} {m : Mp} {s : Shared} {t td : Tok} {Q E : VP} (hR : Rm A 4 13) (b : Bef w m s)
   (hx : HdK w m x lst) (hl : HdL m lst es) (hq : m q = some (methodObj (.ref 195) (.ref x))) (h : ∀ t T m' s', Aft [] m s m' s' → Kn m' (At T (tJ [.str (nb es nm d) t, .str (nb es nm d) t])) → Q (.ref T) s') :
   wpAny (model PG w) A (call (.ref 97) [.str nm t, .ref q] [(aa "default", .str d td)]) Q E s := by
 refine eZ ?_; have G := b.gr _ b.ok; have k1 : ∀ a o, s.heap.get? a = some o → (s.heap.push aV).get? a = some o := jA _; have hdx0 : (s.heap.push aV).get? s.heap.objs.size = some aV := aG _ rfl; have fresh : s.heap.get? s.heap.objs.size = none := by
   cases e : s.heap.get? s.heap.objs.size with
   | none => rfl
   | some o => exact absurd (aJ e) (bB _)
 have hsys : (s.heap.objs.size == fG) = false := by
   obtain ⟨mp, ⟨o, es, ep, ho, _⟩, _⟩ := G.g; have h1 := aJ ho; have h2 : bS = 3 := rfl; have h3 : fG = 1 := rfl; refine beq_eq_false_iff_ne.mpr fun e => ?_; rw [h2] at h1; rw [e, h3] at h1; walk_at "qs"; exact absurd h1 (by decide)
 generalize hdxe : s.heap.objs.size = dx at *
 have hmd : m dx = none := by
   cases e : m dx with
   | none => rfl
   | some o => have := b.ok _ _ e; rw [fresh] at this; cases this
 generalize hob : dictOf [⟨ej w.params (aa "default"), .str (aa "default") s.toks, .str d td⟩] 1 = ob; generalize hh1 : (s.heap.push aV).update dx (Obj.putName (aa "default") (ej w.params (aa "default")) (.str (aa "default") s.toks) (.str d td)) = h1; have hdx : h1.get? dx = some ob := by
   rw [← hh1, dP _ hdx0 (by rfl), ← hob]; rfl
 have k2 : ∀ a o, s.heap.get? a = some o → h1.get? a = some o := fun a o e => by
   rw [← hh1]; have hne : a ≠ dx := fun q => by rw [q, fresh] at e; cases e
   walk_at "qs"; exact (dh _ dx _).extBut a o hne (k1 a o e)
 have b1 : Bef w (m.put dx ob) ⟨h1, s.gens, s.drawn, s.toks + 1, s.os⟩ := by
   walk_at "qs"; refine ⟨fun a o e => ?_, b.gr.up (Mp.le_put hmd), b.bare⟩; unfold Mp.put at e; by_cases q : a = dx
   · rw [if_pos q] at e; cases e; rw [q]; exact hdx
   rw [if_neg q] at e; exact k2 a o (b.ok a o e)
 refine enterY (d := 3) (u := 10) (s := ⟨h1, s.gens, s.drawn, s.toks + 1, s.os⟩) (nw := []) (binds := [(aa "name_index", .str nm t), (aa "get_name", .ref q), (aa "extrainfo", .ref dx)])
   (ns := ["name_index", "get_name", "extrainfo", "argval"]) (ρ₀ := [⟨"name_index", none, some (.str nm t)⟩, ⟨"get_name", none, some (.ref q)⟩, ⟨"extrainfo", none, some (.ref dx)⟩, ⟨"argval", none, none⟩])
   hR G b1 .nil rfl rfl rfl (fun A E Q qq => ?_) rfl rfl rfl rfl rfl rfl (by decide +kernel) (by rfl) (by decide +kernel) (by decide +kernel) rfl ?_
 · show wpAny (model PG w) A (alloc aV >>= fun D => forIn [(aa "default", dZ d td)] PUnit.unit (fun x _ => nsSet D x.1 x.2 >>= fun _ => pure (d7 PUnit.unit)) >>= fun _ => pure [(aa "name_index", dZ nm t), (aa "get_name", .ref q), (aa "extrainfo", .ref D)]) _ _ _
   refine ai (iZ ?_); rw [hdxe]; rw [eW]; unfold nsSet; refine ai (ai (ai (ai (ai (iO (aP (ai (wpAny_mkText (ai (jd hdx0 ?_)))))))))); dsimp only
   rw [show aRefKeyMayBeTheName (aa "default") #[] = false from by rw [aRefKeyMayBeTheName_at]; simp]
   refine iM hdx0 (aP (aP (aP ?_))); have := qq; rw [← hh1] at this; walk_at "qs"; exact this
 intro A' env L c s' hA hfm hE hR' hc B hL; clear hA; generalize hγ : s.gens = γ0 at B; have hdk : (m.put dx ob) dx = some ob := Mp.put_self; have hle1 := Mp.le_put (o := ob) hmd; have hx1 : HdK w (m.put dx ob) x lst := hx.up hle1; have hl1 : HdL (m.put dx ob) lst es := hl.up hle1; have hq1 := hle1 _ _ hq; generalize hm1 : m.put dx ob = m1 at *
 obtain ⟨tk0, htk0⟩ : ∃ x, x = s.toks := ⟨_, rfl⟩; rw [← htk0] at hob; walk_at "sts"; refine lb rfl ?_; walk_at "sts"; refine Call_KW ?_; walk_at "sts"; refine rG (f := 195) (self := .ref x) (key := aa "default") (v := .str d td) (n := 1) (hsh := ej w.params (aa "default")) (tk := tk0) (by rfl) hsys ?_; walk_at "st"; have hfr := B.fresh; have hself : (s.heap.push aV).get? s.heap.objs.size = some aV := aG _ rfl; replace B := B.grow (d := s.drawn) (t := s.toks) (jA aV); walk_at "sts"; walk_at "qs"; refine ⟨rfl, hself, ?_, fun h' K' => ?_⟩
 · rw [hob]; exact B.ok _ _ hdk
 replace B := B.lose (d := s.drawn) (tk := s.toks) (h' := h') (fun b o hb e => K' b o hb e) hfr.1 hfr.2.2 hfr.2.1; walk_at "qs"; refine ⟨⟨B.ok _ _ hq1, (B.kn B.gr).k⟩, ?_⟩; refine eZ (method_call (B.ok _ _ hq1) ?_); refine c_get hso hlo hle hel (hR'.less (a171) (a170)) B.bef hx1 hl1 ?_; intro t2 m2 s2 f2; replace B := B.aft f2; walk_at "sts"; walk_at "nt"; intro T m3 s3 hm3 hT B; walk_at "sts"; subst hγ; have f := B.done hc .nil jC; walk_at "qs"; refine h _ T m3 s3 ⟨hle1.trans f.le, f.ok, fun a o e hX => f.keep a o (k2 a o e) hX, fun a o e => (f.low a o (k2 a o e)).trans ?_, f.os, f.gens, f.bare⟩ hT; rw [← hm1]; walk_at "qs"; exact Mp.put_ne fun q => by rw [q, fresh] at e; cases e
end
end
section
noncomputable def stBody : Stmt → List Stmt
 | .FunctionDef _ _ b _ _ _ _ _ _ _ => b
 | _ => []
noncomputable def stScope : Stmt → Scope
 | .FunctionDef _ _ _ _ _ _ sc _ _ _ => sc
 | _ => PySem.Challenge.pw_kl0125_01.main.scope
noncomputable def lastSt : List Stmt → Stmt
 | [] => .Pass ⟨0, 0, 0, 0⟩
 | [a] => a
 | _ :: b :: r => lastSt (b :: r)
noncomputable def lawDef : Stmt := lastSt PySem.Challenge.pw_kl0125_01.main.body
noncomputable def lawBody : List Stmt := stBody lawDef
noncomputable def lawScope : Scope := stScope lawDef
structure LawE (A : au) (env : Env) (L : Addr) : Prop where
 kinds : EnvOf env lawScope L (cr (L + 1) lawScope.names [])
 room : Rm A 60 300
 frames : A.frames = some [env]
 frame : env.frame = some L
noncomputable def jx (i : Nat) : Nat := [7, 11, 13, 14, 19, 21, 22, 25, 26, 28, 3, 30].getD i 0
noncomputable def j7 (f : Nat) : List Str := (ae 5).map fun k => jD (f + k)
section
variable {w : World} {c : Cx} {γ γ' : Array aE} {m m' : Mp} {env cenv : Env} {own : List Addr} {ρ ρ' : List VE} {nw nw' : Led} {s s' : Shared} {A : au} {E : VP}
variable {elt t1 i1 t2 i2 : Expr} {ifs : List Expr} {scope : Scope} {pos : Pos} {I : Addr} {n : Nat} {V : VH}
theorem lc2_go_to {Q : VP} {y : Str} {py : Pos} (B : Bd w c γ m env own ρ nw s) (T : Src w A t1 c m own nw I n V s) (ce : List VE) (ns : List Str) (Z : Nat → List Value → Mp → Prop) (Zup : ∀ i xs m m', m.le m' → Z i xs m → Z i xs m')
   (ok : CompOk scope ns ce ρ)
   (hs : ∀ cenv x, bA i2 cenv x = pure x) (z0 : Z 0 [] m) (hput : Hn y none ρ)
   (turn : ∀ i v c1 cenv L acc γ m1 xs s, i < n → EnvOf cenv (cb scope env) L (ka (fun n => env.cells.lookup n) scope.names []) → m.le m1 → V i v s.heap → Z i xs m1 →
     Bd w c1 γ m1 cenv [L] (ns.map (fun n => ⟨n, none, none⟩) ++ ce) ((acc, jB xs) :: nw) s →
     wpAny (model PG w) A (bM t1 cenv v) (fun _ s₂ => wpAny (model PG w) A (eval i2 cenv) (fun x s₃ => wpAny (model PG w) A (cC x) (fun it s₄ =>
       kJ w A (.ListComp elt [⟨t1, i1, [], 0⟩, ⟨t2, i2, ifs, 0⟩] scope pos) acc cenv (fun s₅ => ∃ γ' m' ρ' ys, m1.le m' ∧ Z (i + 1) (xs ++ ys) m' ∧ me ρ' = me (ns.map (fun n => ⟨n, none, none⟩) ++ ce) ∧ Bd w c1 γ' m' cenv [L] ρ' ((acc, jB (xs ++ ys)) :: nw) s₅) it s₄) NoE s₃) NoE s₂) NoE s)
   (fin : ∀ γ' m' xs a ρ' s', m.le m' → Kn m' (At a (jB xs)) → Z n xs m' → PutV y none (.ref a) ρ ρ' → Bd w c γ' m' env own ρ' nw s' → Q .none s') :
   Lc2Go w A env elt t1 i1 t2 i2 ifs scope pos (some (bM (.Name y py) env)) E Q (.ref I) s := by
 refine r9 (R := fun acc C => gf (model PG w) A E (some (bM (.Name y py) env)) Q acc C) B T ce ns Z ok hs z0 turn fun γ' m' xs L acc s' hm hz B' => ?_; show wpAny _ A (bM (.Name y py) env (.ref acc)) _ _ _
 refine af (r_storeO B' hput nocel fun ρ' s'' hV B2 => ?_); obtain ⟨mp, hn⟩ := NsO.ns (B2.at (.head _)); refine ⟨mp, hn, fun h' hs => ?_⟩; have B3 := B2.lose1 (h' := h') (d := s''.drawn) (tk := s''.toks) (jT hs); refine x13 B3.freeze fun m2 h1 h2 h3 => ?_; exact fin γ' m2 xs acc ρ' _ (hm.trans h1) h2 (Zup _ _ _ _ h1 hz) hV h3
end
end
section
section
variable {w : World} {s : Shared} {A : au} {E : VP}
theorem sE {n : Nat} : ((ae n).all fun _ => true) = true := by simp
theorem ri {l b : Addr} {xs ys : List Value} {Q : VP} (hu : A.units < cLine) (hl : At l (jB xs) s.heap) (hb : At b (jB ys) s.heap) (hz : xs.length = ys.length)
   (he : ∀ (A : au) (j : Nat) (x y : Value), xs[j]? = some x → ys[j]? = some y → iC A s x y true) (h : Q (.bool false) s) : wpAny (model PG w) A (fE .NotEq (.ref l) (.ref b)) Q E s := by
 have := SeqAt.RcNeAt.lists (e := fun _ => true) hl.list hb.list (by simpa using hz) hu (fun j h1 h2 => he A.in1 j _ _ (by simp at h1; rw [ac h1]; rfl) (by simp at h2; rw [ac h2]; rfl)) PG w E Q; rw [sE] at this; exact this h
theorem eq_same {l b : Addr} {xs ys : List Value} {Q : VP} (hu : A.units < cLine) (hl : At l (jB xs) s.heap) (hb : At b (jB ys) s.heap) (hz : xs.length = ys.length)
   (he : ∀ (A : au) (j : Nat) (x y : Value), xs[j]? = some x → ys[j]? = some y → iC A s x y true) (h : Q (.bool true) s) : wpAny (model PG w) A (fE .Eq (.ref l) (.ref b)) Q E s := by
 refine SeqAt.eq_listAt (e := fun _ => true) hl.list hb.list (by simpa using hz) hu (fun j h1 h2 => he A.in1 j _ _ (by simp at h1; rw [ac h1]; rfl) (by simp at h2; rw [ac h2]; rfl)) ?_; rw [sE]; exact h
theorem ne_ints {l b : Addr} {ns : List Int} {Q : VP} (hu : A.units < cLine) (hl : LI l ns s.heap) (hb : LI b ns s.heap) (h : Q (.bool false) s) : wpAny (model PG w) A (fE .NotEq (.ref l) (.ref b)) Q E s := by
 refine x12 hl fun xs h1 h2 => ?_; refine x12 hb fun ys h3 h4 => ?_; refine ri hu h1 h3 (by rw [jM h2, jM h4]) (fun A j x y hx hy => ?_) h; obtain ⟨n, t, e1, rfl⟩ := kD h2 hx; obtain ⟨n', t', e2, rfl⟩ := kD h4 hy; rw [e1] at e2; cases e2
 have := iC.int_int (A := A) (s := s) n t n t'; rwa [beq_self_eq_true] at this
theorem pZ {l b : Addr} {ns : List Str} {Q : VP} (hu : A.units < cLine) (hl : LS l ns s.heap) (hb : LS b ns s.heap) (h : Q (.bool false) s) : wpAny (model PG w) A (fE .NotEq (.ref l) (.ref b)) Q E s := by
 refine x12 hl fun xs h1 h2 => ?_; refine x12 hb fun ys h3 h4 => ?_; refine ri hu h1 h3 (by rw [jE h2, jE h4]) (fun A j x y hx hy => ?_) h; obtain ⟨n, t, e1, rfl⟩ := j3 h2 hx; obtain ⟨n', t', e2, rfl⟩ := j3 h4 hy; rw [e1] at e2; cases e2
 have := iC.str_str (A := A) (s := s) n t n t'; rwa [beq_self_eq_true] at this
end
end
section
section
variable {w : World} {c : Cx} {γ γ' : Array aE} {m m' : Mp} {env cenv : Env} {own : List Addr} {ρ ρ' : List VE} {nw nw' : Led} {s s' : Shared} {A : au} {E : VP}
theorem gm_index {l : Addr} {vs : List Value} {pl : Sem Bool} {Q : Value × List Value → Shared → Prop} (hl : At l (jB vs) s.heap) (h : Q (.builtin "list.index", [.ref l]) s) : wpAny (model PG w) A (gb (.ref l) (aa "index") pl) Q E s := by
 obtain ⟨n, ho⟩ := hl.plain; exact fN hl.list.typeIs PySem.F.plainAttrs_list PySem.F.slot_list_index PySem.F.type_list_index (fun a e => by cases e; exact ⟨_, ho, rfl⟩) h
theorem se (k : Str) {vs : List Value} {ys : List Str} (h : cg vs ys) (j : Nat) (h1 : j < vs.length) {y : Str} (hy : ys[j]? = some y) : isStrOf k vs[j] = (y == k) := by
 obtain ⟨t, ht⟩ := mM h hy; rw [ac h1] at ht; rw [cK ht]; rfl
theorem l_indexS {l : Addr} {ys : List Str} {k : Str} {j : Nat} {t : Tok} {Q : VP} (B : Bd w c γ m env own ρ nw s) (hl : LS l ys s.heap) (hz : ys.length ≤ 1000) (hj : ys[j]? = some k) (hno : ∀ i, i < j → ∀ y, ys[i]? = some y → (y == k) = false)
   (h : ∀ t s', Bd w c γ m env own ρ nw s' → Q (.int j t) s') : wpAny (model PG w) A (call (.builtin "list.index") [.ref l, .str k t]) Q E s := by
 refine x12 hl fun vs h1 h2 => ?_; obtain ⟨n, ho⟩ := h1.plain; have hlen := jE h2; have hjl := (aC.mp hj).1
 refine ie PySem.F.slot_list_index ⟨_, ho, rfl⟩ PySem.F.entry_list_index (PySem.F.args_list_index_2 _ _)
   (PySem.MeetsSeq.list_index l vs.toArray n (.str k t) (isStrOf k) (fun y hy => eq_isStrOf k t h2 y (by simpa using hy)) j (by simp; exact a10 hlen hjl) (a23 hz hjl) ?_ ?_) ⟨ho, h _ _ (B.tk _ _)⟩
 · show isStrOf k vs[j] = true
   rw [se k h2 j (a10 hlen hjl) hj]; simp
 intro i hi hlt; show isStrOf k vs[i] = false
 have hil : i < ys.length := a22 hjl hlt
 rw [se k h2 i (by (first | lia | omega)) (ac hil)]
 exact hno i hlt _ (ac hil)
end
theorem swapsNone {env : Env} {x y : Str} {px py p p' : Pos} {k k' : Nat} {v1 v2 : Expr} (hk : env.scope.kind = .function) (hx : env.kindOf x = some .cell) (hy : env.kindOf y = some .cell)
   (hst : ([v1, v2].any fun | .Starred .. => true | _ => false) = false) :
   g9 [.Tuple [.Name x px, .Name y py] k p] (.Tuple [v1, v2] k' p') env = pure none := by
 unfold g9; have e1 : (env.blockKind != i8) = false := by rw [blk hk]; rfl
 dsimp only
 refine (if_neg ?_).trans ((if_neg ?_).trans ?_)
 · rw [e1]; exact ax
 · exact fun h => ia (h.symm.trans hst)
 have e2 : (gk (fun
   | b8 id pos => if env.kindOf id == some .local && pos.line == (([b8 x px, b8 y py].head?.map (·.pos.line)).getD 0) then some id else none
   | _ => none) [b8 x px, b8 y py]) = [] := by
   simp only [b7, jw, hx, hy]; have h1 : ∀ b, ((some dF == some br.local) && b) = false := fun b => rfl; rw [h1, h1]; rfl
 generalize hN : gk _ [b8 x px, b8 y py] = N; have hN' : N = [] := hN.symm.trans e2; subst hN'; exact if_pos rfl
end
section
section
variable {w : World} {A : au} {E : VP} {c : Cx} {γ γ' : Array aE} {m m' : Mp} {env cenv : Env} {own : List Addr} {ρ ρ' : List VE} {nw nw' : Led} {s s' : Shared} {wr : List Addr} {gw : Nat → Prop}
section
variable {elt target iter : Expr} {ifs : List Expr} {scope : Scope} {pos : Pos} {I : Addr} {n : Nat} {V : VH}
theorem lc_goT {t0 : Nat} {Q : VP} (B : Bd w c γ m env own ρ nw s) (T : Src w A target c m own nw I n V s) (ht : t0 ≤ s.toks) (ce : List VE) (ns : List Str) (p : Nat → Bool) (W : VH)
   (ok : CompOk scope ns ce ρ) (hz : n ≤ aS)
   (turn : ∀ i v c1 cenv L γ m1 nw1 s, i < n → t0 ≤ s.toks → EnvOf cenv (cb scope env) L (ka (fun n => env.cells.lookup n) scope.names []) → m.le m1 → V i v s.heap → (∀ q ∈ nw, q ∈ nw1) →
     Bd w c1 γ m1 cenv [L] (ns.map (fun n => ⟨n, none, none⟩) ++ ce) nw1 s →
     wpAny (model PG w) A (bM target cenv v) (fun _ s₂ => wpAny (model PG w) A (kz ifs cenv) (fun ok s₃ =>
         ok = p i ∧ if ok = true then wpAny (model PG w) A (eval elt cenv) (fun x s₄ => kF w c1 cenv [L] (ns.map (fun n => ⟨n, none, none⟩) ++ ce) nw1 m1 (W i x) s₄) NoE s₃
         else kF w c1 cenv [L] (ns.map (fun n => ⟨n, none, none⟩) ++ ce) nw1 m1 (fun _ => True) s₃) NoE s₂) NoE s)
   (fin : ∀ γ' m' xs a s', m.le m' → Kn m' (At a (jB xs)) → All2 (fun x i => Kn m' (W i x)) xs ((ae n).filter p) → Bd w c γ' m' env own ρ nw s' → Q (.ref a) s') :
   tK w A env elt target iter ifs scope pos none E Q (.ref I) s := by
 refine rq (t0 := t0) (R := fun acc C => gf (model PG w) A E none Q acc C) B T ht ce ns p W ok hz turn fun γ' m' xs L acc s' hm hxs B' => ?_; obtain ⟨mp, hn⟩ := NsO.ns (B'.at (.head _)); refine ⟨mp, hn, fun h' hs => ?_⟩; have B2 : Bd w c γ' m' env own ρ ((acc, jB xs) :: nw) ⟨h', s'.gens, s'.drawn, s'.toks, s'.os⟩ := B'.lose1 (jT hs); refine x13 B2.freeze fun m2 h1 h2 h3 => ?_; exact fin γ' m2 xs acc _ (hm.trans h1) h2 (hxs.imp fun _ _ k => k.up h1) h3
end
end
end
section
section
variable {w : World} {c : Cx} {γ γ' : Array aE} {m m' : Mp} {env cenv : Env} {own : List Addr} {ρ ρ' : List VE} {nw nw' : Led} {s s' : Shared} {A : au} {E : VP}
theorem rA {st : Stmt} {rest : List Stmt} {Q : Flow → Shared → Prop} (ht : 1 ≤ s.toks)
   (h : wpAny (model PG w) A (exec st env) (fun f s' => 1 ≤ s'.toks → match f with | .next => wpAny (model PG w) A (execs rest env) Q E s' | f => Q f s') E s) : wpAny (model PG w) A (execs (st :: rest) env) Q E s :=
 iN (ks ht (am h (fun _ _ q => q) fun _ _ x _ => x))
theorem k_intT {i : Int} {k : Nat} {pos : Pos} {Q : VP} (B : Bd w c γ m env own ρ nw s) (h : ∀ t s', 1 ≤ s'.toks → Bd w c γ m env own ρ nw s' → Q (.int i t) s') :
   wpAny (model PG w) A (eval (.Constant (.int i) k pos) env) Q E s := ib (h _ _ (aq 1 _) (B.tk _ _))
theorem toksQ {α : Type} {t : Sem α} {Q : α → Shared → Prop} (ht : 1 ≤ s.toks) (h : wpAny (model PG w) A t (fun a s' => 1 ≤ s'.toks → Q a s') E s) : wpAny (model PG w) A t Q E s :=
 ks ht (am h (fun _ _ q => q) fun _ _ x _ => x)
end
end
section
section
variable {w : World} {c : Cx} {γ : Array aE} {m : Mp} {env : Env} {s : Shared} {A : au} {E : VP} {Q : Flow → Shared → Prop} {L : Addr} {own : List Addr} {ρ : List VE}
theorem law_1 (W : LawE A env L) {sa : Addr} {ns : List Int} (hns : ns.length ≤ 1000) (hsa : Kn m (LI sa ns)) (B : Bd w c γ m env own ρ [] s) (r_script : (⟨"script", none, some (.ref sa)⟩ : VE) ∈ ρ) (r_sums : Hn (aa "sums") none ρ) (r_first : Hn (aa "first") (some (L + 1)) ρ) (o_first : L + 1 ∈ own) (r_words : Hn (aa "words") (some (L + 2)) ρ) (o_words : L + 2 ∈ own) (r_mask : Hn (aa "mask") (some (L + 3)) ρ) (o_mask : L + 3 ∈ own) (r_due : Hn (aa "due") none ρ)
   (h : ∀ (f i o g d : Nat) (sums words due : Addr) (tf tm : Tok) ρ' γ m' s', f < 24 → i < 12 → o < 720 → g < 120 → d < 46656 → m.le m' → 1 ≤ s'.toks → Kn m' (LS words (j7 f)) → Kn m' (LI due [(o : Int), (g : Int), ((jx i <<< f : Nat) : Int), (d : Int)]) →
     Ow ["sums", "first", "words", "mask", "due"] ρ ρ' → (⟨"due", none, some (.ref due)⟩ : VE) ∈ ρ' → (⟨"first", some (L + 1), some (.int (f : Nat) tf)⟩ : VE) ∈ ρ' → (⟨"words", some (L + 2), some (.ref words)⟩ : VE) ∈ ρ' → (⟨"mask", some (L + 3), some (.int (jx i : Nat) tm)⟩ : VE) ∈ ρ' → Bd w c γ m' env own ρ' [] s' → wpAny (model PG w) A (execs (lawBody.drop 5) env) Q E s') :
   wpAny (model PG w) A (execs (lawBody.drop 0) env) Q E s := by
 conv => arg 3; arg 1; whnf
 have hE := W.kinds; have hR' := W.room; walk_at "sts"; walk_at "nl"; intro sd m1 s hm1 hsd B; walk_at "sts"; refine c_sums (sds := [516, 45, 8, 3926]) hns (by decide) (hR'.less (a178) (a177)) B.bef (hsa.up hm1) (hsd.map fun h x => ⟨_, x, .cons _ _ (.cons _ _ (.cons _ _ (.cons _ _ .nil)))⟩) ?_; intro sums rs m2 s f2 hrs hrl hrb; replace B := B.aft f2; obtain ⟨n0, n1, n2, n3, rfl⟩ : ∃ n0 n1 n2 n3, rs = [n0, n1, n2, n3] := by
   exact len4 hrl
 walk_at "sts"; refine l_sum B hR'.handled (B.kn hrs) ?_; clear B; intro t s B; refine k_intT B ?_; clear B; intro tk s htk B; refine toksQ htk ?_; refine i_mod B (by decide) ?_; clear B htk; intro tk s B htk; refine toksQ htk ?_; walk_at "sts"; generalize hfe : ([n0, n1, n2, n3].sum).fmod 24 = fi at *
 obtain ⟨f, rfl⟩ : ∃ f : Nat, fi = (f : Nat) := ⟨fi.toNat, by rw [dA]; rw [← hfe]; exact cx _ (by decide)⟩; have hf24 : f < 24 := by have := db ([n0, n1, n2, n3].sum) (show (0 : Int) < 24 by decide); rw [hfe] at this; exact a181 this
 clear hfe; obtain ⟨tf, htf⟩ : ∃ t, t = tk := ⟨_, rfl⟩; rw [← htf] at hV; refine nE B (hE.kind (by rfl)) rfl ?_; refine jH B [⟨"first", some (L + 1), some (.int (f : Nat) tf)⟩] (by walk_at "cs") rfl rfl rfl ?_; walk_at "sts"; apply kA (k := 5) B hR'.handled (by decide +kernel); intro I s B T; refine ln B T [⟨"first", some (L + 1), some (.int (f : Nat) tf)⟩] ["k"] (fun i v _ => ∃ t, v = .str (jD (f + i)) t) ⟨rfl, rfl, rfl, by walk_at "cs", rfl, rfl⟩ (by decide) ?_ ?_
 · intro j v c2 cenv L2 γ2 m6 own ρ nw2 s hj hE hm6 hv hC hM B Qx hK; obtain ⟨t, rfl⟩ := hv; refine af ?_; walk_at "st"; walk_at "sts"; rw [show (f : Int) + (j : Int) = ((f + j : Nat) : Int) from by exact a180]
   refine c_word (f + j) (a179 hf24 hj) (hR'.less (a178) (a177)) B.bef ?_; intro t2 m7 s7 f7; replace B := B.aft f7; exact hK.go (by walk_at "tn") B f7.le (fun _ _ => ⟨_, rfl⟩)
 intro γ3 m3 xs words s hm3 hk3 hxs B; have hws : Kn m3 (LS words (j7 f)) := by
   have := B.strs hxs; exact fun hp ok => ⟨xs, hk3 hp ok, this⟩
 clear hxs hk3; replace hrs := hrs.up hm3; walk_at "sts"; walk_at "nl"; intro ml m4 s hm4 hml B; walk_at "sts"; replace hrs := hrs.up hm4; replace hws := hws.up hm4; refine kI (n := n2) (B.kn hrs) (by decide) (by decide) rfl fun t2 => ?_; walk_at "sts"; obtain ⟨i, hi⟩ : ∃ i : Nat, n2.fmod 12 = (i : Nat) := ⟨(n2.fmod 12).toNat, by rw [dA]; exact cx _ (by decide)⟩; have hi12 : i < 12 := by have := db n2 (show (0 : Int) < 12 by decide); rw [hi] at this; exact a176 this
 rw [hi]; refine kI (ns := [7, 11, 13, 14, 19, 21, 22, 25, 26, 28, 3, 30]) (n := ((jx i : Nat) : Int)) (B.kn (hml.map fun h x => ⟨_, x, .cons _ _ (.cons _ _ (.cons _ _ (.cons _ _ (.cons _ _ (.cons _ _ (.cons _ _ (.cons _ _ (.cons _ _ (.cons _ _ (.cons _ _ (.cons _ _ .nil)))))))))))⟩)) (a12) (a175 hi12) ?_ fun tm => ?_
 · rw [bf]; exact (by decide +kernel : ∀ i : Nat, i < 12 → ([7, 11, 13, 14, 19, 21, 22, 25, 26, 28, 3, 30] : List Int)[i]? = some ((jx i : Nat) : Int)) i hi12
 have hmask : jx i ≤ 30 := (by decide +kernel : ∀ i : Nat, i < 12 → jx i ≤ 30) i hi12; walk_at "sts"; refine kI (n := n0) (B.kn hrs) (by decide) (by decide) rfl fun t3 => ?_; walk_at "sts"; refine kI (n := n1) (B.kn hrs) (by decide) (by decide) rfl fun t4 => ?_; walk_at "sts"; refine kI (n := n3) (B.kn hrs) (by decide) (by decide) rfl fun t5 => ?_; walk_at "sts"; walk_at "nl"; intro due m5 s hm5 hdue B; walk_at "st"; walk_at "st"; obtain ⟨o, ho⟩ : ∃ i : Nat, n0.fmod 720 = (i : Nat) := ⟨(n0.fmod 720).toNat, by rw [dA]; exact cx _ (by decide)⟩; have ho2 : o < 720 := by have := db n0 (show (0 : Int) < 720 by decide); rw [ho] at this; exact a174 this
 obtain ⟨g, hg⟩ : ∃ i : Nat, n1.fmod 120 = (i : Nat) := ⟨(n1.fmod 120).toNat, by rw [dA]; exact cx _ (by decide)⟩; have hg2 : g < 120 := by have := db n1 (show (0 : Int) < 120 by decide); rw [hg] at this; exact a173 this
 obtain ⟨d, hd⟩ : ∃ i : Nat, n3.fmod 46656 = (i : Nat) := ⟨(n3.fmod 46656).toNat, by rw [dA]; exact cx _ (by decide)⟩; have hd2 : d < 46656 := by have := db n3 (show (0 : Int) < 46656 by decide); rw [hd] at this; exact a172 this
 rw [ho, hg, hd] at hdue; refine h f i o g d sums words due tf tm _ _ m5 s hf24 hi12 ho2 hg2 hd2 (hm1.trans (f2.le.trans (hm3.trans (hm4.trans hm5)))) htk (hws.up hm5) (hdue.map fun h x => ⟨_, x, .cons _ _ (.cons _ _ ?_)⟩) (by walk_at "ow") (by walk_at "mem") (by walk_at "mem") (by walk_at "mem") (by walk_at "mem") B; rw [show ((jx i : Nat) : Int) * 2 ^ ((f : Nat) : Int).toNat = ((jx i <<< f : Nat) : Int) from by rw [dD, bf]; simp]
 exact .cons _ _ (.cons _ _ .nil)
end
end
section
theorem or_digit (v r : Nat) (hr : r < 64) : gl ((v * 64 : Nat) : Int) (r : Int) = ((v * 64 + r : Nat) : Int) := by
 have e : (v * 64) &&& r = 0 := by
   apply gx; intro j; rw [iE, show 64 = 2 ^ 6 from rfl, jb, bI]
   by_cases h : 6 ≤ j
   · have : r.testBit j = false := eB (ao hr (b0 (n := 2) (by decide) h)); rw [this, cQ]
   simp [h]
 rw [bitOr_and, bitAnd_pp (bm _) (bm _), bf, bf, e]; exact a92
theorem and_more (o : Nat) (ho : o < 256) : (dR (o : Int) 64 != 0) = o.testBit 6 := by
 have : ∀ o : Fin 256, (dR (o.val : Int) 64 != 0) = o.val.testBit 6 := by decide +kernel
 exact this ⟨o, ho⟩
noncomputable def jZ (l : List Nat) : Nat := l.foldl (fun v o => v * 64 + o % 64) 0
theorem oy {l : List Nat} {k o : Nat} (h : l[k]? = some o) : jZ (l.take (k + 1)) = jZ (l.take k) * 64 + o % 64 := by
 unfold jZ; rw [bK, h]; simp
theorem pi : ∀ (l : List Nat) (v k : Nat), v < 64 ^ k → l.foldl (fun v o => v * 64 + o % 64) v < 64 ^ (k + l.length)
 | [], v, k, h => h
 | x :: l, v, k, h => by
   have hx := bR x (show 64 > 0 by decide)
   have := pi l (v * 64 + x % 64) (k + 1) (by rw [d9]; exact a91 h); rw [aR, ay, show k + (l.length + 1) = k + 1 + l.length from by exact a90]
   exact this
theorem segVal_lt (l : List Nat) : jZ l < 64 ^ l.length := by
 have := pi l 0 0 (by decide); rw [Nat.zero_add] at this; exact this
section
variable {w : World}
theorem c_varint {bs : Array UInt8} {tb : Tok} {i : Nat} {seg : List Nat} (hseg : ∀ (j o : Nat), seg[j]? = some o → ∃ u, bs[i + j]? = some u ∧ u.toNat = o) (hmid : ∀ (j o : Nat), seg[j]? = some o → o.testBit 6 = decide (j + 1 < seg.length)) (hlen : seg.length ≤ 8) (hne : 0 < seg.length)
   {A : au} {m : Mp} {s : Shared} {I : Addr} {Q E : VP} (hR : Rm A 1 4) (b : Bef w m s) (hI : At I (BIt bs tb i) s.heap) (hmI : m I = none)
   (h : ∀ t m' s', Aft [I] m s m' s' → At I (BIt bs tb (i + seg.length)) s'.heap → Q (.int (jZ seg : Nat) t) s') :
   wpAny (model PG w) A (call (.ref 104) [.ref I]) Q E s := by
 have hl : LedOk m s [(I, BIt bs tb i)] := ⟨fun p hp => by rcases mSg hp with rfl; exact hI, fun p hp => by rcases mSg hp with rfl; exact hmI, by simp⟩
 refine nh (d := 0) (u := 1) (nw := [(I, BIt bs tb i)]) (ns := ["iterator", "b", "val"]) (ρ₀ := [⟨"iterator", none, some (.ref I)⟩, ⟨"b", none, none⟩, ⟨"val", none, none⟩]) hR b hl rfl rfl rfl rfl rfl rfl rfl rfl rfl rfl (by decide +kernel) (by rfl) (by decide +kernel) (by decide +kernel) rfl ?_; intro A env L c s' hE hR' hc B hL; generalize hγ : s.gens = γ0 at B; have hat : ∀ j, j < seg.length → ∃ o u, seg[j]? = some o ∧ bs[i + j]? = some u ∧ u.toNat = o ∧ o < 256 ∧ o.testBit 6 = decide (j + 1 < seg.length) := fun j hj => by
   refine x12 (hseg j seg[j] (ac hj)) fun u h1 h2 => ?_; walk_at "qs"; exact ⟨seg[j], u, ac hj, h1, h2, by rw [← h2]; exact u.toNat_lt, hmid j _ (ac hj)⟩
 walk_at "sts"; refine x25 (hat 0 hne) fun o0 u0 hs0 hb0 hu0 ho0 ht0 => ?_; refine b_next B .head hb0 ?_; clear B; intro t1 s B; rw [hu0] at *
 walk_at "sts"; have e0 : dR (o0 : Int) 63 = ((jZ (seg.take (0 + 1)) : Nat) : Int) := by
   rw [oy hs0, bitAnd_m6]; show _ = (((jZ [] * 64 + o0 % 64 : Nat)) : Int)
   show _ = (((0 * 64 + o0 % 64 : Nat)) : Int)
   exact a89
 rw [e0] at B; refine wpAny_While ?_; refine codeAny_whileLoop (fun n s => ∃ k, k < seg.length ∧ n = seg.length - k ∧ ∃ o tb' tv, seg[k]? = some o ∧ Bd w c γ0 m env [L] [⟨"iterator", none, some (.ref I)⟩, ⟨"b", none, some (.int (o : Nat) tb')⟩, ⟨"val", none, some (.int (jZ (seg.take (k + 1)) : Nat) tv)⟩] [(I, BIt bs tb (i + (k + 1)))] s) ?_ seg.length ⟨0, hne, rfl, o0, _, _, hs0, B⟩; clear B; rintro n s ⟨k, hk, rfl, o, tb', tv, hsk, B⟩; refine x25 (hat k hk) fun o' u' h1 h2 h3 h4 h5 => ?_; rw [hsk] at h1; cases h1
 have hlt := segVal_lt (seg.take (k + 1)); have hle : (seg.take (k + 1)).length ≤ 8 := by rw [bq]; exact a88 hlen
 have hlt2 : jZ (seg.take (k + 1)) < 64 ^ 8 := ao hlt (b0 (by decide) hle); have hlt3 : k + 1 < seg.length → jZ (seg.take (k + 1)) < 64 ^ 7 := fun h => ao hlt (b0 (by decide) (by rw [bq]; exact a87 hlen h)); walk_at "sts"; rw [and_more o h4, h5]; by_cases hlast : k + 1 < seg.length
 · refine lb (by simpa using hlast) ?_; have hlt4 := hlt3 hlast; walk_at "sts"; refine x25 (hat (k + 1) hlast) fun o2 u2 g1 g2 g3 g4 g5 => ?_; refine b_next B .head g2 ?_; clear B; intro t1 s B; rw [g3] at *
   walk_at "sts"; have e1 : gl ((jZ (seg.take (k + 1)) : Nat) * 2 ^ Int.toNat 6) (dR (o2 : Int) 63) = ((jZ (seg.take (k + 1 + 1)) : Nat) : Int) := by
     rw [oy g1, bitAnd_m6]; have e2 : ((jZ (seg.take (k + 1)) : Nat) : Int) * 2 ^ Int.toNat 6 = ((jZ (seg.take (k + 1)) * 64 : Nat) : Int) := by
       rw [show (Int.toNat 6) = 6 from rfl]; (first | lia | omega)
     have e3 : (o2 : Int) % 64 = ((o2 % 64 : Nat) : Int) := a86
     rw [e2, e3]; walk_at "qs"; exact or_digit _ _ (bR _ (by decide))
   rw [e1] at B; walk_at "qs"; exact ⟨seg.length - (k + 1), by exact a85 hlast, k + 1, hlast, rfl, o2, _, _, g1, B⟩
 refine j6 (by simpa using hlast) ?_; walk_at "sts"; have hk1 : k + 1 = seg.length := a84 hk hlast
 rw [hk1] at B ⊢; rw [c4] at B ⊢; have f := B.done hc hl (by simp); walk_at "qs"; exact h _ _ _ f (B.at (.head _))
theorem qr {bs : Array UInt8} {tb : Tok} {i : Nat} (hx : bs[i]? = none) {A : au} {m : Mp} {s : Shared} {I : Addr} {X : List Addr} {outer : List Env} {Q E : VP} (hR : Rm A 1 4) (hfr : A.frames = some outer) (hF : s.heap.FunFrames (gp s.heap X) outer) (hIX : I ∈ X)
   (b : Bef w m s) (hI : At I (BIt bs tb i) s.heap) (hmI : m I = none)
   (h : ∀ e a0 s', Rz s X outer (.type "StopIteration") e a0 s' → E (.ref e) s') :
   wpAny (model PG w) A (call (.ref 104) [.ref I]) Q E s := by
 have hl : LedOk m s [(I, BIt bs tb i)] := ⟨fun p hp => by rcases mSg hp with rfl; exact hI, fun p hp => by rcases mSg hp with rfl; exact hmI, by simp⟩
 refine enterF (d := 0) (u := 1) (nw := [(I, BIt bs tb i)]) (ns := ["iterator", "b", "val"]) (ρ₀ := [⟨"iterator", none, some (.ref I)⟩, ⟨"b", none, none⟩, ⟨"val", none, none⟩]) hR b hl rfl rfl rfl rfl rfl rfl rfl rfl rfl rfl (by decide +kernel) (by rfl) (by decide +kernel) (by decide +kernel) rfl ?_; intro A' env L c s' hA hfm hE hR' hc B hL; walk_at "sts"; refine b_stop hR'.handled (B.at (.head _)) hx fun h' e a0 hext hnew hob => ?_; refine x25 hob fun oe vs he hcl hd hv0 hv1 => ?_; subst hA; have keep : ∀ a o, a ≠ I → s.heap.get? a = some o → h'.get? a = some o := fun a o ha hg => by
   have h1 : c.old a = some o := by
     rw [hc]; walk_at "qs"; exact Mp.get_of hg (by simpa using ha)
   walk_at "qs"; exact hext a o ha (B.old a o h1)
 have eI : ∀ o, s.heap.get? I = some o → o.data = .fields #[.bytes bs tb, .int i 0] := fun o ho => by
   refine x13 hI fun o' h1 _ h2 => ?_; rw [ho] at h1; cases h1; exact h2
 have hLn : s.heap.get? L = none := by
   cases q : s.heap.get? L with
   | none => rfl
   | some o => exact absurd (hL L o q) (bB _)
 have hLI : L ≠ I := fun q => by
   refine x12 hI fun o' h1 _ => ?_; rw [← q, hLn] at h1; cases h1
 have stay : (gp s.heap X).StaysIn h' := fun a o hg => keep a o (fun q => by rw [q, hideAll_none X hIX] at hg; cases hg) (of_hideAll _ hg)
 have upd : s.heap.UpToSlots h' := fun a o ho hn => ⟨o.slots, keep a o (fun q => by subst q; exact hn _ (eI o ho)) ho⟩; have hsn : s.heap.get? e = none := by
   cases q : s.heap.get? e with
   | none => rfl
   | some o =>
     by_cases hq : e = I
     · subst hq; refine x12 (B.at (.head _)) fun o' h1 _ => ?_; rw [hnew] at h1; cases h1
     have h1 : c.old e = some o := by
       rw [hc]; walk_at "qs"; exact Mp.get_of q (by simpa using hq)
     have := B.old e o h1; rw [hnew] at this; cases this
 have hbe : (gp s.heap X).get? e = none := by
   cases q : (gp s.heap X).get? e with
   | none => rfl
   | some o => have := of_hideAll _ q; rw [hsn] at this; cases this
 have hfl : h'.FunFrames (gp s.heap X) (env :: outer) := by
   walk_at "qs"; refine ⟨by rw [B.vars.kind]; decide, ?_, hF.of_keeps fun a o ho hn => ⟨o, keep a o (fun q => by subst q; exact hn _ (eI o ho)) ho, rfl⟩⟩; obtain ⟨mp, ⟨o, es, ep, ho, hdd, _⟩, _⟩ := B.vars.ns; rw [hE.locals] at ho; walk_at "qs"; refine ⟨L, o, hfm, ?_, hext L o hLI ho, fun vs q => by rw [hdd] at q; cases q⟩
   cases q : (gp s.heap X).get? L with
   | none => rfl
   | some o => have := of_hideAll _ q; rw [hLn] at this; cases this
 refine wpAny_leaving_firstW (base := gp s.heap X) (outer := outer) (fY hfr) hfl hfm he stay hbe hd hv1 hv0 fun h2 hleft => ?_; obtain ⟨k1, ⟨_, _, k2⟩, k3, k4⟩ := hleft; rw [hcl] at k3; walk_at "qs"; exact h e a0 _ ⟨⟨k1, hbe, k2, k3⟩, upd.trans k4, B.gens, by rw [show s.os = c.os from by rw [hc]]; exact B.os⟩
end
end
section
noncomputable def SegOk (seg : List Nat) : Prop := (∀ (j o : Nat), seg[j]? = some o → o.testBit 6 = decide (j + 1 < seg.length) ∧ o < 256) ∧ seg.length ≤ 8 ∧ 0 < seg.length
theorem flat_at {α : Type} {segs : List (List α)} {i j : Nat} {seg : List α} {o : α} (h : segs[i]? = some seg) (hj : seg[j]? = some o) : segs.flatten[(segs.take i).flatten.length + j]? = some o := by
 have e : segs = segs.take i ++ seg :: segs.drop (i + 1) := by
   have hi := (aC.mp h).1; have e : segs[i] = seg := (aC.mp h).2; conv => lhs; rw [← dO i segs, bp hi, e]
 have e2 : segs.flatten = (segs.take i).flatten ++ (seg ++ (segs.drop (i + 1)).flatten) := by
   conv => lhs; rw [e]
   rw [List.flatten_append, cu]
 have hl := (aC.mp hj).1; rw [e2, bb (a82), cS, dj hl]; exact hj
theorem take_flat {α : Type} {segs : List (List α)} {i : Nat} {seg : List α} (h : segs[i]? = some seg) : (segs.take (i + 1)).flatten.length = (segs.take i).flatten.length + seg.length := by
 rw [bK, h]; simp
theorem segs_len {segs : List (List Nat)} (h : ∀ seg ∈ segs, SegOk seg) : segs.length ≤ segs.flatten.length := by
 induction segs with
 | nil => exact ap _
 | cons x r ih =>
   have h1 := ih fun s hs => h s (.tail _ hs); have h2 := (h x (.head _)).2.2; rw [cu, aw, ay]; exact a99 h1 h2
theorem bytes_at {l : List Nat} {bs : Array UInt8} (hbs : byteArr (l.map aZ) = bs) {k o : Nat} (hk : l[k]? = some o) (ho : o < 256) : ∃ u, bs[k]? = some u ∧ u.toNat = o := by
 refine ⟨o.toUInt8, ?_, by simp; exact ho⟩; rw [← hbs]; unfold byteArr; rw [eG, ar, ar, hk]; rfl
theorem bytes_end {l : List Nat} {bs : Array UInt8} (hbs : byteArr (l.map aZ) = bs) : bs[l.length]? = none := by
 rw [← hbs]; unfold byteArr; rw [eG]; exact eH (by rw [al, al]; exact ap _)
section
variable {w : World}
theorem num_mk {c : Cx} {γ : Array aE} {m : Mp} {env : Env} {L I td LW : Addr} {ρ : List VE} {s s1 : Shared} {oL oW oW' : Obj} {vs : List Value} {P : Obj → Prop} (hE : env.locals = L) (B : Bd w c γ m env [L] ρ [(td, jB vs), (I, P), (LW, Upto oW)] s) (hg : s1.gens = s.gens) (ho : s1.os = s.os)
   (hoL : s.heap.get? L = some oL) (hdL : ∀ vs, oL.data ≠ .fields vs) (hoW : s.heap.get? LW = some oW') (hW : ∃ sl, oW' = { oW with slots := sl }) (hdW : ∀ vs, oW'.data ≠ .fields vs) {h' : Heap} (hst : (gp s.heap [I, L, LW]).StaysIn h') (hup : s.heap.UpToSlots h') :
   Bd w c s1.gens m env [L] ρ [(td, jB vs), (LW, Upto oW)] ⟨h', s1.gens, s1.drawn, s1.toks, s1.os⟩ := by
 have keep : ∀ a o, s.heap.get? a = some o → a ∉ [I, L, LW] → h'.get? a = some o := fun a o h1 h2 => hst a o (hideAll_get _ h1 h2); have hnd := B.nodup; simp only [ag, b6, aY, bi, aB, b9, cH, or_false, not_or] at hnd; refine B.aftX (X := [I, L, LW]) (nw' := [(td, jB vs), (LW, Upto oW)]) (keep_aft (s' := ⟨h', s1.gens, s1.drawn, s1.toks, s1.os⟩) B.bef keep hg ho (al2 (P := fun b => m b = none) (B.out _ (by simp)).1 (al2 (B.out _ (by simp)).1 (al1 (B.out _ (by simp)).1)))) (al2 (P := fun a => a = env.locals ∨ a ∈ ([(td, jB vs), (I, P), (LW, Upto oW)] : Led).map (·.1)) (.inr (by simp)) (al2 (.inl hE.symm) (al1 (.inr (by simp))))) (fun _ => ?_) (al2 (P := fun p : Addr × (Obj → Prop) => p.1 ∈ ([(td, jB vs), (I, P), (LW, Upto oW)] : Led).map (·.1)) (by simp) (al1 (by simp))) ?_ (al2 (P := fun p : Addr × (Obj → Prop) => ∃ o, h'.get? p.1 = some o ∧ p.2 o) ?_ (al1 ?_))
 · rw [hE]; obtain ⟨sl, h1⟩ := hup L oL hoL hdL; exact ⟨oL, _, hoL, h1, rfl⟩
 · simp only [ag, b6, aB, b9, cH, or_false]; exact ⟨hnd.2.1.2, fun h => h, .nil⟩
 · obtain ⟨o, ho, hP⟩ := B.at (P := jB vs) (a := td) (by simp); refine ⟨o, keep td o ho ?_, hP⟩; simp only [b9, cH, or_false, not_or]; exact ⟨hnd.2.1.1, fun q => hnd.1.1 q.symm, hnd.2.1.2⟩
 obtain ⟨sl, h1⟩ := hup LW oW' hoW hdW; obtain ⟨s2, rfl⟩ := hW; exact ⟨_, h1, sl, rfl⟩
theorem c_numbers {a : Addr} {segs : List (List Nat)} (hok : ∀ seg ∈ segs, SegOk seg) (hlen : segs.flatten.length ≤ 1000)
   {A : au} {m : Mp} {s : Shared} {envW : Env} {LW : Addr} {oW : Obj} {Q E : VP} (hR : Rm A 2 7) (hfr : A.frames = some [envW]) (hWk : envW.scope.kind = .function) (hWf : envW.frame = some LW) (hWo : s.heap.get? LW = some oW) (hWd : ∀ vs, oW.data ≠ .fields vs) (hWm : m LW = none)
   (b : Bef w m s) (hk : Kn m (LI a (segs.flatten.map aZ)))
   (h : ∀ r m' s', Aft [LW] m s m' s' → At LW (Upto oW) s'.heap → Kn m' (LI r (segs.map fun seg => aZ (jZ seg))) → Q (.ref r) s') :
   wpAny (model PG w) A (call (.ref 278) [.ref a]) Q E s := by
 have hl : LedOk m s [(LW, Upto oW)] := ⟨fun p hp => by rcases mSg hp with rfl; exact ⟨oW, hWo, oW.slots, rfl⟩, fun p hp => by rcases mSg hp with rfl; exact hWm, by simp⟩
 refine enterF (d := 1) (u := 4) (nw := [(LW, Upto oW)]) (ns := ["octets", "reader", "told", "octet"]) (ρ₀ := [⟨"octets", none, some (.ref a)⟩, ⟨"reader", none, none⟩, ⟨"told", none, none⟩, ⟨"octet", none, none⟩]) hR b hl rfl rfl rfl rfl rfl rfl rfl rfl rfl rfl (by decide +kernel) (by rfl) (by decide +kernel) (by decide +kernel) rfl ?_; intro A' env L c s' hA hfm hE hR' hc B hL; refine am (E := NoE) ?_ (fun _ _ x => x) (fun _ _ x => x.elim); have hfr' : A'.frames = some [env, envW] := by rw [hA]; exact fY hfr
 clear hA; walk_at "sts"; refine lu B.vars.kind (hE.kind (by rfl)) (hE.kind (by rfl)) rfl (by decide +kernel) rfl rfl rfl ?_; walk_at "sts"; refine b_make B hR'.handled (B.kn hk) ?_ ?_ ?_
 · intro n hn; obtain ⟨o, ho, rfl⟩ := mMa hn; refine x12 (List.mem_flatten.mp ho) fun seg hs ho => ?_; obtain ⟨j, hj, e⟩ := bn.mp ho; have := ((hok seg hs).1 j o (by rw [ac hj, e])).2; constructor
   · walk_at "qs"; exact bm _
   show ((o : Nat) : Int) < 256
   exact a98 this
 · rw [al]; exact szl (a97 hlen)
 clear B; intro tb s B; generalize hbs : byteArr (segs.flatten.map aZ) = bs at *
 walk_at "sts"; refine b_iter B ?_; clear B; intro I s B; walk_at "sts"; walk_at "nL"; intro td s B; walk_at "sts"; walk_at "nt"; intro tp m1 s hm1 hk1 B; refine pK B hR'.handled (B.kn hk1).tup rfl ?_; clear B; intro s B; refine ak (fF ?_); walk_at "st"; refine ak (fF ?_); walk_at "st"; refine aL ?_; walk_at "st"; walk_at "st"; refine wpAny_Try_except ?_; walk_at "sts"; walk_at "nl"; intro z1 m2 s hm2 hk2 B; refine x12 (B.kn (hk.up (hm1.trans hm2))) fun vs0 hls0 hia => ?_; have hvl0 := jM hia; rw [al] at hvl0; refine my B hls0 (B.kn hk2) (by rw [hvl0, aD]; show segs.flatten.length + 1 ≤ _; exact a96 hlen) ?_; clear B; intro z2 m3 s hm3 hk3 B
 apply jJ B hR'.handled (B.ko hk3); intro J s B T; have hn : (vs0 ++ [cF 0 tk]).length = segs.flatten.length + 1 := by rw [aw, hvl0]; rfl
 have hsl := segs_len hok
 refine c9 (for_goE B T (fun i m' ρ nw => m3.le m' ∧ i ≤ segs.length ∧ ∃ (vs : List Value) (v1 : Option Value), ρ = [⟨"octets", none, some (.ref a)⟩, ⟨"reader", none, some (.ref I)⟩, ⟨"told", none, some (.ref td)⟩, ⟨"octet", none, v1⟩] ∧
     nw = [(td, jB vs), (I, BIt bs tb (segs.take i).flatten.length), (LW, Upto oW)] ∧ d6 vs ((segs.take i).map fun seg => aZ (jZ seg))) ?_ ?_ ?_) (fun _ _ x => x)
 · walk_at "qs"; exact ⟨.rfl, be _, [], none, rfl, rfl, .nil⟩
 · clear B T; rintro i v c1 γ1 m4 ρ1 nw1 s hi ⟨hm4, his, vs, v1, rfl, rfl, hvs⟩ hm hv B hback; refine af ?_; walk_at "sts"; have hvl := jM hvs; rw [al, bq] at hvl; by_cases hlt : i < segs.length
   · have hsg : segs[i]? = some segs[i] := ac hlt; have hso := hok segs[i] (bG hlt); generalize segs[i] = seg at hsg hso; refine x03 hso fun hs1 hs2 hs3 => ?_; refine c_varint (i := (segs.take i).flatten.length) (fun j o hj => bytes_at hbs (flat_at hsg hj) (hs1 j o hj).2) (fun j o hj => (hs1 j o hj).1) hs2 hs3 (hR'.less (a94) (a93)) B.bef (B.at (.tail _ (.head _))) (B.out I (by simp)).1 ?_; intro t5 m5 s5 f5 hI5; replace B := B.aft1 (.tail (.head)) f5 hI5; walk_at "sts"; refine kL B .head (by rw [hvl]; exact szl (a95 hlen hsl)) ?_; clear B; intro s B; walk_at "sts"; walk_at "qs"; refine ⟨_, m5, _, _, ⟨hm4.trans f5.le, hlt, _, _, rfl, by rw [take_flat hsg], ?_⟩, f5.le, B⟩; rw [bK, hsg, aM]; walk_at "qs"; exact qc hvs (.cons _ _ .nil)
   have hie : i = segs.length := a13 his hlt
   rw [hie, c4] at B hvs; have B' := hback _ _ _ _ _ B; have hLW : (LW : Addr) ∉ ([L] : List Addr) := fun q => by
     have := B.nodup; rw [aH] at this; walk_at "qs"; exact this.2.2 L (.head _) LW (by simp) (mSg q).symm
   obtain ⟨mp, ⟨oL, esL, epL, hoL, hdL, _⟩, _⟩ := B.vars.ns; rw [hE.locals] at hoL; obtain ⟨oW', hoW', slW, hsW⟩ := B.at (P := Upto oW) (a := LW) (by simp); have hdW : oW'.data = oW.data := by rw [hsW]
   refine qr (X := [I, L, LW]) (outer := [env, envW]) (bytes_end hbs) (hR'.less (a94) (a93)) hfr' ?_ (.head _) B.bef (B.at (.tail _ (.head _))) (B.out I (by simp)).1 ?_
   · walk_at "qs"; exact ⟨by rw [B.vars.kind]; decide, ⟨L, oL, hfm, hideAll_none _ (by simp), hoL, fun vs q => by rw [hdL] at q; cases q⟩, by rw [hWk]; decide, ⟨LW, oW', hWf, hideAll_none _ (by simp), hoW', fun vs q => hWd vs (hdW ▸ q)⟩, trivial⟩
   intro e a0 s1 rz; have mk := fun h' => num_mk (h' := h') hE.locals B' rz.gens rz.os hoL (fun vs q => by rw [hdL] at q; cases q) hoW' ⟨slW, hsW⟩ (fun vs q => hWd vs (hdW ▸ q))
   refine PassesOwn.looking _ _ ?_; refine wpAny_looks_onW hfr' hfm rz.fly fun h4 hheld4 hsm4 => ?_; refine wpAny_landsW hheld4 fun h5 hfl5 hsm5 => ?_; have B5 := mk _ hfl5.1 ((rz.up.trans hsm4).trans hsm5); refine x12 hfl5.there fun ob hob hobc => ?_; refine wpAny_handleBy_builtin (X := "StopIteration") (T := "StopIteration") (b := true) stop_exc stop_tup stop_self ?_; refine r_blt B5 (hE.kind (by rfl)) rfl rfl (by decide) (by decide) ?_; walk_at "qs"; refine ⟨rfl, ⟨ob, hob, hobc⟩, ?_⟩; rw [if_pos rfl]; refine lands_againW hfl5 fun h6 hfl6 hsm6 => ?_; have B6 := mk _ hfl6.1 (((rz.up.trans hsm4).trans hsm5).trans hsm6); clear B5 mk B' hheld4 hfl5 hfl6 hob rz; clear B; refine x13 B6.freeze fun m7 hm7 hk7 B => ?_; simp only at B ⊢; generalize (⟨h6, s1.gens, s1.drawn, s1.toks, s1.os⟩ : Shared) = s at B ⊢; walk_at "sts"; have f := B.done hc hl (by simp); walk_at "qs"; clear hQc; clear hQc; walk_at "qs"; exact h td m7 s f (B.at (.head _)) fun hp ok => ⟨vs, hk7 hp ok, hvs⟩
 clear B T; rintro γ1 m4 ρ1 nw1 s ⟨hm4, his, _⟩ hm B; rw [hn] at his; (first | lia | omega)
end
end
section
noncomputable def octs : Nat → Int → Int → List Int
 | 0, n, f => [n.fmod 64 + f]
 | k + 1, n, f => (if 63 < n then octs k (n.fdiv 64) 64 else []) ++ [n.fmod 64 + f]
theorem octs_le : ∀ (k : Nat) (n f : Int), (octs k n f).length ≤ k + 1
 | 0, _, _ => ap _
 | k + 1, n, f => by
   unfold octs; have := octs_le k (n.fdiv 64) 64; split <;> simp <;> exact this
section
variable {w : World}
theorem c_octets (k : Nat) : ∀ {A : au} {m : Mp} {s : Shared} {n f : Int} {t u : Tok} {Q E : VP}, k ≤ 20 → 0 ≤ n → n < 64 ^ (k + 1) → Rm A (k + 1) (4 * k + 4) → Bef w m s →
   (∀ a m' s', Aft [] m s m' s' → Kn m' (LI a (octs k n f)) → Q (.ref a) s') →
   wpAny (model PG w) A (call (.ref 271) [.int n t, .int f u]) Q E s := by
 induction k with
 | zero =>
   intro A m s n f t u Q E hk20 hn0 hn hR b h; refine nh (d := 0) (u := 1) (nw := []) (ns := ["number", "further"]) (ρ₀ := [⟨"number", none, some (.int n t)⟩, ⟨"further", none, some (.int f u)⟩]) hR b .nil rfl rfl rfl rfl rfl rfl rfl rfl rfl rfl (by decide +kernel) (by rfl) (by decide +kernel) (by decide +kernel) rfl ?_; intro A env L c s' hE hR' hc B hL; walk_at "opq"; walk_at "sts"; refine j6 (by simp; (first | lia | omega)) ?_
   walk_at "sts"; walk_at "nl"; intro a1 m1 s hm1 hk1 B; walk_at "sts"; walk_at "nl"; intro a2 m2 s hm2 hk2 B; refine my B ((B.kn (hk1.up hm2))) (B.kn hk2) (by walk_at "fit") ?_; clear B; intro a3 m3 s hm3 hk3 B; walk_at "qs"; exact h _ m3 _ (B.done hc .nil jC) (fun h o => ⟨_, hk3 h o, .cons _ _ .nil⟩)
 | succ k ih =>
   intro A m s n f t u Q E hk20 hn0 hn hR b h; refine nh (d := k + 1) (u := 4 * k + 5) (nw := []) (ns := ["number", "further"]) (ρ₀ := [⟨"number", none, some (.int n t)⟩, ⟨"further", none, some (.int f u)⟩]) hR b .nil rfl rfl rfl rfl rfl rfl rfl rfl rfl rfl (by decide +kernel) (by rfl) (by decide +kernel) (by decide +kernel) rfl ?_; intro A env L c s' hE hR' hc B hL; walk_at "opq"; walk_at "sts"; refine ky (fun hb => ?_) (fun hb => ?_)
   · walk_at "sts"; refine ih (a169 hk20) (by rw [cy _ (by decide)]; exact a168 hn0) (by rw [cy _ (by decide)]; have e : (64 : Int) ^ (k + 1 + 1) = 64 ^ (k + 1) * 64 := Int.pow_succ ..; (first | lia | omega)) (hR'.less (a167) (a166)) B.bef ?_
     intro a1 m1 s1 f1 hk1; replace B := B.aft f1; walk_at "sts"; walk_at "nl"; intro a2 m2 s hm2 hk2 B; refine x12 (B.kn (hk1.up hm2)) fun vs h1 h2 => ?_; refine my B h1 (B.kn hk2) (by have := jM h2; have := octs_le k (n.fdiv 64) 64; simp [aD]; exact a165 hk20 (by assumption) this) ?_; clear B; intro a3 m3 s hm3 hk3 B; walk_at "qs"; refine h _ m3 _ (B.done hc .nil jC) (fun h o => ⟨_, hk3 h o, ?_⟩); unfold octs; rw [if_pos (by simpa using hb)]; walk_at "qs"; exact qc h2 (.cons _ _ .nil)
   walk_at "sts"; walk_at "nl"; intro a1 m1 s hm1 hk1 B; walk_at "sts"; walk_at "nl"; intro a2 m2 s hm2 hk2 B; refine my B ((B.kn (hk1.up hm2))) (B.kn hk2) (by walk_at "fit") ?_; clear B; intro a3 m3 s hm3 hk3 B; walk_at "qs"; refine h _ m3 _ (B.done hc .nil jC) (fun h o => ⟨_, hk3 h o, ?_⟩); unfold octs; rw [if_neg (by simpa using hb)]; walk_at "qs"; exact .cons _ _ .nil
end
end
section
noncomputable def nn : Nat → Nat → Nat → List Nat
 | 0, n, f => [n % 64 + f]
 | k + 1, n, f => (if 63 < n then nn k (n / 64) 64 else []) ++ [n % 64 + f]
theorem rW : ∀ (k n f : Nat), octs k n f = (nn k n f).map aZ
 | 0, n, f => by
   have : ((n : Nat) : Int).fmod 64 = ((n % 64 : Nat) : Int) := by rw [dc _ (by decide)]; rfl
   simp only [octs, nn, this, ag, b6]; rfl
 | k + 1, n, f => by
   have h1 : ((n : Nat) : Int).fmod 64 = ((n % 64 : Nat) : Int) := by rw [dc _ (by decide)]; rfl
   have h2 : ((n : Nat) : Int).fdiv 64 = ((n / 64 : Nat) : Int) := by rw [cy _ (by decide)]; rfl
   have ih := rW k (n / 64) 64; have e64 : ((64 : Nat) : Int) = 64 := rfl; rw [e64] at ih; unfold octs nn; rw [h1, h2, ih, aM]; congr 1
   by_cases q : 63 < n
   · rw [if_pos q, if_pos (a262 q)]
   rw [if_neg q, if_neg (a357 q)]; rfl
noncomputable def j5 (p : Nat) : List Nat → List Nat
 | [] => []
 | x :: r => (x + 128 * (p % 2)) :: j5 (p + 1) r
theorem kT : ∀ (p : Nat) (l : List Nat), (j5 p l).length = l.length
 | _, [] => rfl
 | p, x :: r => by simp [j5, kT (p + 1) r]
theorem pz : ∀ (p : Nat) (a b : List Nat), j5 p (a ++ b) = j5 p a ++ j5 (p + a.length) b
 | p, [], b => by simp [j5]
 | p, x :: r, b => by
   have := pz (p + 1) r b; simp only [aY, j5, this, ay]; rw [show p + 1 + r.length = p + (r.length + 1) from by exact a342]
theorem nB : ∀ (p : Nat) (l : List Nat) (j : Nat), (j5 p l)[j]? = (l[j]?).map fun x => x + 128 * ((p + j) % 2)
 | p, [], j => by simp [j5]
 | p, x :: r, 0 => by simp [j5]
 | p, x :: r, j + 1 => by
   simp only [j5, List.getElem?_cons_succ]; rw [nB (p + 1) r j, show p + 1 + j = p + (j + 1) from by exact a342]
theorem sS (p : Nat) (l : List Nat) : jZ (j5 p l) = jZ l := by
 have : ∀ (l : List Nat) (p v : Nat), (j5 p l).foldl (fun v o => v * 64 + o % 64) v = l.foldl (fun v o => v * 64 + o % 64) v := by
   intro l; induction l with
   | nil => intro p v; rfl
   | cons x r ih =>
     intro p v; simp only [j5, aR]; rw [ih, show (x + 128 * (p % 2)) % 64 = x % 64 from by exact a356]
 exact this l p 0
theorem sO (l : List Nat) (o : Nat) : jZ (l ++ [o]) = jZ l * 64 + o % 64 := by
 unfold jZ; simp
theorem rX : ∀ (k n f : Nat), n < 64 ^ (k + 1) → f % 64 = 0 → jZ (nn k n f) = n
 | 0, n, f, hn, hf => by
   simp only [nn, jZ, aR, dY]; (first | lia | omega)
 | k + 1, n, f, hn, hf => by
   unfold nn; rw [sO]; have e : 64 ^ (k + 1 + 1) = 64 ^ (k + 1) * 64 := d9 ..; by_cases q : 63 < n
   · rw [if_pos q, rX k (n / 64) 64 (by (first | lia | omega)) rfl]; exact a355 hf
   rw [if_neg q]; show 0 * 64 + _ = n; exact a354 hf q
theorem nU : ∀ (k n f : Nat), 0 < (nn k n f).length ∧ (nn k n f).length ≤ k + 1
 | 0, n, f => by simp [nn]
 | k + 1, n, f => by
   have := nU k (n / 64) 64; unfold nn; split <;> simp <;> exact this.2
theorem octN_in : ∀ (k n o : Nat), o ∈ nn k n 64 → o / 64 = 1
 | 0, n, o, h => by
   simp only [nn, cm] at h; exact a353 h
 | k + 1, n, o, h => by
   unfold nn at h; rcases mAp h with h | h
   · split at h
     · exact octN_in k _ _ h
     cases h
   rw [cm] at h; exact a353 h
theorem sP : ∀ (k n : Nat), ∃ pre, nn k n 0 = pre ++ [n % 64] ∧ (∀ o ∈ pre, o / 64 = 1) ∧ pre.length ≤ k
 | 0, n => ⟨[], rfl, (by simp), ap _⟩
 | k + 1, n => by
   refine ⟨if 63 < n then nn k (n / 64) 64 else [], rfl, fun o h => ?_, ?_⟩
   · split at h
     · exact octN_in k _ _ h
     cases h
   have := nU k (n / 64) 64; split <;> simp <;> exact this.2
theorem bit6 (x p : Nat) : (x + 128 * (p % 2)).testBit 6 = decide (x / 64 % 2 = 1) := by
 rw [eC]; rw [show (x + 128 * (p % 2)) / 2 ^ 6 % 2 = x / 64 % 2 from by (first | lia | omega)]
theorem seg_ok (k n p : Nat) (hk : k ≤ 7) : SegOk (j5 p (nn k n 0)) := by
 refine x13 (sP k n) fun pre e h1 h2 => ?_; refine ⟨fun j o h => ?_, ?_, ?_⟩
 · rw [nB, e] at h; rw [kT, e, aw]; obtain ⟨x, hx, rfl⟩ := bN.mp h; rw [bit6]; by_cases q : j < pre.length
   · rw [dj q] at hx; have h3 := h1 x (av hx); refine ⟨?_, by exact a352 h3⟩; rw [decide_eq_true (a351 h3), decide_eq_true (by show j + 1 < _ + 1; exact a350 q)]
   rw [bb (a349 q)] at hx; match hj : j - pre.length with
   | 0 =>
     rw [hj] at hx; simp only [List.getElem?_cons_zero, Option.some.injEq] at hx; refine ⟨?_, by exact a348 hx⟩; rw [decide_eq_false (a347 hx), decide_eq_false (by show ¬ (j + 1 < _ + 1); exact a346 q)]
   | z + 1 => rw [hj] at hx; simp at hx
 · rw [kT, e, aw]; show _ + 1 ≤ 8; exact a345 hk h2
 rw [kT, e, aw]; show 0 < _ + 1; exact a344
theorem seg_val (k n p : Nat) (hn : n < 64 ^ (k + 1)) : jZ (j5 p (nn k n 0)) = n := by
 rw [sS]; exact rX k n 0 hn rfl
noncomputable def nI (k : Nat) : Nat → List Nat → List (List Nat)
 | _, [] => []
 | p, n :: r => j5 p (nn k n 0) :: nI k (p + (nn k n 0).length) r
theorem mn (k : Nat) : ∀ (p : Nat) (l : List Nat), (nI k p l).flatten = j5 p (l.flatMap fun n => nn k n 0)
 | _, [] => rfl
 | p, n :: r => by
   simp only [nI, cu, ew, pz, mn k]
theorem qB (k : Nat) (hk : k ≤ 7) : ∀ (p : Nat) (l : List Nat), ∀ seg ∈ nI k p l, SegOk seg
 | _, [], _, h => nomatch h
 | p, n :: r, seg, h => by
   rcases mCo h with rfl | h
   · exact seg_ok k n p hk
   exact qB k hk _ r seg h
theorem ph (k : Nat) : ∀ (p : Nat) (l : List Nat), (∀ n ∈ l, n < 64 ^ (k + 1)) → (nI k p l).map jZ = l
 | _, [], _ => rfl
 | p, n :: r, h => by
   simp only [nI, ag, seg_val k n p (h n (.head _)), ph k _ r fun x hx => h x (.tail _ hx)]
theorem pR (k : Nat) : ∀ (l : List Nat), (l.flatMap fun n => nn k n 0).length ≤ (k + 1) * l.length
 | [] => be _
 | n :: r => by
   rw [ew, aw, ay]; have h1 := (nU k n 0).2; have h2 := pR k r; rw [Nat.mul_succ]; exact a343 h1 h2
end
section
section
variable {w : World} {c : Cx} {γ : Array aE} {m : Mp} {env : Env} {s : Shared} {A : au} {E : VP} {Q : Flow → Shared → Prop} {L : Addr} {own : List Addr} {ρ : List VE}
theorem law_2 (W : LawE A env L) (htk : 1 ≤ s.toks) {f i o g d : Nat} {words due : Addr} {tf : Tok} (hf : f < 24) (hi : i < 12) (ho : o < 720) (hg : g < 120) (hd : d < 46656) (hws : Kn m (LS words (j7 f))) (hdue : Kn m (LI due [(o : Int), (g : Int), ((jx i <<< f : Nat) : Int), (d : Int)]))
   (B : Bd w c γ m env own ρ [] s) (r_due : (⟨"due", none, some (.ref due)⟩ : VE) ∈ ρ) (r_first : (⟨"first", some (L + 1), some (.int (f : Nat) tf)⟩ : VE) ∈ ρ) (r_octets : Hn (aa "octets") none ρ) (r_numbers : Hn (aa "numbers") none ρ)
   (h : ∀ (oc nm : Addr) ρ' γ m' s', m.le m' → 1 ≤ s'.toks → Kn m' (LI nm [(o : Int), (g : Int), ((jx i <<< f : Nat) : Int), (d : Int)]) →
     Ow ["octets", "numbers"] ρ ρ' → (⟨"numbers", none, some (.ref nm)⟩ : VE) ∈ ρ' → Bd w c γ m' env own ρ' [] s' → wpAny (model PG w) A (execs (lawBody.drop 7) env) Q E s') :
   wpAny (model PG w) A (execs (lawBody.drop 5) env) Q E s := by
 conv => arg 3; arg 1; whnf
 have hE := W.kinds; have hR' := W.room; have hmask : jx i ≤ 30 := (by decide +kernel : ∀ i : Nat, i < 12 → jx i ≤ 30) i hi; have hmf : jx i <<< f < 64 ^ 5 := by
   rw [dD]; have h1 : 2 ^ f ≤ 2 ^ 23 := b0 (by decide) (a193 hf); have h2 : jx i * 2 ^ f ≤ 30 * 2 ^ 23 := gv hmask h1; exact a192 h2
 generalize jx i <<< f = mf at *
 walk_at "st"; refine sW B [] (by walk_at "ce") rfl rfl (by decide +kernel) (hE.kind (by rfl)) (by decide +kernel) ?_; walk_at "sts"; refine x12 (B.koI hdue) fun vs hko hvs => ?_; have hvl := jM hvs; apply jJ B hR'.handled hko; intro I s B T; obtain ⟨ds, hdse⟩ : ∃ ds : List Nat, ds = [o, g, mf, d] := ⟨_, rfl⟩; have hds : ∀ (j : Nat) (n : Int), ([(o : Int), (g : Int), (mf : Int), (d : Int)] : List Int)[j]? = some n → ∃ k : Nat, ds[j]? = some k ∧ n = (k : Nat) ∧ k < 64 ^ 5 := by
   subst hdse; intro j n hj; match j with
   | 0 => cases hj; exact ⟨o, rfl, rfl, by exact a191 ho⟩
   | 1 => cases hj; exact ⟨g, rfl, rfl, by exact a190 hg⟩
   | 2 => cases hj; exact ⟨mf, rfl, rfl, hmf⟩
   | 3 => cases hj; exact ⟨d, rfl, rfl, by exact a189 hd⟩
   | k + 4 => simp at hj
 refine lc2_go_to (y := aa "octets") B T [] ["number", "octet"] (fun i xs _ => d6 xs (((ds.take i).flatMap fun n => nn 4 n 0).map aZ)) (fun _ _ _ _ _ h => h) ⟨rfl, by decide +kernel, by decide +kernel, by walk_at "ce", rfl, by show fQ [aa "number", aa "octet"]; decide +kernel⟩ (fun _ _ => rfl) .nil (by walk_at "has") ?_ ?_
 · rintro j v c1 cenv L2 acc γ1 m1 xs s hj hE hm1 hv hz B; simp only [ag, b6, aY, bi] at B; obtain ⟨n, tn, hn, rfl⟩ := kD hvs hv; obtain ⟨k, hk, rfl, hkb⟩ := hds j n hn; refine af ?_; walk_at "st"; walk_at "sts"; refine c_octets 4 (n := (k : Nat)) (f := 0) (by decide) (a12) (by have : (64 : Int) ^ (4 + 1) = ((64 ^ 5 : Nat) : Int) := rfl; rw [this]; exact a188 hkb) (hR'.less (a187) (a186)) B.bef ?_; intro r m2 s2 f2 hr; replace B := B.aft f2; have e := rW 4 k 0; rw [show ((0 : Nat) : Int) = 0 from rfl] at e
   rw [e] at hr; refine x12 (B.koI hr) fun us hku hui => ?_; have hul := jM hui; have hll := (nU 4 k 0).2; rw [al] at hul; have hxl := jM hz; rw [al] at hxl; have hxr := pR 4 (ds.take j); have hxt : (ds.take j).length ≤ 4 := by rw [bq]; exact ad (bV _ _) (bd (by rw [hdse]; rfl))
   apply jJ B hR'.handled hku; intro I2 s B T2; refine si B T2 (fun j v _ => ∃ t, v = .int (((nn 4 k 0).map aZ).getD j 0) t) (by rw [aD]; (first | lia | omega)) ?_ ?_
   · intro j2 v2 c2 γ3 m3 nw3 s hj hm3 hv2 hnw B; replace B : Bd w c2 γ3 m3 cenv [L2] [⟨"number", none, none⟩, ⟨"octet", none, none⟩] nw3 s := B; obtain ⟨xj, tj, hxj, rfl⟩ := kD hui hv2; refine af ?_; walk_at "st"; refine kU ⟨rfl, ?_⟩; walk_at "sts"; exact oX B .rfl (fun _ _ => ⟨tj, by rw [ab, hxj]; rfl⟩) rfl
   intro γ3 m3 ys s hm3 hys B; have hyi := B.ints hys; refine ⟨γ3, m3, _, ys, f2.le.trans hm3, ?_, ?_, B⟩
   · rw [bK, hk, fe, aM]; refine qc hz ?_; have : (ae us.length).map (fun i => ((nn 4 k 0).map aZ).getD i 0) = (nn 4 k 0).map aZ := by
       have := jI (l := (nn 4 k 0).map aZ) (d := 0) (f := fun x => x) (n := us.length) (by rw [al]; exact a184 hul); exact this.trans (cZ _)
     rw [this] at hyi; simpa using hyi
   rfl
 intro γ3 m3 xs oc ρ s hm3 hk3 hxs hV B; have hdl : ds.length = 4 := by rw [hdse]; rfl
 have hrl := pR 4 ds; rw [show vs.length = ds.length from hvl.trans hdl.symm, c4] at hxs
 have hdv : ∀ n ∈ ds, n < 64 ^ (4 + 1) := by
   intro n hn; rw [hdse] at hn; simp only [b9, cH, or_false] at hn; rcases hn with rfl | rfl | rfl | rfl <;> (first | lia | omega)
 generalize hrow : (ds.flatMap fun n => nn 4 n 0) = row at hxs hrl; have hxl := jM hxs; rw [al] at hxl; walk_at "sts"; refine jH B [⟨"first", some (L + 1), some (.int (f : Nat) tf)⟩] (by walk_at "cs") rfl rfl rfl ?_; walk_at "sts"; apply kN B hR'.handled (B.ko hk3); intro I s B T; refine ln B T [⟨"first", some (L + 1), some (.int (f : Nat) tf)⟩] ["place", "octet"] (fun j v _ => ∃ t, v = .int (((j5 f row).map aZ).getD j 0) t) ⟨rfl, rfl, rfl, by walk_at "cs", rfl, rfl⟩ ?_ ?_ ?_
 · rw [aD]; show xs.length ≤ _; (first | lia | omega)
 · intro j v c2 cenv L3 γ4 m4 own ρ nw3 s hj hE hm4 hv hC hM B Qx hK; obtain ⟨T, tj, x, rfl, hx, hT⟩ := hv; obtain ⟨num, tn, hn2, rfl⟩ := kD hxs (by simpa using hx); obtain ⟨x, hx2, rfl⟩ := bN.mp (by rwa [ar] at hn2); refine kE B hR'.handled hT rfl rfl ?_; clear B; intro s B; refine ak (af ?_); walk_at "st"; refine ak (af ?_); walk_at "st"; refine aL ?_; have hmul : ∀ z : Int, IntMulOk 128 z := fun z => .of_left (by decide +kernel); walk_at "sts"; refine i_mul B (hmul _) ?_; clear B; intro tk s B; walk_at "sts"; have e : aZ x + 128 * ((f : Int) + (j : Nat)).fmod 2 = ((j5 f row).map aZ).getD j 0 := by
     rw [ab, ar, nB, hx2, dc _ (by decide)]; show _ = aZ (x + 128 * ((f + j) % 2))
     simp only [eU]; exact a185
   rw [e]; exact hK.go (by walk_at "tn") B .rfl (fun _ _ => ⟨_, rfl⟩)
 intro γ4 m4 ys r4 s hm4 hk4 hys B; have hyi := B.ints hys; rw [show (ae xs.length).map (fun j => ((j5 f row).map aZ).getD j 0) = (j5 f row).map aZ from (jI (l := (j5 f row).map aZ) (d := 0) (f := fun x => x) (n := xs.length) (by rw [al, kT]; exact a184 hxl)).trans (cZ _)] at hyi
 have hLI : Kn m4 (LI r4 ((nI 4 f ds).flatten.map aZ)) := by
   rw [mn, hrow]; exact fun hp ok => ⟨ys, hk4 hp ok, hyi⟩
 walk_at "sts"; obtain ⟨mp, ⟨oW, es, ep, hoW, hWd, _⟩, _⟩ := B.vars.ns; have hloc : env.locals = L := hE.locals; rw [hloc] at hoW; refine c_numbers (oW := oW) (segs := nI 4 f ds) (qB 4 (by decide) f ds) (by rw [mn, hrow, kT]; (first | lia | omega)) (hR'.less (a183) (a182)) W.frames B.vars.kind W.frame hoW (fun vs => by rw [hWd]; exact fun h => nomatch h) (B.out L (an.mpr (.inl (hloc ▸ B.vars.loc)))).1 B.bef hLI ?_
 intro r5 m5 s5 f5 hup hk5; have hk6 : Kn m5 (LI r5 (ds.map aZ)) := by
   have := ph 4 f ds hdv; rw [← this, aT]; exact hk5
 replace B := B.aftX f5 (nw' := []) (fun a ha => .inl (by rw [hloc]; exact mSg ha)) (fun _ => by rw [hloc]; obtain ⟨o, ho, sl, he⟩ := hup; exact ⟨oW, o, hoW, ho, by rw [he]⟩) (fun p hp => nomatch hp) .nil (fun p hp => nomatch hp); walk_at "st"; walk_at "st"; rw [hdse] at hk6; exact h oc r5 _ _ m5 s (hm3.trans (hm4.trans f5.le)) htk hk6 (by walk_at "ow") (by walk_at "mem") B
end
end
section
theorem and_bitN (f i : Nat) : ((f / 2 ^ i * 2 ^ i) &&& 2 ^ i) = if f.testBit i then 2 ^ i else 0 := by
 apply gx; intro j; rw [iE, jb, gF, Nat.testBit_div_two_pow]; by_cases h : i = j
 · subst h; simp
   cases f.testBit i <;> simp
 simp [h]
 cases f.testBit i <;> simp [h, gF]
theorem bit_step (f i : Nat) : f / 2 ^ i = 2 * (f / 2 ^ (i + 1)) + (f.testBit i).toNat := by
 rw [eC, d9, ← Nat.div_div_eq_div_mul]; have := Nat.div_add_mod (f / 2 ^ i) 2; rcases iU (f / 2 ^ i) with h | h <;> simp [h] <;> (first | lia | omega)
theorem bit_rest (f i : Nat) : f / 2 ^ i * 2 ^ i = f / 2 ^ (i + 1) * 2 ^ (i + 1) + if f.testBit i then 2 ^ i else 0 := by
 rw [bit_step f i, d9]; generalize 2 ^ i = p; generalize f / (p * 2) = q; cases f.testBit i
 · simp [ft, i9, Nat.mul_left_comm]
 simp [ft, i9, Nat.mul_left_comm, Nat.add_mul, Nat.mul_add]
theorem tH {f i j : Nat} (h : f / 2 ^ i = 0) (hj : i ≤ j) : f.testBit j = false := by
 have : f < 2 ^ j := by
   have h1 : f < 2 ^ i := (Nat.div_eq_zero_iff_lt (fT i)).mp h; exact ao h1 (b0 (by decide) hj)
 exact eB this
theorem bits_all {f i : Nat} (h : f / 2 ^ i = 0) (hi : i ≤ 32) : ((ae 32).filter fun i => f.testBit i) = (ae i).filter fun i => f.testBit i := by
 have e : (32 : Nat) = i + (32 - i) := a83 hi
 rw [e, List.range_add, cI]; have : ((ae (32 - i)).map (i + ·)).filter (fun i => f.testBit i) = [] := by
   rw [dG]; intro j hj; obtain ⟨k, _, rfl⟩ := mMa hj; rw [tH h (a82)]; decide
 rw [this, bE]
theorem bits_succ (f i : Nat) : ((ae (i + 1)).filter fun i => f.testBit i) = (ae i).filter (fun i => f.testBit i) ++ if f.testBit i then [i] else [] := by
 rw [eV, cI]; congr 1
 rw [bH]; split <;> simp
section
variable {w : World}
noncomputable def flagRow (i : Nat) : Int × fR := (((2 ^ i : Nat) : Int), .str (flagNames.getD i aj))
noncomputable def flagRows : List (Int × fR) := (ae 10).map flagRow
theorem sm {h : Heap} (G : Frag.In (KH w.params) h) : KTD.Keyed h 60 flagRows :=
 KTD.keyed_of_look (get := fun a => (KH w.params).lookup a) G (by rfl)
noncomputable def jR (f : Nat) : Str := if f = 0 then aa "0x0" else dC (aa ", ") (((ae 32).filter fun i => f.testBit i).map jD)
theorem flag_name : ∀ i : Fin 32, (PySem.Spec.lookup (iq ((2 ^ i.val : Nat) : Int)) (flagRows.map fun p => (iq p.1, p.2))).getD (.str (baseText "0x" 16 ((2 ^ i.val : Nat) : Int))) = .str (jD i.val) := by
 intro i; have : ∀ i : Fin 32, (match (PySem.Spec.lookup (iq ((2 ^ i.val : Nat) : Int)) (flagRows.map fun p => (iq p.1, p.2))).getD (.str (baseText "0x" 16 ((2 ^ i.val : Nat) : Int))) with | .str x => x == jD i.val | _ => false) = true := by decide +kernel
 have h := this i; split at h
 · rename_i x e
   rw [e, beq_iff_eq.mp h]
 cases h
theorem hex_len : ∀ i : Fin 32, (baseText "0x" 16 ((2 ^ i.val : Nat) : Int)).length ≤ 100 := by decide +kernel
theorem mK : ∀ i : Fin 32, (jD i.val).length ≤ 30 := by decide +kernel
theorem and_bit (f i : Nat) : dR ((f / 2 ^ i * 2 ^ i : Nat) : Int) ((2 ^ i : Nat) : Int) = ((if f.testBit i then 2 ^ i else 0 : Nat) : Int) := by
 rw [← and_bitN]; exact bitAnd_pp (bm _) (bm _)
theorem qt (f : Nat) (hf : f < 2 ^ 32) {A : au} {m : Mp} {s : Shared} {t : Tok} {Q E : VP} (hR : Rm A 1 4) (b : Bef w m s)
   (h : ∀ t m' s', Aft [] m s m' s' → Q (.str (jR f) t) s') :
   wpAny (model PG w) A (call (.ref 67) [.int (f : Nat) t]) Q E s := by
 refine nh (d := 0) (u := 1) (nw := []) (ns := ["flags", "names", "i", "flag"]) (ρ₀ := [⟨"flags", none, some (.int (f : Nat) t)⟩, ⟨"names", none, none⟩, ⟨"i", none, none⟩, ⟨"flag", none, none⟩]) hR b .nil rfl rfl rfl rfl rfl rfl rfl rfl rfl rfl (by decide +kernel) (by rfl) (by decide +kernel) (by decide +kernel) rfl ?_; intro A env L c s' hE hR' hc B hL; walk_at "opq"; walk_at "sts"; walk_at "nL"; intro r s B; walk_at "sts"; apply kA (k := 32) B hR'.handled (by decide +kernel); intro I s B T; have word_sum : ∀ is : List Nat, (∀ i ∈ is, i < 32) → ((is.map jD).map (·.length)).sum ≤ 30 * is.length := by
   intro is; induction is with
   | nil => intro _; simp
   | cons x r ih =>
     intro hx; have h1 := ih fun y hy => hx y (.tail _ hy); have h2 := mK ⟨x, hx x (.head _)⟩; simp only [ag, bx, ay]; simp only at h2; exact a81 h1 h2
 refine c9 (oP (x₀ := []) (fun vs => [(r, jB vs)]) B T ["flags", "i", "flag"] (fun i m' ρ vs => (f ≠ 0 → f / 2 ^ i ≠ 0) ∧ ∃ tf : Tok, (⟨"flags", none, some (.int ((f / 2 ^ i * 2 ^ i : Nat) : Int) tf)⟩ : VE) ∈ ρ ∧ cg vs (((ae i).filter fun i => f.testBit i).map jD)) ?_ ?_ ?_) (fun _ _ x => x)
 · exact ⟨by simp, t, by rw [show ((f / 2 ^ 0 * 2 ^ 0 : Nat) : Int) = (f : Nat) from by simp]; walk_at "mem", .nil⟩
 · clear B T; rintro i v c1 γ1 m1 ρ s vs hi how ⟨hnz, tf, rm, hvs⟩ hm1 hv B hback Qb hN hB hQ; obtain ⟨ti, rfl⟩ := hv; refine af ?_; walk_at "sts"; have e1 : (1 : Int) * 2 ^ (i : Int).toNat = ((2 ^ i : Nat) : Int) := by rw [bf]; simp
   rw [e1] at hV ⊢; rw [and_bit]; have hbs := bits_succ f i; have hbr := bit_rest f i; have hfl : ((ae i).filter fun i => f.testBit i).length ≤ 32 := by
     have := eF (fun i => f.testBit i) (ae i); rw [dQ] at this; exact a80 hi this
   have hlen : vs.length ≤ aS := by
     have := jE hvs; rw [al] at this; rw [aD]; exact a79 hfl this
   have hp := fT i; refine ky (fun hb => ?_) (fun hb => ?_)
   · have hbit : f.testBit i = true := by
       cases hq : f.testBit i with
       | true => rfl
       | false => rw [hq] at hb; simp at hb
     rw [hbit] at hbs hbr; simp only [if_true] at hbs hbr; walk_at "sts"; refine getMethod_intTab_get (sm (B.kn B.gr).k (model PG w).prog w) ?_; walk_at "sts"; refine P.hex_of_int ?_ (by rw [aD]; have := hex_len ⟨i, hi⟩; simp only at this; exact a78 this); replace B := B.tk s.drawn (s.toks + 1); walk_at "sts"; refine call_get2_intTab (sm (B.kn B.gr).k (model PG w).prog w) (PyProof.V.Flat.str _ _) fun v hv => ?_; have hnm := flag_name ⟨i, hi⟩; simp only at hnm; rw [hnm] at hv; obtain ⟨tw, rfl⟩ := PyProof.V.Flat.str_inv hv; replace B := B.tk s.drawn (s.toks + 1 + 1); walk_at "sts"; refine kL B .head hlen ?_; clear B; intro s B; walk_at "sts"; have exor : im ((f / 2 ^ i * 2 ^ i : Nat) : Int) ((2 ^ i : Nat) : Int) = ((f / 2 ^ (i + 1) * 2 ^ (i + 1) : Nat) : Int) := by
       rw [bitXor_and, and_bit, hbit, hbr]; simp only [if_true]; exact a77
     rw [exor] at hV ⊢; have hpp := fT (i + 1); refine ky (fun hz => ?_) (fun hz => ?_)
     · have hz0 : f / 2 ^ (i + 1) = 0 := by
         have h1 : ((f / 2 ^ (i + 1) * 2 ^ (i + 1) : Nat) : Int) = 0 := by
           by_cases q : ((f / 2 ^ (i + 1) * 2 ^ (i + 1) : Nat) : Int) = 0
           · walk_at "qs"; exact q
           rw [show (((f / 2 ^ (i + 1) * 2 ^ (i + 1) : Nat) : Int) != 0) = true from bne_iff_ne.mpr q] at hz; cases hz
         have h2 : f / 2 ^ (i + 1) * 2 ^ (i + 1) = 0 := a76 h1
         rcases iG.mp h2 with q | q
         · walk_at "qs"; exact q
         (first | lia | omega)
       have hf0 : f ≠ 0 := fun e => by rw [e, bI] at hbit; cases hbit
       walk_at "sts"; refine hB _ ?_; walk_at "sts"; refine mP B (B.at (.head _)) (kK hvs (.cons _ _ .nil)) ?_ ?_
       · have := word_sum ((ae (i + 1)).filter fun i => f.testBit i) (fun j hj => by have := az.mp (bl.mp hj).1; exact a75 hi this); rw [hbs, aM] at this; have h2 : (aa ", ").length = 2 := by decide +kernel
         rw [h2]; simp only [ag, b6, aw, ay, bU, al] at this ⊢; exact a74 hfl this
       clear B; intro t2 s B; have := h t2 m1 _ ((hback.go B).done hc .nil jC); have e : jR f = dC (aa ", ") (((ae i).filter fun i => f.testBit i).map jD ++ [jD i]) := by
         unfold jR; rw [if_neg hf0, bits_all hz0 (by exact hi), hbs, aM]; rfl
       rw [e] at this; walk_at "qs"; exact this
     walk_at "sts"; walk_at "qs"; refine hN _ m1 _ _ _ (by walk_at "ow") ⟨fun h0 he => ?_, _, by walk_at "mem", by rw [hbs, aM]; exact kK hvs (.cons _ _ .nil)⟩ .rfl B; rw [he, Nat.zero_mul] at hz; cases hz
   have hbit : f.testBit i = false := by
     cases hq : f.testBit i with
     | false => rfl
     | true => rw [hq] at hb; simp at hb; exact absurd hb (Int.ne_of_gt (Int.pow_pos (by decide)))
   rw [hbit] at hbs hbr; simp only [gJ, if_false, fS, bE] at hbs hbr; walk_at "sts"; walk_at "qs"; refine hN _ m1 _ _ vs (by walk_at "ow") ⟨fun h0 he => ?_, tf, by rw [← hbr]; walk_at "mem", by rw [hbs]; exact hvs⟩ .rfl B; rw [he, Nat.zero_mul] at hbr; walk_at "qs"; exact hnz h0 (by rcases iG.mp hbr with q | q <;> (first | lia | omega))
 clear B T; rintro γ1 m1 ρ s vs how ⟨hnz, tf, rm, hvs⟩ hm1 B; have hf0 : f = 0 := by
   by_cases q : f = 0
   · walk_at "qs"; exact q
   walk_at "qs"; exact absurd (Nat.div_eq_of_lt hf) (hnz q)
 subst hf0; have e0 : (((ae 32).filter fun i => Nat.testBit 0 i).map jD) = [] := by decide +kernel
 rw [e0] at hvs; cases hvs
 have e1 : ((0 / 2 ^ 32 * 2 ^ 32 : Nat) : Int) = 0 := by decide
 rw [e1] at rm; walk_at "sts"; refine P.hex_of_int ?_ (by rw [aD]; decide +kernel); replace B := B.tk s.drawn (s.toks + 1); walk_at "sts"; refine kL B .head (by rw [aD]; decide) ?_; clear B; intro s B; walk_at "sts"; refine mP B (B.at (.head _)) (.cons _ _ .nil) (by decide +kernel) ?_; clear B; intro t2 s B; have := h t2 m1 _ (B.done hc .nil jC); have e : jR 0 = dC (aa ", ") [baseText "0x" 16 0] := by decide +kernel
 rw [e] at this; walk_at "qs"; exact this
end
end
section
open PySem.Builtin
noncomputable def ki (c e : Nat) : List (List Nat) → List Nat
 | [] => []
 | [w] => w
 | w :: v :: r => w ++ c :: e :: ki c e (v :: r)
noncomputable def mi : List (List Nat) → Nat → List Nat
 | [], _ => []
 | [_], _ => []
 | w :: v :: r, k => (k + w.length) :: mi (v :: r) (k + w.length + 2)
theorem sub2 (x : Str) (c e i : Nat) (hi : i + 1 < x.length) : Str.subAt x ⟨#[c, e]⟩ i = decide (x.cps.toList[i]? = some c ∧ x.cps.toList[i + 1]? = some e) := by
 have h0 : i < x.cps.size := by unfold du at hi; exact a148 hi
 have h1 : i + 1 < x.cps.size := hi; have ea : x.cps.extract i (i + (⟨#[c, e]⟩ : Str).length) = #[x.cps[i], x.cps[i + 1]] := by
   apply dw.mp; have h2 : i < x.cps.toList.length := by rw [eY]; exact h0
   have h3 : i + 1 < x.cps.toList.length := by rw [eY]; exact h1
   rw [dl, cE, show i + (⟨#[c, e]⟩ : Str).length - i = 2 from by have : (⟨#[c, e]⟩ : Str).length = 2 := rfl; exact a381 this, bp h2, bp h3]
   rfl
 unfold Str.subAt; rw [ea, dM, dM, cB h0, cB h1]; by_cases q0 : x.cps[i] = c
 · by_cases q1 : x.cps[i + 1] = e
   · rw [q0, q1]; simp
   simp [q0, q1]
 simp [q0]
theorem sub2_no (x : Str) (c e i : Nat) (h : x.cps.toList[i]? ≠ some c) : Str.subAt x ⟨#[c, e]⟩ i = false ∨ ¬ i + (⟨#[c, e]⟩ : Str).length ≤ x.length := by
 have h2 : (⟨#[c, e]⟩ : Str).length = 2 := rfl; by_cases q : i + 1 < x.length
 · left; rw [sub2 x c e i q]; exact decide_eq_false fun z => h z.1
 right; exact a380 h2 q
theorem nV (x : Str) (c e lim : Nat) : ∀ (n k : Nat) (st : Array Nat × Nat), (∀ i, k ≤ i → i < k + n → x.cps.toList[i]? ≠ some c) → (bC k n).foldl (j1 x ⟨#[c, e]⟩ x.length lim) st = st
 | 0, k, st, h => rfl
 | n + 1, k, st, h => by
   rw [fJ, aR]; have : j1 x ⟨#[c, e]⟩ x.length lim st k = st := by
     unfold j1; rw [if_neg]; rcases sub2_no x c e k (h k (ap _) (a379)) with q | q
     · rw [q, cQ]; exact ax
     rw [decide_eq_false q, cQ, cP]; exact ax
   rw [this]; exact nV x c e lim n (k + 1) st fun i h1 h2 => h i (a340 h1) (a378 h2)
theorem qG (x : Str) (c e lim : Nat) (hce : e ≠ c) (hlim : x.length < lim) : ∀ (ws : List (List Nat)) (pre : List Nat) (arr : Array Nat) (free : Nat), (∀ w ∈ ws, c ∉ w) → x.cps.toList = pre ++ ki c e ws → arr.size ≤ pre.length → free ≤ pre.length →
   ((bC pre.length (x.length + 1 - pre.length)).foldl (j1 x ⟨#[c, e]⟩ x.length lim) (arr, free)).1.toList = arr.toList ++ mi ws pre.length
 | [], pre, arr, free, hw, hx, ha, hf => by
   rw [nV x c e lim]
   · simp [mi]
   intro i h1 h2; rw [hx]; simp only [ki, bE]; rw [eH h1]; exact fun h => nomatch h
 | [w], pre, arr, free, hw, hx, ha, hf => by
   rw [nV x c e lim]
   · simp [mi]
   intro i h1 h2 h3; rw [hx, bb h1] at h3; exact hw w (.head _) (av h3)
 | w :: v :: r, pre, arr, free, hw, hx, ha, hf => by
   have hx1 : x.cps.toList = pre ++ (w ++ c :: e :: ki c e (v :: r)) := hx; have hl : x.length = pre.length + (w.length + ((ki c e (v :: r)).length + 2)) := by rw [kP, hx1]; simp
   have hx2 : x.cps.toList = (pre ++ w ++ [c, e]) ++ ki c e (v :: r) := by rw [hx1]; simp
   have hpl : (pre ++ w ++ [c, e]).length = pre.length + w.length + 2 := by simp; exact a364
   have hfit : pre.length + w.length + (⟨#[c, e]⟩ : Str).length ≤ x.length := by
     have h2 : (⟨#[c, e]⟩ : Str).length = 2 := rfl; exact a377 hl h2
   have gc : x.cps.toList[pre.length + w.length]? = some c := by
     rw [hx1, bb (a82), bb (a376)]; rw [show pre.length + w.length - pre.length - w.length = 0 from by exact a375]; rfl
   have ge : x.cps.toList[pre.length + w.length + 1]? = some e := by
     rw [hx1, bb (a374), bb (a373)]; rw [show pre.length + w.length + 1 - pre.length - w.length = 1 from by exact a372]; rfl
   have er : bC pre.length (x.length + 1 - pre.length) = bC pre.length w.length ++ ((pre.length + w.length) :: (pre.length + w.length + 1) :: bC (pre.length + w.length + 2) (x.length + 1 - (pre.length + w.length + 2))) := by
     rw [show x.length + 1 - pre.length = w.length + (x.length + 1 - (pre.length + w.length + 2) + 1 + 1) from by exact a371 hl, ← gi, fJ, fJ]
   rw [er, ct, nV x c e lim]
   · rw [aR, aR]; have e1 : j1 x ⟨#[c, e]⟩ x.length lim (arr, free) (pre.length + w.length) = (arr.push (pre.length + w.length), pre.length + w.length + 2) := by
       unfold j1; rw [if_pos]
       · rfl
       rw [sub2 x c e _ (a370 hl), decide_eq_true (show arr.size < lim from by exact a369 hlim ha hl), decide_eq_true (show free ≤ pre.length + w.length from by exact a368 hf), decide_eq_true hfit, decide_eq_true ⟨gc, ge⟩]
       rfl
     have e2 : j1 x ⟨#[c, e]⟩ x.length lim (arr.push (pre.length + w.length), pre.length + w.length + 2) (pre.length + w.length + 1) = (arr.push (pre.length + w.length), pre.length + w.length + 2) := by
       unfold j1; rw [if_neg]; rw [decide_eq_false (show ¬ pre.length + w.length + 2 ≤ pre.length + w.length + 1 from by exact a367), cQ, cP, cP]
       exact ax
     rw [e1, e2]; have := qG x c e lim hce hlim (v :: r) (pre ++ w ++ [c, e]) (arr.push (pre.length + w.length)) (pre.length + w.length + 2) (fun z hz => hw z (.tail _ hz)) hx2 (by rw [Array.size_push, hpl]; exact a366 ha) (by rw [hpl]; exact ap _); rw [hpl] at this; rw [this]; simp [mi]
   intro i h1 h2 h3; rw [hx1, bb h1, dj (a365 h1 h2)] at h3; exact hw w (.head _) (av h3)
theorem oG (x : Str) (c e : Nat) : ∀ (ws : List (List Nat)) (pre : List Nat), ws ≠ [] → x.cps.toList = pre ++ ki c e ws →
   (((pre.length :: (mi ws pre.length).map (· + 2)).zip (mi ws pre.length ++ [x.length])).map fun (i, j) => Str.strSub x i j) = ws.map fun l => ⟨l.toArray⟩
 | [], pre, hn, hx => absurd rfl hn
 | [w], pre, hn, hx => by
   have hl : x.length = pre.length + w.length := by rw [kP, hx]; simp [ki]
   show [Str.strSub x pre.length x.length] = [_]
   congr 1
   unfold Str.strSub; congr 1
   apply dw.mp; rw [dl, cE, hx, hl, cO (ap _), eJ]; simp [ki]
 | w :: v :: r, pre, hn, hx => by
   have hx1 : x.cps.toList = pre ++ (w ++ c :: e :: ki c e (v :: r)) := hx; have hx2 : x.cps.toList = (pre ++ w ++ [c, e]) ++ ki c e (v :: r) := by rw [hx1]; simp
   have hpl : (pre ++ w ++ [c, e]).length = pre.length + w.length + 2 := by simp; exact a364
   have := oG x c e (v :: r) (pre ++ w ++ [c, e]) (by simp) hx2; rw [hpl] at this; simp only [mi, ag, aY, jt]; rw [show (Str.strSub x pre.length (pre.length + w.length)) = ⟨w.toArray⟩ from by
     unfold Str.strSub; congr 1
     apply dw.mp; rw [dl, cE, hx1, cO (ap _), eJ]; simp]
   congr 1
theorem q5 (x : Str) (c e : Nat) (hce : e ≠ c) (hc : c < 256) (he : e < 256) (ws : List (List Nat)) (hn : ws ≠ []) (hw : ∀ w ∈ ws, c ∉ w) (hx : x.cps.toList = ki c e ws) : cz x ⟨#[c, e]⟩ = ws.map fun l => ⟨l.toArray⟩ := by
 have ho : Str.occurrences x ⟨#[c, e]⟩ 0 x.length (x.length + 1) = mi ws 0 := by
   rw [pY]; have := qG x c e (x.length + 1) hce (a363) ws [] #[] 0 hw (by rw [hx]; rfl) (ap _) (ap _); simpa using this
 have hp := oG x c e ws [] hn (by rw [hx]; rfl); have hself : mi ws 0 = [] → [x] = ws.map fun l => ⟨l.toArray⟩ := fun he => by
   rw [bU, he] at hp; rw [← hp]; show [x] = [Str.strSub x 0 x.length]
   congr 1
   unfold Str.strSub du; rw [jp]
 unfold cz; rw [ho]; split
 · rename_i h
   refine hself ?_; simp only [cA, decide_eq_true_eq] at h; rcases h with h | h
   · rcases ws with _ | ⟨w, _ | ⟨v, r⟩⟩
     · exact absurd rfl hn
     · rfl
     exfalso
     have : x.length = (ki c e (w :: v :: r)).length := by rw [kP, hx]
     simp only [ki, aw, ay] at this; have h2 : (⟨#[c, e]⟩ : Str).length = 2 := rfl; exact a362 h this h2
   exfalso
   have h1 : Str.strKind ⟨#[c, e]⟩ = 1 := by unfold Str.strKind; simp [hc, he]
   rw [h1] at h; unfold Str.strKind at h; split at h
   · exact a328 h
   split at h <;> (first | lia | omega)
 split
 · rename_i h
   exact hself (dz.mp h)
 exact hp
end
section
noncomputable def lO (f k : Nat) : List Str := ((ae 5).filter fun j => k.testBit j).map fun j => jD (f + j)
theorem tG : ∀ f : Nat, f < 24 → ∀ k : Nat, k < 32 → (ae 32).filter (fun i => (k <<< f).testBit i) = ((ae 5).filter fun j => k.testBit j).map fun j => f + j := by decide +kernel
theorem k0 {f k : Nat} (hf : f < 24) (hk : k < 32) : jR (k <<< f) = if k = 0 then aa "0x0" else dC (aa ", ") (lO f k) := by
 unfold jR lO; rw [tG f hf k hk, aT]; by_cases q : k = 0
 · rw [if_pos q, if_pos (by rw [q, Nat.zero_shiftLeft])]
 rw [if_neg q, if_neg (by
   intro e; rw [dD] at e; rcases iG.mp e with h | h
   · exact q h
   exact absurd h (Nat.pos_iff_ne_zero.mp (fT f)))]
 rfl
theorem nN (c e : Nat) : ∀ (r : List Str) (acc : Array Nat), (r.foldl (fun acc p => acc ++ (⟨#[c, e]⟩ : Str).cps ++ p.cps) acc).toList = acc.toList ++ (r.map fun y => c :: e :: y.cps.toList).flatten
 | [], acc => by simp
 | x :: r, acc => by
   rw [aR, nN c e r, ag, cu]; simp
theorem oK (c e : Nat) : ∀ (w : List Nat) (r : List (List Nat)), ki c e (w :: r) = w ++ (r.map fun y => c :: e :: y).flatten
 | w, [] => by simp [ki]
 | w, v :: r => by
   rw [ki, oK c e v r, ag, cu]; simp
theorem join_cs (c e : Nat) (ys : List Str) : (dC ⟨#[c, e]⟩ ys).cps.toList = ki c e (ys.map fun y => y.cps.toList) := by
 show (eX ⟨#[c, e]⟩ ys).cps.toList = _
 unfold eX; rw [nN]; cases ys with
 | nil => rfl
 | cons y r =>
   rw [ag, oK, aT]; rfl
theorem word_no : ∀ k : Fin 32, (44 : Nat) ∉ (jD k.val).cps.toList := by decide +kernel
theorem comma : aa ", " = ⟨#[44, 32]⟩ := by decide +kernel
theorem o9 {ys : List Str} (hn : ys ≠ []) (hw : ∀ y ∈ ys, (44 : Nat) ∉ y.cps.toList) : cz (dC (aa ", ") ys) (aa ", ") = ys := by
 rw [comma, q5 _ 44 32 (by decide) (by decide) (by decide) (ys.map fun y => y.cps.toList) (by simpa using hn) (fun w h => by obtain ⟨y, hy, rfl⟩ := mMa h; exact hw y hy) (join_cs 44 32 ys), aT]; conv => rhs; rw [← eR ys]
 rfl
theorem picks_no {f k : Nat} (hf : f < 24) : ∀ y ∈ lO f k, (44 : Nat) ∉ y.cps.toList := by
 intro y hy; obtain ⟨j, hj, rfl⟩ := mMa hy; have := az.mp (bl.mp hj).1; exact word_no ⟨f + j, by exact a179 hf this⟩
theorem picks_ne {f k : Nat} (hk : k < 32) (h0 : k ≠ 0) : lO f k ≠ [] := by
 unfold lO; intro e; have e := List.map_eq_nil_iff.mp e; exact (by decide +kernel : ∀ k : Nat, k < 32 → k ≠ 0 → ((ae 5).filter fun j => k.testBit j) ≠ []) k hk h0 e
theorem oZ {f k : Nat} (hf : f < 24) (hk : k < 32) (h0 : k ≠ 0) : cz (jR (k <<< f)) (aa ", ") = lO f k := by
 rw [k0 hf hk, if_neg h0]; exact o9 (picks_ne hk h0) (picks_no hf)
theorem sN {f : Nat} (hf : f < 24) : cz (jR (0 <<< f)) (aa ", ") = [aa "0x0"] := by
 rw [k0 hf (by decide), if_pos rfl]; have := o9 (ys := [aa "0x0"]) (by simp) (by decide +kernel); exact this
theorem occ_len (s sub : Str) (lo hi limit : Nat) : (bj s sub lo hi limit).length ≤ hi + 1 - lo := by
 rw [pY]; have : ∀ (n k : Nat) (st : Array Nat × Nat), ((bC k n).foldl (j1 s sub hi limit) st).1.size ≤ st.1.size + n := by
   intro n; induction n with
   | zero => intro k st; exact ap _
   | succ n ih =>
     intro k st; rw [fJ, aR]; have h1 := ih (k + 1) (j1 s sub hi limit st k); have h2 : (j1 s sub hi limit st k).1.size ≤ st.1.size + 1 := by
       unfold j1; split
       · rw [Array.size_push]; exact ap _
       exact eT _
     exact a272 h1 h2
 have := this (hi + 1 - lo) lo (#[], lo); rw [eY]; simpa using this
theorem cut_len (x y : Str) : (de x (bj x y 0 x.length (x.length + 1)) y.length).length ≤ x.length + 2 := by
 have := occ_len x y 0 x.length (x.length + 1); unfold de; simp only [al, List.length_zip, ay, aw, bU]; exact a361 this
theorem pC (c e : Nat) : ∀ ws : List (List Nat), (ki c e ws).length ≤ (ws.map fun w => w.length + 2).sum
 | [] => ap _
 | [w] => by simp [ki]
 | w :: v :: r => by
   have := pC c e (v :: r); rw [ag, bx]; simp only [ki, aw, ay]; exact a360 this
theorem oE (f k : Nat) : (lO f k).length ≤ 5 := by unfold lO; rw [al]; exact eF _ _
theorem rc {f k : Nat} (hf : f < 24) : ∀ y ∈ lO f k, y.length ≤ 30 := by
 intro y hy; obtain ⟨j, hj, rfl⟩ := mMa hy; have := az.mp (bl.mp hj).1; exact mK ⟨f + j, by exact a179 hf this⟩
theorem pn {f k : Nat} (hf : f < 24) (hk : k < 32) : (jR (k <<< f)).length ≤ 200 := by
 rw [k0 hf hk]; split
 · decide +kernel
 rw [comma, kP, join_cs]; refine ad (pC _ _ _) ?_; have h1 := oE f k; have h2 := rc (k := k) hf; generalize lO f k = ys at h1 h2; have : ∀ ys : List Str, (∀ y ∈ ys, y.length ≤ 30) → ((ys.map fun y => y.cps.toList).map fun w => w.length + 2).sum ≤ 32 * ys.length := by
   intro ys; induction ys with
   | nil => intro _; simp
   | cons y r ih =>
     intro hy; have h3 := ih fun z hz => hy z (.tail _ hz); have h4 := hy y (.head _); rw [kP] at h4; simp only [ag, bx, ay]; exact a359 h3 h4
 have := this ys h2; exact a358 h1 this
end
section
section
variable {w : World} {c : Cx} {γ : Array aE} {m : Mp} {env : Env} {s : Shared} {A : au} {E : VP} {Q : Flow → Shared → Prop} {L : Addr} {own : List Addr} {ρ : List VE}
theorem law_3 (W : LawE A env L) (htk : 1 ≤ s.toks) {f i o g d : Nat} {words due nm : Addr} {tf tm : Tok} (hf : f < 24) (hi : i < 12) (hws : Kn m (LS words (j7 f))) (hdue : Kn m (LI due [(o : Int), (g : Int), ((jx i <<< f : Nat) : Int), (d : Int)])) (hnm : Kn m (LI nm [(o : Int), (g : Int), ((jx i <<< f : Nat) : Int), (d : Int)]))
   (B : Bd w c γ m env own ρ [] s) (r_due : (⟨"due", none, some (.ref due)⟩ : VE) ∈ ρ) (r_numbers : (⟨"numbers", none, some (.ref nm)⟩ : VE) ∈ ρ) (r_first : (⟨"first", some (L + 1), some (.int (f : Nat) tf)⟩ : VE) ∈ ρ) (r_words : (⟨"words", some (L + 2), some (.ref words)⟩ : VE) ∈ ρ) (r_mask : (⟨"mask", some (L + 3), some (.int (jx i : Nat) tm)⟩ : VE) ∈ ρ) (r_shown : Hn (aa "shown") none ρ)
   (h : ∀ (sh : Addr) ρ' γ m' s', m.le m' → 1 ≤ s'.toks → Kn m' (LS sh [jR (31 <<< f), jR (jx i <<< f)]) →
     Ow ["shown"] ρ ρ' → (⟨"shown", none, some (.ref sh)⟩ : VE) ∈ ρ' → Bd w c γ m' env own ρ' [] s' → wpAny (model PG w) A (execs (lawBody.drop 9) env) Q E s') :
   wpAny (model PG w) A (execs (lawBody.drop 7) env) Q E s := by
 conv => arg 3; arg 1; whnf
 have hE := W.kinds; have hR' := W.room; have hu : A.units < cLine := by have := W.room.units; exact a199 this
 have hmask : jx i ≤ 30 ∧ jx i ≠ 0 := (by decide +kernel : ∀ i : Nat, i < 12 → jx i ≤ 30 ∧ jx i ≠ 0) i hi; have sh32 : ∀ k, k < 32 → k <<< f < 2 ^ 32 := by
   intro k hk; rw [dD]; have h1 : 2 ^ f ≤ 2 ^ 23 := b0 (by decide) (a193 hf); have h2 : k * 2 ^ f ≤ 31 * 2 ^ 23 := gv (a198 hk) h1; exact a197 h2
 walk_at "sts"; rw [show (31 : Int) * (2 : Int) ^ ((f : Nat) : Int).toNat = ((31 <<< f : Nat) : Int) from by rw [dD, bf]; simp]
 refine qt (31 <<< f) (sh32 31 (by decide)) (hR'.less (a178) (a177)) B.bef ?_; intro t1 m1 s1 f1; replace B := B.aft f1; walk_at "sts"; refine kI (n := ((jx i <<< f : Nat) : Int)) (B.kn (hdue.up f1.le)) (by decide) (by decide) rfl fun t2 => ?_; walk_at "sts"; refine qt (jx i <<< f) (sh32 _ (a194 hmask)) (hR'.less (a178) (a177)) B.bef ?_; intro t3 m2 s2 f2; replace B := B.aft f2; walk_at "sts"; walk_at "nl"; intro sh m3 s hm3 hsh B; have hS : Kn m3 (LS sh [jR (31 <<< f), jR (jx i <<< f)]) := hsh.map fun h x => ⟨_, x, .cons _ _ (.cons _ _ .nil)⟩; walk_at "sts"; have hle := (f1.le.trans f2.le).trans hm3; refine ne_ints hu (B.kn (hnm.up hle)) (B.kn (hdue.up hle)) ?_; walk_at "sts"; refine j6 rfl ?_; walk_at "sts"; have words_sum : ∀ is : List Nat, (∀ i ∈ is, i < 5) → ((is.map fun j => jD (f + j)).map (·.length)).sum ≤ 30 * is.length := by
   intro is; induction is with
   | nil => intro _; simp
   | cons x r ih =>
     intro hx; have h1 := ih fun y hy => hx y (.tail _ hy); have h3 := hx x (.head _); have h2 := mK ⟨f + x, by exact a179 hf h3⟩; simp only [ag, bx, ay]; simp only at h2; exact a81 h1 h2
 have pick_fits : ∀ k : Nat, ((lO f k).map (·.length)).sum + (lO f k).length * (aa ", ").length ≤ 16777216 := by
   intro k; have h1 := words_sum ((ae 5).filter fun j => k.testBit j) (fun j hj => az.mp (bl.mp hj).1); have h2 : ((ae 5).filter fun j => k.testBit j).length ≤ 5 := eF _ _; have h3 : (aa ", ").length = 2 := by decide +kernel
   rw [h3]; unfold lO; rw [al]; exact a196 h1 h2
 refine x12 (B.koS (hws.up hle)) fun vs hko hvs => ?_; refine mP (ys := lO f 31) B (B.ato hko) hvs (pick_fits 31) ?_; clear B; intro t4 s B; walk_at "sts"; refine jH B [⟨"words", some (L + 2), some (.ref words)⟩, ⟨"mask", some (L + 3), some (.int (jx i : Nat) tm)⟩] (by walk_at "cs") rfl rfl rfl ?_; walk_at "sts"; apply kA (k := 5) B hR'.handled (by decide +kernel); intro I s B T; refine mZ B T [⟨"words", some (L + 2), some (.ref words)⟩, ⟨"mask", some (L + 3), some (.int (jx i : Nat) tm)⟩] ["k"] (fun j => (jx i).testBit j) (fun j v _ => ∃ t, v = .str (jD (f + j)) t) ⟨rfl, rfl, rfl, by walk_at "cs", rfl, rfl⟩ (by decide) ?_ ?_
 · intro j v c2 cenv L2 γ2 m6 own ρ nw2 s hj hE hm6 hv hC hM B Qt hK; obtain ⟨tj, rfl⟩ := hv; refine af ?_; walk_at "st"; walk_at "sts"; refine hK.go (nY (jx i) j) (by walk_at "tn") B .rfl fun hb Qx hK => ?_; walk_at "sts"; refine lV (n := jD (f + j)) (B.kn (hws.up (hle.trans hm6))) (a12) (a195 hj) ?_ fun t5 => ?_
   · rw [bf]; unfold j7; rw [ar, bX hj]; rfl
   exact hK.go (by walk_at "tn") B .rfl (fun _ _ => ⟨_, rfl⟩)
 intro γ4 m4 ys r4 s hm4 hk4 hys B; have hyi := B.strs hys; walk_at "sts"; refine mP (ys := lO f (jx i)) B (B.kn hk4) hyi (pick_fits _) ?_; clear B; intro t5 s B; walk_at "sts"; walk_at "nl"; intro nl m5 s hm5 hnl B; have hle2 := hm4.trans hm5; refine pZ hu (B.kn (hS.up hle2)) (B.kn (P := LS nl [jR (31 <<< f), jR (jx i <<< f)]) (hnl.map fun h x => ⟨_, x, ?_⟩)) ?_
 · rw [k0 hf (by decide), k0 hf (a194 hmask), if_neg (by decide), if_neg hmask.2]; exact .cons _ _ (.cons _ _ .nil)
 walk_at "sts"; refine j6 rfl ?_; walk_at "st"; refine j6 rfl ?_; walk_at "st"; exact fun htk => h sh _ _ m5 s (hle.trans hle2) htk (hS.up hle2) (by walk_at "ow") (by walk_at "mem") B
end
end
section
section
variable {w : World} {c : Cx} {γ : Array aE} {m : Mp} {env : Env} {s : Shared} {A : au} {E : VP} {Q : Flow → Shared → Prop} {L : Addr} {own : List Addr} {ρ : List VE}
noncomputable def jG (k : Nat) : List Nat := (ae 5).filter fun j => k.testBit j
noncomputable def pP (k : Nat) : List Str := (ae 5).map fun j => if k.testBit j then aa "+" else aa "*"
noncomputable def mJ (o d : Nat) : List Str := (jO o d 6).2.2.2
noncomputable def jY (o g d k : Nat) : Str := lP ((j4 g (mJ o d) 5).2.getD 0 aj) (pP k)
theorem word_inj : ∀ a b : Fin 32, a ≠ b → (jD a.val == jD b.val) = false := by decide +kernel
theorem law_4 (W : LawE A env L) (htk : 1 ≤ s.toks) {f i o g d : Nat} {words nm sh : Addr}  (hf : f < 24) (hi : i < 12) (hws : Kn m (LS words (j7 f))) (hnm : Kn m (LI nm [(o : Int), (g : Int), ((jx i <<< f : Nat) : Int), (d : Int)])) (hsh : Kn m (LS sh [jR (31 <<< f), jR (jx i <<< f)]))
   (B : Bd w c γ m env own ρ [] s) (r_numbers : (⟨"numbers", none, some (.ref nm)⟩ : VE) ∈ ρ) (r_shown : (⟨"shown", none, some (.ref sh)⟩ : VE) ∈ ρ) (r_words : (⟨"words", some (L + 2), some (.ref words)⟩ : VE) ∈ ρ) (r_pars : Hn (aa "pars") (some (L + 4)) ρ) (o_pars : L + 4 ∈ own) (r_text : Hn (aa "text") none ρ) (r_leaves : Hn (aa "leaves") none ρ)
   (h : ∀ (pa lv : Addr) (tt : Tok) ρ' γ m' s', m.le m' → 1 ≤ s'.toks → Kn m' (LI pa ((jG (jx i)).map aZ)) → Kn m' (LS lv (mJ o d)) →
     Ow ["pars", "text", "leaves"] ρ ρ' → (⟨"pars", some (L + 4), some (.ref pa)⟩ : VE) ∈ ρ' → (⟨"leaves", none, some (.ref lv)⟩ : VE) ∈ ρ' → (⟨"text", none, some (.str (jY o g d (jx i)) tt)⟩ : VE) ∈ ρ' → Bd w c γ m' env own ρ' [] s' → wpAny (model PG w) A (execs (lawBody.drop 11) env) Q E s') :
   wpAny (model PG w) A (execs (lawBody.drop 9) env) Q E s := by
 conv => arg 3; arg 1; whnf
 refine x12 (B.koS hws) fun wvs hwo hwi => ?_; have hE := W.kinds; have hR' := W.room; have hu : A.units < cLine := by have := W.room.units; exact a199 this
 have hmask : jx i ≤ 30 ∧ jx i ≠ 0 := (by decide +kernel : ∀ i : Nat, i < 12 → jx i ≤ 30 ∧ jx i ≠ 0) i hi; walk_at "st"; refine nE B (hE.kind (by rfl)) rfl ?_; refine jH B [⟨"words", some (L + 2), some (.ref words)⟩] (by walk_at "cs") rfl rfl rfl ?_; walk_at "sts"; refine lV (n := jR (jx i <<< f)) (B.kn hsh) (by decide) (by decide) rfl fun t1 => ?_; walk_at "sts"; have hpl := pn (k := jx i) hf (a194 hmask); refine pQ (x := jR (jx i <<< f)) (y := aa ", ") B (by decide +kernel) (szl (a205 hpl)) (by have := cut_len (jR (jx i <<< f)) (aa ", "); rw [aD]; exact a204 hpl this) ?_; rw [oZ hf (a194 hmask) hmask.2]; clear B; intro sp m1 s hm1 hS B; refine x12 (B.koS hS) fun vs hko hvs => ?_; have hvl := jE hvs; have hpk := oE f (jx i); apply jJ B hR'.handled hko; intro I s B T; refine ln B T [⟨"words", some (L + 2), some (.ref words)⟩] ["word"] (fun j v _ => ∃ t, v = .int (((jG (jx i)).map aZ).getD j 0) t) ⟨rfl, rfl, rfl, by walk_at "cs", rfl, rfl⟩ (szl (a203 hvl hpk)) ?_ ?_
 · intro j v c2 cenv L2 γ2 m6 own ρ nw2 s hj hE hm6 hv hC hM B Qx hK; obtain ⟨y, tj, hy, rfl⟩ := j3 hvs hv; obtain ⟨b, hb, rfl⟩ : ∃ b, (jG (jx i))[j]? = some b ∧ jD (f + b) = y := by
     have : lO f (jx i) = (jG (jx i)).map fun j => jD (f + j) := rfl; rw [this, ar] at hy; exact bN.mp hy
   have hb5 : b < 5 := az.mp (bl.mp (av hb)).1; refine af ?_; walk_at "st"; walk_at "sts"; refine gm_index (B.ato (jQ (hm1.trans hm6) hwo)) ?_; walk_at "sts"; refine l_indexS (j := b) B (B.kn (hws.up (hm1.trans hm6))) (by show ((ae 5).map _).length ≤ _; simp) ?_ ?_ ?_
   · unfold j7; rw [ar, bX hb5]; rfl
   · intro z hz y hy; unfold j7 at hy; rw [ar, bX (a202 hb5 hz)] at hy; cases hy
     exact word_inj ⟨f + z, by exact a201 hf hb5 hz⟩ ⟨f + b, by exact a179 hf hb5⟩ (by intro e; have := congrArg Fin.val e; simp at this; exact a200 hz this)
   clear B; intro t2 s B; exact hK.go (by walk_at "tn") B .rfl (fun _ _ => ⟨_, by rw [ab, ar, hb]; rfl⟩)
 intro γ3 m3 xs pa s hm3 hk3 hxs B; have hpa : Kn m3 (LI pa ((jG (jx i)).map aZ)) := by
   have := B.ints hxs; rw [show (ae vs.length).map (fun j => ((jG (jx i)).map aZ).getD j 0) = (jG (jx i)).map aZ from (jI (l := (jG (jx i)).map aZ) (d := 0) (f := fun x => x) (n := vs.length) (by rw [al, hvl]; show _ = ((jG (jx i)).map _).length; rw [al])).trans (cZ _)] at this
   exact fun hp ok => ⟨xs, hk3 hp ok, this⟩
 have hle := hm1.trans hm3; walk_at "st"; walk_at "st"; walk_at "st"; refine Assign_Tuple ?_; walk_at "sts"; refine kI (n := (o : Int)) (B.kn (hnm.up hle)) (by decide) (by decide) rfl fun t2 => ?_; walk_at "sts"; refine kI (n := (g : Int)) (B.kn (hnm.up hle)) (by decide) (by decide) rfl fun t3 => ?_; walk_at "sts"; refine jH B [⟨"pars", some (L + 4), some (.ref pa)⟩] (by walk_at "cs") rfl rfl rfl ?_; walk_at "sts"; apply kA (k := 5) B hR'.handled (by decide +kernel); intro I s B T; refine ln B T [⟨"pars", some (L + 4), some (.ref pa)⟩] ["k"] (fun j v _ => ∃ t, v = .str (if (jx i).testBit j then aa "+" else aa "*") t) ⟨rfl, rfl, rfl, by walk_at "cs", rfl, rfl⟩ (by decide) ?_ ?_
 · intro j v c2 cenv L2 γ2 m6 own ρ nw2 s hj hE hm6 hv hC hM B Qx hK; obtain ⟨tj, rfl⟩ := hv; refine af ?_; walk_at "st"; walk_at "sts"; refine x12 (B.kn (hpa.up hm6)) fun pvs hpl hpi => ?_; refine in_list_ints hpl.list hpi ?_; have e : ((jG (jx i)).map aZ).any (· == (j : Int)) = (jx i).testBit j := by
     rw [bF, c5]; constructor
     · rintro ⟨x, hx, e⟩; obtain ⟨y, hy, rfl⟩ := mMa hx; have e2 : y = j := aZ.inj (beq_iff_eq.mp e); rw [← e2]; exact (bl.mp hy).2
     intro hb; exact ⟨(j : Nat), fo.mpr ⟨j, bl.mpr ⟨az.mpr hj, hb⟩, rfl⟩, by simp⟩
   rw [e]; walk_at "sts"; refine ky (fun hb => ?_) (fun hb => ?_)
   · walk_at "sts"; exact hK.go (by walk_at "tn") B .rfl (fun _ _ => ⟨_, by rw [if_pos hb]⟩)
   walk_at "sts"; exact hK.go (by walk_at "tn") B .rfl (fun _ _ => ⟨_, by rw [hb, if_neg ax]⟩)
 intro γ4 m4 ys sg s hm4 hk4 hys B; have hsg : Kn m4 (LS sg (pP (jx i))) := by
   have := B.strs hys; exact fun hp ok => ⟨ys, hk4 hp ok, this⟩
 walk_at "sts"; refine kI (n := (d : Int)) (B.kn (hnm.up (hle.trans hm4))) (by decide) (by decide) rfl fun t4 => ?_; walk_at "sts"; refine c_formula o g d (hR'.less (a178) (a177)) B.bef hsg (by show ((ae 5).map _).length ≤ _; simp) ?_ ?_
 · intro x hx; obtain ⟨j, _, rfl⟩ := mMa hx; split <;> decide +kernel
 intro T lv tt m5 s5 f5 hlv hT; replace B := B.aft f5; refine kE B hR'.handled (B.kn hT).tup rfl rfl ?_; clear B; intro s B; refine ak (af ?_); walk_at "st"; refine ak (af ?_); walk_at "st"; refine aL ?_; exact fun htk => h pa lv tt _ _ m5 s ((hle.trans hm4).trans f5.le) htk (hpa.up (hm4.trans f5.le)) hlv (by walk_at "ow") (by walk_at "mem") (by walk_at "mem") (by walk_at "mem") B
end
end
section
open PySem.W.X
section
variable {w : World} {A : au} {c : Code} {fs : List Frame} {s : Shared} {P : End → Shared → Prop} {env : Env} {K : Flow → Sem Fin} {H : Value → Sem Fin} {gd : Bool → Bool} {lv : List Value → List Value}
theorem oh {α : Type} {m : Sem α} {K : α → Sem Fin} {H : Value → Sem Fin} {gd lv} (h : wpAny (model PG w) (A.over c fs) m (fun a s' => SegX (model PG w) A c (K a) fs s' P) NoE s) : SegX (model PG w) A c (m.wrap K H gd lv) fs s P := by
 rintro Γ p rfl hΓ; refine x22 (runs_wrap_of_wp (Φ := fun e s' => e.quiet = true ∧ P e s') K H gd lv m (h (Γ.over fs) p (hΓ.over fs)) (fun a p' s' h' => h' Γ p' rfl hΓ) (fun x p' s' h' => h'.elim)) fun e s' hr hq => ?_; exact ⟨e, s', hr, hq⟩
theorem kX {α β : Type} {m : Sem α} {k : α → Sem β} {K : β → Sem Fin} {H : Value → Sem Fin} {gd lv} (h : wpAny (model PG w) (A.over c fs) m (fun a s' => SegX (model PG w) A c ((k a).wrap K H gd lv) fs s' P) NoE s) : SegX (model PG w) A c ((m >>= k).wrap K H gd lv) fs s P := by
 rw [eA, eN]; exact oh h
theorem sx_at {p' : Pos} {k : Unit → Sem Fin} (h : SegX (model PG w) A c (k ()) fs s P) : SegX (model PG w) A c (.at p' k) fs s P :=
 oh (m := fM p') (K := k) (H := .raise) (gd := id) (lv := id) (bP h)
theorem sx_point {l : List Value} {k : Unit → Sem Fin} (h : SegX (model PG w) A c (k ()) fs s P) : SegX (model PG w) A c (.point l k) fs s P :=
 oh (m := point) (K := k) (H := .raise) (gd := id) (lv := fun _ => l) (wpAny_point h)
theorem sx_nil (h : SegX (model PG w) A c (K .next) fs s P) : SegX (model PG w) A c ((execs [] env).wrap K H gd lv) fs s P := h
theorem kW {st : Stmt} {rest : List Stmt} (h : SegX (model PG w) A c ((exec st env).wrap (fun f => match f with | .next => (execs rest env).wrap K H gd lv | f => K f) H gd lv) fs s P) :
   SegX (model PG w) A c ((execs (st :: rest) env).wrap K H gd lv) fs s P := by rw [execs_cons_wrap]; exact h
theorem pN {st : Stmt} (h : wpAny (model PG w) (A.over c fs) (exec st env) (fun f s' => SegX (model PG w) A c (K f) fs s' P) NoE s) : SegX (model PG w) A c ((exec st env).wrap K H gd lv) fs s P := oh h
theorem sx_If {test : Expr} {body orelse : List Stmt} {pos : Pos} (h : wpAny (model PG w) (A.over c fs) (isTrue test env (eval test env)) (fun b s' => if b = true then SegX (model PG w) A c ((execs body env).wrap K H gd lv) fs s' P else SegX (model PG w) A c ((execs orelse env).wrap K H gd lv) fs s' P) NoE s) :
   SegX (model PG w) A c ((exec (.If test body orelse pos) env).wrap K H gd lv) fs s P := by
 rw [exec_If]; refine kX (bP (kX (am h (fun b s' h => ?_) fun _ _ x => x))); cases b <;> exact h
theorem pO {e : Expr} {ypos pos : Pos} (hfs : splitAtGen fs = none) (hgd : gd false = false) (hfg : fs.any Frame.guarded = false)
   (h : wpAny (model PG w) (A.over c fs) (eval e env) (fun v s' => ∀ l k p, (∀ s'' P', SegX (model PG w) A c (K .next) fs s'' P' → SegX (model PG w) A c (k (.send .none)) fs s'' P') → P (.susp v false l k c p fs) s') NoE s)
   (hco : env.scope.isCoroutine = false) (hi : interactive env = false := by rfl) :
   SegX (model PG w) A c ((exec (.Expr (.Yield (some e) ypos) pos) env).wrap K H gd lv) fs s P := by
 rw [exec_Expr env _ pos hi rfl]; show SegX _ A c (.at pos fun _ => ((eval e env >>= fun v => (fM ypos >>= fun _ => yieldOut env v)) >>= fun x => dropValue (.Yield (some e) ypos) pos x).wrap K H gd lv) fs s P
 have hy : ∀ v, yieldOut env v = yieldValue v := fun v => by simp only [yieldOut, hco, gJ, if_false]
 simp only [hy]; refine sx_at ?_; rw [eA, eA, eN, eN]; refine oh (am h (fun v s' h' => ?_) fun _ _ x => x); refine sx_at ?_; show SegX _ A c (.yield v (gd false) _ _) fs s' P
 rw [hgd]; exact s_yield PG w A c fs P s' v _ _ hfs hfg fun p => h' _ _ p fun s'' P' z => z
theorem sx_func {body : List Stmt} (h : SegX (model PG w) A (.func body env) ((execs body env).wrap (fun f => .pure (.done (.ret (match f with | .ret v => v | _ => .none)))) (fun e => (leaving env e).wrap (fun _ => .raise e) .raise id id) id id) fs s P) :
   SegX (model PG w) A (.func body env) (iS table (.func body env)) fs s P := by
 show SegX _ A _ (.point [] fun _ => ((execs body env).onRaise (leaving env)) >>= _) fs s P
 refine sx_point ?_; rw [jq, eA, eN]
 rw [Sem.wrap_congr (execs body env) _ _ (K' := fun f => .pure (.done (.ret (match f with | .ret v => v | _ => .none))))
   (H' := fun e => (leaving env e).wrap (fun _ => .raise e) .raise id id) (fun f => by cases f <;> rfl)
   (fun e => by rw [ig, eN]; rfl)]
 exact h
theorem sx_For {target iter : Expr} {body orelse : List Stmt} {pos : Pos}
   (h : wpAny (model PG w) (A.over c fs) (eval iter env) (fun x s₁ => wpAny (model PG w) (A.over c fs) (cC x) (fun it s₂ => ∀ p k, (∀ s' P', SegX (model PG w) A c (K .next) fs s' P' → SegX (model PG w) A c (k (.ok .next)) fs s' P') →
     SegX (model PG w) A (.forLoop target it body orelse env) (iS table (.forLoop target it body orelse env)) (.ret k none (gd false) (lv []) c p [] :: fs) s₂ P) NoE s₁) NoE s)
   (hs : ∀ x, bA iter env x = pure x := by intro _; rfl) : SegX (model PG w) A c ((exec (.For target iter body orelse pos) env).wrap K H gd lv) fs s P := by
 rw [arm_exec_For]; refine kX (bP (kX (am h (fun x s₁ h₁ => ?_) fun _ _ x => x))); refine kX (dN (hs x) (kX (bP (kX (dg (am h₁ (fun it s₂ h₂ => ?_) fun _ _ x => x)))))); exact s_call PG w A c fs P s₂ _ _ _ _ _ fun p => h₂ p _ fun s' P' z => z
theorem sH {target : Expr} {it : Value} {body orelse : List Stmt}
   (h : wpAny (model PG w) (A.over (.forLoop target it body orelse env) fs) (ic it) (fun r s₁ => match r with
     | none => SegX (model PG w) A (.forLoop target it body orelse env) (.pure (.again (.block orelse env))) fs s₁ P
     | some v => wpAny (model PG w) (A.over (.forLoop target it body orelse env) fs) (cG target it v) (fun _ s₂ => wpAny (model PG w) (A.over (.forLoop target it body orelse env) fs) (bM target env v) (fun _ s₃ =>
         SegX (model PG w) A (.forLoop target it body orelse env) ((execs body env).wrap (fun f => match f with
           | .next | .cont => .pure (.again (.forLoop target it body orelse env))
           | .brk => .pure (.done .next)
           | .ret v => .pure (.done (.ret v))) (fun e => (do ga e env; eo e : Sem Unit).wrap (fun _ => .raise e) .raise id id) id id) fs s₃ P) NoE s₂) NoE s₁) NoE s) :
   SegX (model PG w) A (.forLoop target it body orelse env) (iS table (.forLoop target it body orelse env)) fs s P := by
 show SegX _ A _ ((forTurn target it body orelse env).onRaise (fun x => do ga x env; eo x)) fs s P
 unfold forTurn; rw [jq]; refine kX (bP (kX (g7 (am h (fun r s₁ h₁ => ?_) fun _ _ x => x.elim)))); cases r with
 | none => exact h₁
 | some v =>
   refine kX (am h₁ (fun _ s₂ h₂ => kX (am h₂ (fun _ s₃ h₃ => ?_) fun _ _ x => x)) fun _ _ x => x); rw [eA, eN]; rw [Sem.wrap_congr (execs body env) _ _ (K' := fun f => match f with
           | .next | .cont => .pure (.again (.forLoop target it body orelse env))
           | .brk => .pure (.done .next)
           | .ret v => .pure (.done (.ret v))) (H' := (fun e => (do ga e env; eo e : Sem Unit).wrap (fun _ => .raise e) .raise id id))
       (fun f => by cases f <;> rfl)
       (fun e => by first | exact ig _ _ | (show (do ga e env; eo e : Sem Unit).bind (fun _ => .raise e) = _; rw [ig]))]
   exact h₃
theorem q4 {k : fz → Sem Fin} {hd : Option Value} {g : Bool} {l : List Value} {c₁ : Code} {p₁ : Pos} {kp} {c' : Code} (h : SegX (model PG w) A c₁ (k (.ok .next)) fs s P) :
   SegX (model PG w) A c' (.pure (.again (.block [] env))) (.ret k hd g l c₁ p₁ kp :: fs) s P := by
 refine s_again PG w A c' _ P s _ rfl ?_; exact s_pop PG w A _ fs P s (.ok .next) _ rfl k hd g l c₁ p₁ kp h
theorem sx_loop {c : Code} (J : Nat → (End → Shared → Prop) → Shared → Prop) (turn : ∀ n, (∀ m, m < n → ∀ P s, J m P s → SegX (model PG w) A c (iS table c) fs s P) → ∀ P s, J n P s → SegX (model PG w) A c (iS table c) fs s P) :
   ∀ n P s, J n P s → SegX (model PG w) A c (iS table c) fs s P := fun n => iF n fun n ih => turn n ih
end
noncomputable def GoX (w : World) (A : au) (gs : aE) (s : Shared) (P : End → Shared → Prop) : Prop :=
 match gs with
 | .fresh c => SegX (model PG w) A c (iS table c) [] s P
 | .suspended k _ c _ fs _ => SegX (model PG w) A c (k (.send .none)) fs s P
 | _ => False
theorem pJ {w : World} {A : au} {E : VP} {s : Shared} {g : Nat} {gs : aE} {l : List Value} {α : Type} {k : GenResult → Sem α} {Q : α → Shared → Prop} {P : End → Shared → Prop} (hg : s.gens[g]? = some gs)
   (hgo : GoX w A gs (s.setGen g .running) P) (h : ∀ e s₁, e.quiet = true → P e s₁ → wpAny (model PG w) A (k e.result) Q E (s₁.setGen g e.genState)) : wpAny (model PG w) A (.resume g (.send .none) l k) Q E s := by
 have up : ∀ {c t fs s}, SegX (model PG w) A c t fs s P → SegX (model PG w) A c t fs s (fun e s₁ => ∀ Γ p, Γ.In A → cJ (model PG w) Γ (k e.result) (fun a _ s' => Q a s') (fun e _ s' => E e s') p (s₁.setGen g e.genState)) := fun x Γ p hc hΓ => by
   refine x23 (x Γ p hc hΓ) fun e s' hr hq hp => ?_; exact ⟨e, s', hr, hq, fun Γ p hΓ => h e s' hq hp Γ p hΓ⟩
 cases gs with
 | running => exact hgo.elim
 | finished => exact hgo.elim
 | fresh c => exact wake_any α PG w hg (.inl ⟨rfl, rfl, rfl, rfl⟩) (fun Γ => Γ.In A) (fun _ h => h) (up hgo)
 | suspended k₀ l₀ c₀ p₀ fs₀ cl => exact wake_any α PG w hg (.inr ⟨k₀, l₀, p₀, cl, rfl, rfl⟩) (fun Γ => Γ.In A) (fun _ h => h) (up hgo)
theorem r0 {w : World} {A : au} {E : VP} {s : Shared} {a : Addr} {g : Nat} {gs : aE} {Q : Option Value → Shared → Prop} (hh : A.handled = none) (hl : s.heap.NoLimit) (hroom : A.depth < jf)
   (hg : s.heap.IsGen a g) (hgs : s.gens[g]? = some gs)
   (hgo : GoX w A.in1 gs (s.setGen g .running) (fun e s₁ => match e with
     | .ret r => r = .ok (.ret .none) ∧ ∀ h', (∀ b o, s₁.heap.get? b = some o → h'.get? b = some o) → Q none { s₁.setGen g .finished with heap := h' }
     | .susp v _ _ _ _ _ _ => e.genState.bare = true → Q (some v) (s₁.setGen g e.genState))) :
   wpAny (model PG w) A (ic (.ref a)) Q E s := by
 unfold ic
 refine ai (wpAny_attempt (f0 (name := aa "__next__") hg.typeIs slot_gen_next
   (fZ slot_gen_next hg.typeIs entry_gen_next ?_ (args_gen_next _))))
 show wpAny _ A.in1 (gm (.ref a) (.send .none)) _ _ s
 unfold gm; refine ai (dg (wpAny_genNumber hg (ai (wpAny_genState hgs ?_)))); cases gs with
 | running => exact hgo.elim
 | finished => exact hgo.elim
 | _ =>
   refine ai (wpAny_roomToWake hl hroom ?_); show wpAny _ A.in1 (.resume g (.send .none) [] _) _ _ s
   refine pJ hgs hgo fun e s₁ hq hp => ?_; cases e with
   | ret r =>
     obtain ⟨rfl, hp⟩ := hp; show wpAny _ A.in1 (newExc (.type "StopIteration") [] >>= _) _ _ _
     refine ai ?_; simp only [newExc, newTuple]; refine ai (fL ?_ (by size_fits)); refine ai (m := gP _ _) (dN (a := dT) (by first | rfl | (simp only [gP]; rfl)) ?_)
     refine fL ?_ (by size_fits); simp only [raiseNew]; refine ai (ai (wpAny_handled ?_)); first | rw [show A.in1.handled = none from hh] | rw [hh]
     refine wpAny_throw ?_; refine ai (wpAny_isInstance (T := "StopIteration") (b := true) ⟨_, aG _ rfl, rfl⟩ isSubtype_stop ?_); exact aP (hp _ fun b o hb => dH _ (dH _ hb))
   | susp v g' l k c p fs => exact aP ⟨v, rfl, aP (hp (End.bare_of_quiet hq))⟩
end
section
open PySem.W.X
noncomputable def no : List Nat → Nat → Bool → Nat → List (Nat × List Nat)
 | [], _, esc, q => if esc then [(q, [92])] else []
 | c :: r, p, esc, _ => if esc then (p, [92, c]) :: no r (p + 1) false p else if c = 92 then no r (p + 1) true p else (p, [c]) :: no r (p + 1) false p
noncomputable def EscAt (p : Nat) (cs : List Nat) (v : Value) (h : Heap) : Prop := ∃ T t u, v = .ref T ∧ h.IsTuple T #[.int p t, .str ⟨cs.toArray⟩ u]
noncomputable def EscV (out : List (Nat × List Nat)) (i : Nat) (v : Value) (h : Heap) : Prop := ∃ p cs, out[i]? = some (p, cs) ∧ EscAt p cs v h
noncomputable def Same (wr : List Addr) (s s₁ : Shared) : Prop := ∃ h' tk, s₁ = { s with heap := h', toks := tk } ∧ ∀ b o, b ∉ wr → s.heap.get? b = some o → h'.get? b = some o
theorem Same.refl {wr : List Addr} {s : Shared} : Same wr s s := ⟨s.heap, s.toks, rfl, fun _ _ _ e => e⟩
theorem Same.step {wr : List Addr} {s s₁ : Shared} (x : Same wr s s₁) {h' : Heap} {tk : Nat} (k : ∀ b o, b ∉ wr → (∃ o, s.heap.get? b = some o) → s₁.heap.get? b = some o → h'.get? b = some o) : Same wr s { s₁ with heap := h', toks := tk } := by
 obtain ⟨h₁, t₁, rfl, k₁⟩ := x; exact ⟨h', tk, rfl, fun b o hb e => k b o hb ⟨o, e⟩ (k₁ b o hb e)⟩
noncomputable def Agr (l : List Addr) (h h' : Heap) : Prop := ∀ b ∈ l, ∀ o, h.get? b = some o → h'.get? b = some o
noncomputable def PostE (w : World) (A : au) (fp : List Addr) : List (Nat × List Nat) → List Addr → Shared → End → Shared → Prop
 | [], wr, s₀, e, s₁ => e = .ret (.ok (.ret .none)) ∧ Same wr s₀ s₁
 | (p, cs) :: r, wr, s₀, e, s₁ => (∃ v l k c q fs, e = .susp v false l k c q fs ∧ EscAt p cs v s₁.heap) ∧ Same wr s₀ s₁ ∧
     ∃ wr', (∀ b ∈ wr', b ∈ wr ∨ s₀.heap.get? b = none) ∧ (∀ b ∈ wr', ∃ o, s₁.heap.get? b = some o) ∧ ∀ s'', Agr (wr' ++ fp) s₁.heap s''.heap → GoX w A e.genState s'' (PostE w A fp r wr' s'')
theorem GoX.mono {w : World} {A : au} {gs : aE} {s : Shared} {P P' : End → Shared → Prop} (x : GoX w A gs s P) (h : ∀ e s', P e s' → P' e s') : GoX w A gs s P' := by
 cases gs with
 | running => exact x
 | finished => exact x
 | fresh c => exact SegX.mono x h
 | suspended k l c p fs cl => exact SegX.mono x h
theorem li {s : Shared} {g j : Nat} {x y : aE} (e : s.gens[j]? = some x) (h : ¬ j = g) : (s.setGen g y).gens[j]? = some x := by
 simp [iJ, Ne.symm h, e]
theorem lE {s : Shared} {g : Nat} {y : aE} (h : gY s.gens) (hy : y.bare = true) : gY (s.setGen g y).gens := by
 intro z hz; simp only [iJ] at hz; obtain ⟨i, hi, rfl⟩ := Array.mem_iff_getElem.mp hz; rw [Array.getElem_setIfInBounds (by simpa using hi)]; split
 · exact hy
 exact h _ (Array.getElem_mem (show i < s.gens.size by simpa using hi))
inductive GenSt (w : World) (A : au) (I : Addr) (g : Nat) (fp : List Addr) (out : List (Nat × List Nat)) (wr : List Addr) (i : Nat) (s : Shared) : Prop
 | mk (h1 : s.heap.IsGen I g) (h2 : s.heap.NoLimit) (h3 : ∀ b ∈ wr, ∃ o, s.heap.get? b = some o) (wx : List Addr) (h4 : wr = I :: wx) (h5 : I ∉ wx) (h6 : gg ∉ wx) (gs : aE) (h7 : s.gens[g]? = some gs) (h8 : ∀ s'' : Shared, Agr (wx ++ fp) s.heap s''.heap → GoX w A.in1 gs s'' (PostE w A.in1 fp (out.drop i) wx s''))
theorem Itr.gen {w : World} {A : au} {elts : List Expr} {k : Nat} {p : Pos} {I : Addr} {g : Nat} {fp : List Addr} (hh : A.handled = none) (hroom : A.depth < jf) (hcs : gg ∈ fp) (out : List (Nat × List Nat)) :
   Itr w A (.Tuple elts k p) I fp (fun j => j = g) out.length (EscV out) (GenSt w A I g fp out) where
 frame := fun wr i s s' h kf kw kg => by
   obtain ⟨h1, h2, h3, wx, h4, h5, h5', gs, h6, h7⟩ := h; subst h4; refine ⟨by obtain ⟨o, nm, qn, ho, r⟩ := h1; exact ⟨o, nm, qn, kw I (.head _) o ho, r⟩, ?_, fun b hb => by obtain ⟨o, ho⟩ := h3 b hb; exact ⟨o, kw b hb o ho⟩, wx, rfl, h5, h5', gs, kg g gs rfl h6, fun s'' ha => h7 s'' fun b hb o e => ha b hb o ?_⟩
   · refine x12 h2 fun mc hns hnn => ?_; exact ⟨mc, hns.at' fun o e => kf gg hcs o e, hnn⟩
   rcases mAp hb with q | q
   · exact kw b (.tail _ q) o e
   exact kf b q o e
 live := fun wr i s h => by cases h; assumption
 item := fun wr i s Q hi hS h => by
   obtain ⟨h1, h2, h3, wx, h4, h5, h5', gs, h6, h7⟩ := hS; subst h4; have hd : out.drop i = out[i] :: out.drop (i + 1) := bp hi; generalize hpc : out[i] = pc at hd; obtain ⟨pp, cs⟩ := pc; rw [hd] at h7; refine r0 hh h2 hroom h1 h6 (GoX.mono (h7 _ fun b hb o e => e) fun e s₁ hp => ?_); obtain ⟨⟨v, l, kk, c, q, fs, rfl, hv⟩, ⟨h', tk, rfl, k₁⟩, wr', hwr, hlv, hgo⟩ := hp; intro hb; have hI' : I ∉ wr' := fun q => by
     rcases hwr I q with q | q
     · exact h5 q
     obtain ⟨o, ho⟩ := h3 I (.head _); rw [show (s.setGen g .running).heap = s.heap from rfl, ho] at q; cases q
   have hC' : gg ∉ wr' := fun q => by
     rcases hwr _ q with q | q
     · exact h5' q
     obtain ⟨mc, ⟨o, _, _, ho, _⟩, hnn⟩ := h2; rw [show (s.setGen g .running).heap = s.heap from rfl, ho] at q; cases q
   obtain ⟨T, t, u, rfl, hT⟩ := id hv; have hIh : h'.IsGen I g := by obtain ⟨o, nm, qn, ho, r⟩ := h1; exact ⟨o, nm, qn, k₁ I o h5 ho, r⟩
   have hgo' : wpAny (model PG w) A (cG (.Tuple elts k p) (.ref I) (.ref T)) (fun _ s₂ => Q (.ref T) s₂) NoE
       (iJ { s.setGen g .running with heap := h', toks := tk } g (End.susp (.ref T) false l kk c q fs).genState) := by
     have hIh2 := hIh; refine x34 hIh fun o nm qn ho hc hdt hsl => ?_; unfold cG; refine ai (wpAny_load ho ?_); rw [hc, hdt]
     show wpAny _ A (if (["enumerate", "zip", "dict_itemiterator", "dict_reverseitemiterator", "odict_iterator", "itertools.zip_longest", "itertools.pairwise"].contains "generator" &&
         (#[.int g 0, nm, qn] : Array Value)[0]? == some (gn T)) = true then _ else _) _ _ _
     rw [if_neg (by
       intro hx; rw [show (["enumerate", "zip", "dict_itemiterator", "dict_reverseitemiterator", "odict_iterator", "itertools.zip_longest", "itertools.pairwise"].contains "generator") = false from by decide, cP] at hx
       cases hx)]
     refine aP (h _ _ (I :: wr') ⟨hIh2, ?_, fun b hb => ?_, wr', rfl, hI', hC', _, setGen_self (gs := .running) (setGen_self h6), fun s'' ha => hgo s'' ha⟩ (fun b hb => ?_) ⟨pp, cs, by rw [ac hi, hpc], hv⟩ ⟨fun b o hb e => k₁ b o (fun q => hb (.tail _ q)) e, fun j x hj e => ?_, rfl, fun hbare => ?_⟩)
     · refine x12 h2 fun mc hns hnn => ?_; exact ⟨mc, hns.at' fun o e => k₁ gg o h5' e, hnn⟩
     · rcases mCo hb with rfl | hb
       · exact ⟨o, ho⟩
       exact hlv b hb
     · rcases mCo hb with rfl | hb
       · exact .inl (.head _)
       rcases hwr b hb with q | q
       · exact .inl (.tail _ q)
       exact .inr q
     · exact li (li e hj) hj
     exact lE (lE hbare rfl) hb
   exact hgo'
 done := fun wr s Q hS h => by
   obtain ⟨h1, h2, h3, wx, h4, h5, h5', gs, h6, h7⟩ := hS; subst h4; rw [eJ] at h7; refine r0 hh h2 hroom h1 h6 (GoX.mono (h7 _ fun b hb o e => e) fun e s₁ hp => ?_); obtain ⟨rfl, ⟨h', tk, rfl, k₁⟩⟩ := hp; refine ⟨rfl, fun h'' kk => h _ ⟨fun b o hb e => kk b o (k₁ b o (fun q => hb (.tail _ q)) e), fun j x hj e => ?_, rfl, fun hb => ?_⟩⟩
   · exact li (li e hj) hj
   exact lE (lE hb rfl) rfl
 self := fun wr i s Q h hQ => by cases h; exact wpAny_pyIter_gen ‹_› hQ
theorem Bd.genPush {w : World} {c : Cx} {γ : Array aE} {m : Mp} {env : Env} {own : List Addr} {ρ : List VE} {nw : Led} {s : Shared} {h' : Heap} {d : Drawn} {t : Nat} {c' : Code} (B : Bd w c γ m env own ρ nw s) (k : ∀ a o, s.heap.get? a = some o → h'.get? a = some o) :
   Bd w c (s.gens.push (.fresh c')) m env own ρ nw ⟨h', s.gens.push (.fresh c'), d, t, s.os⟩ :=
 ⟨fun a o e => k a o (B.old a o e), fun a o e => k a o (B.ok a o e), B.low, B.gr, B.ble, B.os, rfl, fun i x e => by
   have := B.gpre i x e; rw [← B.gens] at this; have hi : i < s.gens.size := (fu.mp this).1; rw [Array.getElem?_push_lt hi, ← cB hi]; exact this, gY.push (B.gens ▸ B.bare) rfl, B.vars.keep fun a o _ e => k a o e, B.cin, B.caps,
   fun a ha => by obtain ⟨o, ho⟩ := B.ownok a ha; exact ⟨o, k _ _ ho⟩, fun p hp => by obtain ⟨o, ho, q⟩ := B.ledok p hp; exact ⟨o, k _ _ ho, q⟩, B.nodup, B.out⟩
theorem Bd.gnone {w : World} {c : Cx} {γ : Array aE} {m : Mp} {env : Env} {own : List Addr} {ρ : List VE} {nw : Led} {s : Shared} (B : Bd w c γ m env own ρ nw s) : c.G[s.gens.size]? = none := by
 cases e : c.G[s.gens.size]? with
 | none => rfl
 | some x =>
   have := B.gpre _ x e; rw [← B.gens] at this; exact absurd (fu.mp this).1 (bB _)
noncomputable def Own (wr : List Addr) (s : Shared) (a : Addr) : Prop := a ∈ wr ∨ s.heap.get? a = none
theorem Own.ne {wr : List Addr} {s : Shared} {a b : Addr} (x : Own wr s a) (hb : b ∉ wr) (l : ∃ o, s.heap.get? b = some o) : b ≠ a := fun e => by
 subst e; rcases x with q | q
 · exact hb q
 obtain ⟨o, ho⟩ := l; rw [q] at ho; cases ho
end
section
open PySem.W.X
section
variable {w : World} {c : Cx} {γ : Array aE} {m : Mp} {env : Env} {own : List Addr} {ρ ρ' : List VE} {nw nw' : Led} {s s' : Shared} {A : au} {E : VP}
noncomputable def qf : List Addr := [bS, ca, gg]
theorem escs_bs {c : Nat} (h : c = 92) (l : List Nat) (i q : Nat) : no (c :: l) i false q = no l (i + 1) true i := by
 conv => lhs; unfold no
 rw [if_neg (by decide), if_pos h]
theorem escs_ch {c : Nat} (h : ¬ c = 92) (l : List Nat) (i q : Nat) : no (c :: l) i false q = (i, [c]) :: no l (i + 1) false i := by
 conv => lhs; unfold no
 rw [if_neg (by decide), if_neg h]
theorem ch92 (c : Nat) : ((⟨#[c]⟩ : Str) == aa "\\" : Bool) = decide (c = 92) := by
 by_cases q : c = 92
 · subst q; decide
 rw [decide_eq_false q]; refine beq_eq_false_iff_ne.mpr fun e => q ?_; have : (⟨#[c]⟩ : Str).cps = (aa "\\").cps := by rw [e]
 have h2 : (aa "\\").cps = #[92] := by decide
 rw [h2] at this; simpa using this
theorem drop_at {a : Array Nat} {i c : Nat} (h : a[i]? = some c) : a.toList.drop i = c :: a.toList.drop (i + 1) := by
 obtain ⟨hl, rfl⟩ := fu.mp h; rw [bp (by simpa using hl)]; simp
theorem str_draws {z : Str} {ii : Addr} {t : Tok} {h3 : Heap} (hit : h3.IsStrIter ii (cT z) z t 0) : ∃ StI : Nat → Heap → Prop, (∀ A' : au, A'.handled = none → Draws PG w A' ii [ii] z.cps.size (SignAt z) StI) ∧ StI 0 h3 := by
 by_cases ha : z.cps.all (· < 128) = true
 · have e : cT z = "str_ascii_iterator" := by unfold cT; rw [if_pos ha]
   rw [e] at hit; exact ⟨_, fun A' hA => Draws.strAscii (prog := PG) (w := w) (A := A') hA ii z t, hit⟩
 have e : cT z = "str_iterator" := by unfold cT; rw [if_neg ha]
 rw [e] at hit; exact ⟨_, fun A' hA => Draws.strWide (prog := PG) (w := w) (A := A') hA ii z t, hit⟩
noncomputable def EnSt (ee ii : Addr) (StI : Nat → Heap → Prop) (i : Nat) (h : Heap) : Prop := (∃ old, IsEnum h ee ii i old) ∧ StI i h
inductive EscJ (w : World) (A : au) (z : Str) (ee ii L : Addr) (StI : Nat → Heap → Prop) (n : Nat) (P : End → Shared → Prop) (s : Shared) : Prop
 | mk (i : Nat) (b : Bool) (q : Nat) (tq : Tok) (wr : List Addr) (s₀ : Shared) (mp : Str → Option Value) (hn : n = z.cps.size - i) (hi : i ≤ z.cps.size) (hP : P = PostE w A.in1 qf (no (z.cps.toList.drop i) i b q) wr s₀) (hsame : Same wr s₀ s) (hst : EnSt ee ii StI i s.heap) (hns : s.heap.Ns L mp) (hesc : mp (aa "escape") = some (.bool b)) (hpos : mp (aa "pos") = some (.int (q : Nat) tq)) (oL : Own wr s₀ L) (oe : Own wr s₀ ee) (oi : Own wr s₀ ii)
noncomputable def EnIt (z : Str) (i : Nat) (vals : Array Value) : Prop := ∃ t x, SignAt z i x ∧ vals = #[.int i t, x]
noncomputable def EnMid (ee ii : Addr) (StI : Nat → Heap → Prop) (i : Nat) (T : Addr) (h : Heap) : Prop := (∃ x, IsEnumOut h ee ii ((i : Int) + 1) x T) ∧ StI (i + 1) h ∧ T ≠ ee ∧ T ≠ ii
theorem src_esc {d u : Nat} {z : Str} {t : Tok} {elts : List Expr} {k : Nat} {p : Pos} {Q : VP} (B : Bd w c γ m env own ρ nw s) (R : Rm A (d + 1) u)
   (h : ∀ I s' γ', Bd w c γ' m env own ρ nw s' → Src w A (.Tuple elts k p) c m own nw I (no z.cps.toList 0 false 0).length (EscV (no z.cps.toList 0 false 0)) s' → Q (.ref I) s') :
   wpAny (model PG w) A (call (.ref 45) [.str z t]) (fun r s₁ => wpAny (model PG w) A (cC r) Q E s₁) E s := by
 have G := B.gr _ B.ok; have kl1 : ∀ {b}, Kn m (Live b) → ∃ o, m b = some o := fun q => (B.kl q).elim fun o q => ⟨o, q.1⟩; refine eZ (codeAny_call_generator (by have := R.depth; exact a2 this) (G.k 45 _ rfl) rfl rfl rfl rfl (jg G.k rfl) (dN (a := [(aa "addr", .str z t)]) rfl (gL (by decide +kernel) (fun x hx => by rcases mSg hx with rfl; rfl) (fun h' hns hsb => ⟨G.nolim.fresh _ hsb, ?_⟩) rfl)))
 have hfr := B.fresh; generalize hLe : s.heap.objs.size = L at *
 have k1 : ∀ a o, s.heap.get? a = some o → h'.get? a = some o := fun a o e => hsb.extBut a o (ci (hLe ▸ aJ e)) (jA _ a o e); generalize hgo : ({ cls := .type "generator", data := .fields #[.int s.gens.size 0, .str (aa "_iter_escaped_chars") (s.toks + [(aa "addr", dZ z t)].length), .str (aa "_iter_escaped_chars") (s.toks + [(aa "addr", dZ z t)].length + 1)] } : Obj) = go; have hhz : h'.objs.size = L + 1 := by rw [hsb.1, fw, hLe]
 have hI : (h'.push go).IsGen h'.objs.size s.gens.size := ⟨go, _, _, aG _ (by rw [← hgo]; rfl), by rw [← hgo], by rw [← hgo], by rw [← hgo]⟩; have hgm := G.g; obtain ⟨mg, hng, hmg⟩ := G.g; obtain ⟨mb, hnb, hmb⟩ := G.b; have ltL : ∀ {b : Addr} {o : Obj}, s.heap.get? b = some o → b ≠ L := fun e q => by
   have := aJ e; rw [hLe, q] at this; exact bB _ this
 have nLG : bS ≠ L := (lx hng).elim fun _ => ltL; have nLB : ca ≠ L := (lx hnb).elim fun _ => ltL; have nLC : gg ≠ L := G.nolim.elim fun _ q => (lx q.1).elim fun _ => ltL; have hng2 : (h'.push go).Ns bS mg := hng.keeps fun b o e => jA _ _ _ (k1 b o e); have hnb2 : (h'.push go).Ns ca mb := hnb.keeps fun b o e => jA _ _ _ (k1 b o e); have hns2 : (h'.push go).Ns L _ := hns.push go; refine wpAny_pyIter_gen hI (h _ _ _ (B.genPush fun a o e => jA _ _ _ (k1 a o e)) ⟨qf, _, _, [h'.objs.size, L], Itr.gen R.handled (by have := R.depth; exact a2 this) (by simp [qf]) (no z.cps.toList 0 false 0), ?_, fun j hj => by subst hj; exact B.gnone, ⟨hI, (G.nolim.keeps k1).push go, ?_, [L], rfl, ?_, ?_, _, Array.getElem?_push_size, ?_⟩, B.privOf fun b hb => ?_⟩)
 · exact al2 (P := fun b => ∃ o, m b = some o) (kl1 (B.gr.map fun h G => G.g.elim fun _ q => lx q.1)) (al2 (kl1 (B.gr.map fun h G => G.b.elim fun _ q => lx q.1)) (al1 (kl1 (B.gr.map fun h G => G.nolim.elim fun _ q => lx q.1))))
 · exact al2 (P := fun b => ∃ o, (h'.push go).get? b = some o) (by obtain ⟨o, _, _, ho, _⟩ := hI; exact ⟨o, ho⟩) (al1 (lx hns2))
 · intro hb; have := mSg hb; rw [hhz] at this; exact absurd this (ij L)
 · intro hb; exact nLC (mSg hb)
 · intro s2 hag; show SegX (model PG w) A.in1 (.func _ _) (iS table (.func _ _)) [] s2 _
   have hnL : s2.heap.Ns L _ := hns2.at' fun o e => hag L (by simp) o e; have hnG : s2.heap.Ns bS mg := hng2.at' fun o e => hag _ (by simp [qf]) o e; have hnB : s2.heap.Ns ca mb := hnb2.at' fun o e => hag _ (by simp [qf]) o e; clear hag h; refine sx_func (kW (pN (eK (ib (cM rfl hnL (fun h1 hn1 hs1 => ?_) rfl))))); refine kW (pN (eK (eh (cM rfl hn1 (fun h2 hn2 hs2 => ?_) rfl)))); refine kW (sx_For ?_); have low : ∀ b o, b ≠ L → s2.heap.get? b = some o → h2.get? b = some o := fun b o hb e => hs2.extBut b o hb (hs1.extBut b o hb e); refine Call_ (gR rfl rfl (loadGlobal_builtin (hnG.at' fun o e => low _ o nLG e) (hmg (aa "enumerate") _ rfl) (hnB.at' fun o e => low _ o nLB e) ((hmb (aa "enumerate") (by decide)).trans rfl) ?_) rfl); refine callWith_type1 (bJ (eb (bz rfl rfl hn2 (v := .str z t) rfl (c8 ?_)) rfl)); refine call_enumerate_str fun h3 he hit hz3 hk3 => iw he ?_; intro p4 k4 hk4; generalize hee : h2.objs.size + 1 = ee at he hz3 ⊢; generalize hii : h2.objs.size = ii at he hit hz3 hee ⊢; have hei : @Ne Addr ee ii := pt (a323 hee); obtain ⟨StI, hD, hst0⟩ := str_draws (w := w) hit; have U : ∀ A' : au, A'.handled = none → WalksU PG w A' ee (ee :: [ii]) [ee, ii] z.cps.size (EnIt z) (EnSt ee ii StI) (EnMid ee ii StI) := fun A' hA => (WalksT.enumerateD (hD A'.in1 hA) ee hei (by simpa using hei) (by simp)).toU; have hLs := lx hnL; have hsz : h2.objs.size = s2.heap.objs.size := by rw [hs2.1, hs1.1]
   have none_of : ∀ b : Addr, s2.heap.objs.size ≤ b → s2.heap.get? b = none := fun b hb => by
     cases e : s2.heap.get? b with
     | none => rfl
     | some o => exact absurd (aJ e) (fB.mpr hb)
   have hLe' : @Ne Addr L ee := fun e => by
     obtain ⟨o, ho⟩ := hLs; have := none_of ee (by rw [← hsz, hii, ← hee]; exact aK _ _); rw [← e, ho] at this; cases this
   have hLi' : @Ne Addr L ii := fun e => by
     obtain ⟨o, ho⟩ := hLs; have := none_of ii (by rw [← hsz, hii]; exact ap _); rw [← e, ho] at this; cases this
   refine sx_loop (EscJ w A z ee ii L StI) ?_ z.cps.size _ _ ?_; rotate_left
   · refine ⟨0, false, 0, _, [L], s2, _, (Nat.sub_zero _).symm, be _, rfl, ?_, ⟨⟨_, he⟩, hst0⟩, hn2.keeps hk3, rfl, rfl, .inl (.head _), .inr (none_of _ ?_), .inr (none_of _ ?_)⟩
     · exact ⟨_, _, rfl, fun b o hb e => hk3 b o (low b o (fun q => hb (by simp [q])) e)⟩
     · rw [← hsz, hii, ← hee]; exact aK _ _
     rw [← hsz, hii]; exact ap _
   rintro n ih P sx ⟨i, b, q, tq, wr, s₀, mp, hn, hi, rfl, hsame, hst, hnx, hesc, hpos, oL, oe, oi⟩; refine sH ?_; by_cases hlt : i < z.cps.size
   · refine (U _ (by exact R.handled)).item i sx _ _ hlt hst fun T vals h5 tk5 hP hT hm kk5 => (U _ (by exact R.handled)).go _ _ _ i T _ _ _ hm fun h6 hst6 kk6 => ?_; obtain ⟨tt, x, ⟨cc, ux, hcc, rfl⟩, rfl⟩ := hP; have hTw : T ∉ [ee, ii] := fun hm' => (U A R.handled).apart _ _ _ hm hm'; have hT6 : h6.IsTuple T _ := hT.at fun o e => kk6 T o hTw e; refine wpAny_assign_Tuple (by exact R.handled) hT6 rfl rfl fun h7 he7 => ?_; have hLw : L ∉ [ee, ii] := by simp [hLe', hLi']
     have k7 : ∀ b o, b ∉ [ee, ii] → sx.heap.get? b = some o → h7.get? b = some o := fun b o hb e => by
       have e6 := kk6 b o hb (kk5 b o hb e); exact he7 b o (ci (aJ e6)) e6
     have hst7 : EnSt ee ii StI (i + 1) h7 := by
       refine (U A R.handled).frame _ _ _ hst6 fun b hb o e => he7 b o (ci (aJ e)) e
     have hn7 : h7.Ns L mp := hnx.at' fun o e => k7 L o hLw e; refine ak (af (cM rfl hn7 (fun h8 hn8 hs8 => ?_) rfl)); refine ak (af (cM rfl hn8 (fun h9 hn9 hs9 => aL ?_) rfl)); have k9 : ∀ b o, b ∉ [ee, ii] → b ≠ L → sx.heap.get? b = some o → h9.get? b = some o := fun b o hb hbL e => hs9.extBut b o hbL (hs8.extBut b o hbL (k7 b o hb e)); have kst : ∀ {h h' : Heap}, (∀ b o, b ≠ L → h.get? b = some o → h'.get? b = some o) → EnSt ee ii StI (i + 1) h → EnSt ee ii StI (i + 1) h' := fun hk st => (U A R.handled).frame _ _ _ st fun b hb o e => hk b o (al2 (P := fun b => b ≠ L) (Ne.symm hLe') (al1 (Ne.symm hLi')) b hb) e; have hst9 := kst (fun b o hb e => hs9.extBut b o hb (hs8.extBut b o hb e)) hst7; have same9 : ∀ h' tk', (∀ b o, b ≠ L → h9.get? b = some o → h'.get? b = some o) → Same wr s₀ { sx with heap := h', toks := tk' } := fun h' tk' hk => hsame.step fun b o hb hl e => hk b o (oL.ne hb hl) (k9 b o (by simp; exact ⟨oe.ne hb hl, oi.ne hb hl⟩) (oL.ne hb hl) e)
     rw [drop_at hcc]; have hesc9 : (fun y => if y = aa "ch" then some (dZ ⟨#[cc]⟩ ux) else if y = aa "pos" then some (cF i tt) else mp y) (aa "escape") = some (.bool b) := hesc
     have hpos9 : (fun y => if y = aa "ch" then some (dZ ⟨#[cc]⟩ ux) else if y = aa "pos" then some (cF i tt) else mp y) (aa "pos") = some (.int i tt) := rfl
     have hch9 : (fun y => if y = aa "ch" then some (dZ ⟨#[cc]⟩ ux) else if y = aa "pos" then some (cF i tt) else mp y) (aa "ch") = some (.str ⟨#[cc]⟩ ux) := rfl
     generalize hF9 : (fun y => if y = aa "ch" then some (dZ ⟨#[cc]⟩ ux) else if y = aa "pos" then some (cF i tt) else mp y) = F9 at hn9 hesc9 hpos9 hch9
     have yfin : ∀ (cs : List Nat) (r : List (Nat × List Nat)) (T' : Addr) (t' u' : Tok) (h10 : Heap) (tk10 : Nat) (l : List Value) (kk : Resume → Sem Fin) (c : Code) (p : Pos) (fs : List Frame), (∀ b o, h9.get? b = some o → h10.get? b = some o) → h10.IsTuple T' #[.int i t', .str ⟨cs.toArray⟩ u'] →
         (∀ s'', Agr ([L, ee, ii] ++ qf) h10 s''.heap → SegX (model PG w) A.in1 c (kk (.send .none)) fs s'' (PostE w A.in1 qf r [L, ee, ii] s'')) →
         PostE w A.in1 qf ((i, cs) :: r) wr s₀ (.susp (.ref T') false l kk c p fs) { sx with heap := h10, toks := tk10 } := fun cs r T' t' u' h10 tk10 l kk c p fs hk10 hT' hc => by
       exact ⟨⟨_, l, kk, c, p, fs, rfl, T', t', u', rfl, hT'⟩, same9 _ _ fun b o _ e => hk10 b o e, [L, ee, ii], al2 oL (al2 oe (al1 oi)), al2 (P := fun b => ∃ o, h10.get? b = some o) ((lx hn9).imp fun _ => hk10 _ _) (al2 (hst9.1.elim fun _ e => ⟨_, hk10 _ _ e⟩) (al1 (((hD A R.handled).live _ _ hst9.2).imp fun _ => hk10 _ _))), hc⟩
     have stA : ∀ {h10 h11 : Heap}, (∀ b o, h9.get? b = some o → h10.get? b = some o) → Agr ([L, ee, ii] ++ qf) h10 h11 → EnSt ee ii StI (i + 1) h11 ∧ h11.Ns L F9 := fun hk ha =>
       ⟨(U A R.handled).frame _ _ _ hst9 fun b hb o e => ha b (an.mpr (.inl (.tail _ hb))) o (hk b o e), hn9.at' fun o e => ha L (by simp) o (hk L o e)⟩
     refine kW (sx_If (isTrue_plain (eb (bz rfl rfl hn9 hesc9 (iu ?_)) rfl))); refine ky (fun hb => ?_) (fun hb => ?_)
     · subst hb; refine kW (pO rfl rfl rfl ?_ rfl); refine Tuple_ (bJ (eb (bz rfl rfl hn9 hpos9 ?_) rfl)); refine bJ (gM (ed (eb (bz rfl rfl hn9 hch9 ?_) rfl))); refine ip (fun t' k' => c8 (gK ?_ (by show 2 ≤ aS; decide))) (by show 1 + 1 ≤ _; decide)
       intro l kk p' hkk; refine yfin [92, cc] (no (z.cps.toList.drop (i + 1)) (i + 1) false i) _ _ _ _ _ l kk _ p' _ (jA _) ⟨_, aG _ rfl, rfl, _, rfl⟩ fun s'' ha => hkk s'' _ ?_; obtain ⟨stX, nsX⟩ := stA (jA _) ha; refine kW (pN (eK (eh (cM rfl nsX (fun hX hnX hsX => sx_nil (s_again PG w A.in1 _ _ _ _ _ rfl (ih _ ?_ _ _ ⟨i + 1, false, i, tt, [L, ee, ii], s'', _, rfl, hlt, rfl, ⟨hX, _, rfl, fun b o hb e => hsX.extBut b o (by simp at hb; exact hb.1) e⟩, kst (fun b o hb e => hsX.extBut b o hb e) stX, hnX, ?_, ?_, .inl (.head _), .inl (by simp), .inl (by simp)⟩))) rfl))))
       · exact a14 hn hlt
       · rfl
       exact hpos9
     subst hb; refine kW (sx_If (wpAny_isTrue_Compare1 (eb (bz rfl rfl hn9 hch9 (ed (PyProof.Rows.eq_str ?_))) rfl))); refine iu ?_; rw [ch92]; refine ky (fun hb => ?_) (fun hb => ?_)
     · have hq : cc = 92 := of_decide_eq_true hb; rw [escs_bs hq]; refine kW (pN (eK (eh (cM rfl hn9 (fun hX hnX hsX => sx_nil (s_again PG w A.in1 _ _ _ _ _ rfl (ih _ ?_ _ _ ⟨i + 1, true, i, tt, wr, s₀, _, rfl, hlt, rfl, same9 _ _ (fun b o hb e => hsX.extBut b o hb e), kst (fun b o hb e => hsX.extBut b o hb e) hst9, hnX, ?_, ?_, oL, oe, oi⟩))) rfl))))
       · exact a14 hn hlt
       · rfl
       exact hpos9
     have hq : ¬ cc = 92 := of_decide_eq_false hb; rw [escs_ch hq]; refine kW (pO rfl rfl rfl ?_ rfl); refine Tuple_ (bJ (eb (bz rfl rfl hn9 hpos9 ?_) rfl)); refine bJ (eb (bz rfl rfl hn9 hch9 ?_) rfl); refine c8 (gK ?_ (by show 2 ≤ aS; decide))
     intro l kk p' hkk; refine yfin [cc] (no (z.cps.toList.drop (i + 1)) (i + 1) false i) _ _ _ _ _ l kk _ p' _ (jA _) ⟨_, aG _ rfl, rfl, _, rfl⟩ fun s'' ha => hkk s'' _ ?_; obtain ⟨stX, nsX⟩ := stA (jA _) ha; refine s_again PG w A.in1 _ _ _ _ _ rfl (ih _ ?_ _ _ ⟨i + 1, false, i, tt, [L, ee, ii], s'', _, rfl, hlt, rfl, .refl, stX, nsX, hesc9, hpos9, .inl (.head _), .inl (by simp), .inl (by simp)⟩); exact a14 hn hlt
   have hin : i = z.cps.size := a13 hi hlt
   subst hin; have hd0 : z.cps.toList.drop z.cps.size = [] := by simp
   rw [hd0]; refine (U _ (by exact R.handled)).done sx _ _ hst fun h5 tk5 kk5 => ?_; have hLw : L ∉ [ee, ii] := by simp [hLe', hLi']
   have hn5 : h5.Ns L mp := hnx.at' fun o e => kk5 L o hLw e; have same5 : ∀ h' tk', (∀ b o, h5.get? b = some o → h'.get? b = some o) → Same wr s₀ { sx with heap := h', toks := tk' } := fun h' tk' hk => hsame.step fun b o hb hl e => hk b o (kk5 b o (by simp; exact ⟨oe.ne hb hl, oi.ne hb hl⟩) e)
   refine q4 (hk4 _ _ ?_); refine kW (sx_If (isTrue_plain (eb (bz rfl rfl hn5 hesc (iu ?_)) rfl))); refine ky (fun hb => ?_) (fun hb => ?_)
   · subst hb; refine kW (pO rfl rfl rfl ?_ rfl); refine Tuple_ (bJ (eb (bz rfl rfl hn5 hpos ?_) rfl)); refine bJ (ed ?_); refine c8 (gK ?_ (by show 2 ≤ aS; decide))
     intro l kk p' hkk; refine ⟨⟨_, l, kk, _, p', _, rfl, _, _, _, rfl, ⟨_, aG _ rfl, rfl, _, rfl⟩⟩, same5 _ _ (jA _), [L], al1 oL, al1 ((lx hn5).imp fun _ => jA _ _ _), fun s'' ha => hkk s'' _ ?_⟩; exact s_end PG w A.in1 _ _ _ (.ok (.ret .none)) _ rfl ⟨rfl, .refl⟩
   subst hb; exact s_end PG w A.in1 _ _ _ (.ok (.ret .none)) _ rfl ⟨rfl, same5 _ _ fun _ _ e => e⟩
 rcases mCo hb with rfl | hb
 · rw [hLe, hhz]; exact eT L
 rcases mSg hb with rfl
 exact bd hLe
end
end
section
section
variable {w : World}
theorem cps_eq {x : Array Nat} {y : Str} : ((⟨x⟩ : Str) == y) = (x == y.cps) := by
 cases y with
 | mk y =>
   by_cases q : x = y
   · subst q; simp
   rw [beq_eq_false_iff_ne.mpr q]; exact beq_eq_false_iff_ne.mpr fun e => q (by injection e)
noncomputable abbrev SSt := Nat × Option Nat × List Str
noncomputable def jU (z : Str) (st : SSt) (it : Nat × List Nat) : SSt :=
 if it.2 = [34] then match st.2.1 with
   | none => (st.1, some it.1, st.2.2)
   | some o => (it.1 + 1, none, if st.1 ≠ o then st.2.2 ++ [bk z (some st.1) (some o)] else st.2.2)
 else st
theorem ou (z : Str) : ∀ (l : List (Nat × List Nat)) (st : SSt), (l.foldl (jU z) st).2.2.length ≤ st.2.2.length + l.length
 | [], st => by simp
 | it :: l, st => by
   rw [aR]; have h1 := ou z l (jU z st it); have h2 : (jU z st it).2.2.length ≤ st.2.2.length + 1 := by
     unfold jU; split
     · split
       · simp
       simp only; split <;> simp
     simp
   rw [ay]; exact a272 h1 h2
theorem rQ (z : Str) : ∀ (l : List (Nat × List Nat)) (st : SSt), (∀ x ∈ st.2.2, x.length ≤ z.length) → ∀ x ∈ (l.foldl (jU z) st).2.2, x.length ≤ z.length
 | [], st, h => h
 | it :: l, st, h => by
   rw [aR]; refine rQ z l (jU z st it) fun x hx => ?_; unfold jU at hx; split at hx
   · split at hx
     · exact h x hx
     simp only at hx; split at hx
     · rcases mAp hx with hx | hx
       · exact h x hx
       rcases mSg hx with rfl; exact d8 _ _ _
     exact h x hx
   exact h x hx
theorem nW : ∀ (l : List Nat) (p : Nat) (b : Bool) (q : Nat), (no l p b q).length ≤ l.length + 1
 | [], p, b, q => by unfold no; split <;> simp
 | c :: r, p, b, q => by
   unfold no; have h1 := nW r (p + 1) false p; have h2 := nW r (p + 1) true p; split
   · simp; exact h1
   split
   · simp; exact a271 h2
   simp; exact h1
noncomputable def hasQ (z : Str) : Bool := !(bj z (aa "\"") 0 z.length 1).isEmpty
noncomputable def kx (z : Str) : List (Nat × List Nat) := no z.cps.toList 0 false 0
noncomputable def mN (z : Str) (st : SSt) : Str := dC (aa "") (if st.1 < z.length then st.2.2 ++ [bk z (some st.1) none] else st.2.2)
noncomputable def kR (z : Str) : Str := if hasQ z then mN z ((kx z).foldl (jU z) (0, none, [])) else z
theorem rH {z : Str} (hz : z.length ≤ 1000) {A : au} {m : Mp} {s : Shared} {t : Tok} {Q E : VP} (hR : Rm A 3 10) (b : Bef w m s)
   (h : ∀ t m' s', Aft [] m s m' s' → Q (.str (kR z) t) s') :
   wpAny (model PG w) A (call (.ref 52) [.str z t]) Q E s := by
 refine nh (d := 2) (u := 7) (nw := []) (ns := ["addr", "start", "open_pos", "result", "pos", "ch"]) (ρ₀ := [⟨"addr", none, some (.str z t)⟩, ⟨"start", none, none⟩, ⟨"open_pos", none, none⟩, ⟨"result", none, none⟩, ⟨"pos", none, none⟩, ⟨"ch", none, none⟩]) hR b .nil rfl rfl rfl rfl rfl rfl rfl rfl rfl rfl (by decide +kernel) (by rfl) (by decide +kernel) (by decide +kernel) rfl ?_; intro A env L c s' hE hR' hc B hL; walk_at "opq"; walk_at "sts"; refine ky (fun hb => ?_) (fun hb => ?_)
 · walk_at "sts"; have e : kR z = z := by unfold kR; rw [if_neg]; unfold hasQ; simpa using hb
   have := h t m _ (B.done hc .nil jC); rw [e] at this; walk_at "qs"; exact this
 walk_at "sts"; walk_at "nL"; intro r s B; walk_at "sts"; apply src_esc B hR'; intro I s γ' B T
 refine oP (x₀ := []) (fun vs => [(r, jB vs)]) B T ["start", "open_pos", "pos", "ch"] (fun i m' ρ vs => ∃ (ts : Tok) (vo : Value), (⟨"start", none, some (.int (((kx z).take i).foldl (jU z) (0, none, [])).1 ts)⟩ : VE) ∈ ρ ∧ (⟨"open_pos", none, some vo⟩ : VE) ∈ ρ ∧
   cg vs (((kx z).take i).foldl (jU z) (0, none, [])).2.2 ∧ (match (((kx z).take i).foldl (jU z) (0, none, [])).2.1 with | none => vo = .none | some o => ∃ t, vo = .int (o : Nat) t)) ?_ ?_ ?_
 · exact ⟨_, _, by walk_at "mem", by walk_at "mem", .nil, rfl⟩
 · clear B T; rintro i v c1 γ1 m1 ρ s vs hi how ⟨ts, vo, rm1, rm2, hvs, hvo⟩ hm hv B hback Qb hN hB hQ; obtain ⟨p, cs, hpc, T, tp, tc, rfl, hT⟩ := hv; have hst : ((kx z).take (i + 1)).foldl (jU z) (0, none, []) = jU z (((kx z).take i).foldl (jU z) (0, none, [])) (p, cs) := by
     rw [bK, show (kx z)[i]? = some (p, cs) from hpc]
     simp
   have hlen : vs.length ≤ aS := by
     have h1 := jE hvs; have h2 := ou z ((kx z).take i) (0, none, []); have h3 := nW z.cps.toList 0 false 0; have h4 : ((kx z).take i).length ≤ (kx z).length := by rw [bq]; exact bV _ _
     have h5 : z.cps.toList.length = z.length := by simp [du]
     rw [aD]; unfold kx at *
     simp only [bU] at h2; exact a270 hz h1 h2 h3 h4 h5
   generalize hS : ((kx z).take i).foldl (jU z) (0, none, []) = S at *
   obtain ⟨st, op, acc⟩ := S; refine kE B hR'.handled hT rfl rfl ?_; clear B; intro s B; refine ak (af ?_); walk_at "st"; refine ak (af ?_); walk_at "st"; refine aL ?_; walk_at "sts"; rw [cps_eq, show (aa "\"").cps = [34].toArray from by decide]
   have hcs : (cs.toArray == [34].toArray) = decide (cs = [34]) := by
     by_cases q : cs = [34]
     · subst q; rfl
     rw [decide_eq_false q]; refine beq_eq_false_iff_ne.mpr fun e => q (by simpa using congrArg gV e)
   rw [hcs]; refine ky (fun hb => ?_) (fun hb => ?_)
   · have hq : cs = [34] := of_decide_eq_true hb; cases op with
     | none =>
       simp only at hvo; subst hvo; walk_at "sts"; refine lb rfl ?_; walk_at "sts"; have e : jU z (st, none, acc) (p, cs) = (st, some p, acc) := by unfold jU; rw [if_pos hq]
       rw [e] at hst; walk_at "qs"; exact hN _ m1 _ _ vs (by walk_at "ow") ⟨ts, _, by rw [hst]; walk_at "mem", by walk_at "mem", by rw [hst]; exact hvs, by rw [hst]; exact ⟨_, rfl⟩⟩ .rfl B
     | some o =>
       obtain ⟨to, hvo⟩ := hvo; subst hvo; walk_at "sts"; refine j6 rfl ?_; walk_at "sts"; refine ky (fun hne => ?_) (fun hne => ?_)
       · have hne1 : ¬((st : Int) = (o : Int)) := by simpa using hne
         have hne' : st ≠ o := a269 hne1
         walk_at "sts"; refine lF B (.int _ _) (.int _ _) ?_ (szl (a97 hz)); clear B; intro tx s B; walk_at "sts"; refine kL B .head hlen ?_; clear B; intro s B; walk_at "sts"; have e : jU z (st, some o, acc) (p, cs) = (p + 1, none, acc ++ [bk z (some (st : Int)) (some (o : Int))]) := by unfold jU; rw [if_pos hq]; simp only; rw [if_pos hne']
         rw [e] at hst; walk_at "qs"; exact hN _ m1 _ _ _ (by walk_at "ow") ⟨_, _, by rw [hst]; walk_at "mem", by walk_at "mem", by rw [hst]; exact kK hvs (.cons _ _ .nil), by rw [hst]⟩ .rfl B
       have hne1 : ((st : Int) = (o : Int)) := by simpa using hne
       have hne' : ¬ st ≠ o := a268 hne1
       walk_at "sts"; have e : jU z (st, some o, acc) (p, cs) = (p + 1, none, acc) := by unfold jU; rw [if_pos hq]; simp only; rw [if_neg hne']
       rw [e] at hst; walk_at "qs"; exact hN _ m1 _ _ _ (by walk_at "ow") ⟨_, _, by rw [hst]; walk_at "mem", by walk_at "mem", by rw [hst]; exact hvs, by rw [hst]⟩ .rfl B
   have hq : ¬ cs = [34] := of_decide_eq_false hb; walk_at "sts"; have e : jU z (st, op, acc) (p, cs) = (st, op, acc) := by unfold jU; rw [if_neg hq]
   rw [e] at hst; walk_at "qs"; exact hN _ m1 _ _ vs (by walk_at "ow") ⟨ts, vo, by rw [hst]; walk_at "mem", by walk_at "mem", by rw [hst]; exact hvs, by rw [hst]; exact hvo⟩ .rfl B
 clear B T; rintro γ1 m1 ρ s vs how ⟨ts, vo, rm1, rm2, hvs, hvo⟩ hm B; have htk : (kx z).take (no z.cps.toList 0 false 0).length = kx z := c4; rw [htk] at rm1 hvs; have hsp : kR z = mN z ((kx z).foldl (jU z) (0, none, [])) := by unfold kR; rw [if_pos]; unfold hasQ; simpa using hb
 have hfl := ou z (kx z) (0, none, []); have hel := nW z.cps.toList 0 false 0; have hbd := rQ z (kx z) (0, none, []) (by simp); have h5 : z.cps.toList.length = z.length := by simp [du]
 generalize hS : (kx z).foldl (jU z) (0, none, []) = S at *
 obtain ⟨st, op, acc⟩ := S; simp only [bU] at hfl; unfold kx at hfl; have hsum : ∀ l : List Str, (∀ x ∈ l, x.length ≤ z.length) → (l.map (·.length)).sum ≤ l.length * z.length := by
   intro l; induction l with
   | nil => intro _; simp
   | cons x r ih =>
     intro hx; have := ih fun y hy => hx y (.tail _ hy); have := hx x (.head _); simp only [ag, bx, ay, Nat.succ_mul]; exact a150 (by assumption) this
 have hmul : ∀ n : Nat, n ≤ 1002 → n * z.length ≤ 1002 * 1000 := fun n hn => gv hn hz; walk_at "sts"; refine s_len B (szl (a97 hz)) ?_; clear B; intro t1 s B; walk_at "sts"; refine ky (fun hb2 => ?_) (fun hb2 => ?_)
 · have hb3 : st < z.length := by have : ((st : Int) < (z.length : Int)) := (by simpa using hb2); exact a267 this
   walk_at "sts"; refine lF B (.int _ _) .none ?_ (szl (a97 hz)); clear B; intro tx s B; walk_at "sts"; refine kL B .head (by rw [jE hvs, aD]; simp only; exact a266 hz hel h5 hfl) ?_; clear B; intro s B; walk_at "sts"; refine mP B (B.at (.head _)) (kK hvs (.cons _ _ .nil)) ?_ ?_
   · have := hsum (acc ++ [bk z (some st) none]) (fun x hx => by
       rcases mAp hx with hx | hx
       · walk_at "qs"; exact hbd x hx
       rcases mSg hx with rfl; exact d8 _ _ _)
     have h7 := hmul (acc ++ [bk z (some st) none]).length (by simp; exact a265 hz hel h5 hfl); rw [show (aa "").length = 0 from by decide, Nat.mul_zero, fS]
     walk_at "qs"; exact ad this (ad h7 (by decide))
   clear B; intro t2 s B; have := h t2 m1 _ (B.done hc .nil jC); rw [hsp] at this; unfold mN at this; simp only at this; rw [if_pos hb3] at this; walk_at "qs"; exact this
 have hb3 : ¬ st < z.length := by have : ¬ ((st : Int) < (z.length : Int)) := (by simpa using hb2); exact a264 this
 walk_at "sts"; refine mP B (B.at (.head _)) hvs ?_ ?_
 · have := hsum acc hbd; have h7 := hmul acc.length (a263 hz hel h5 hfl); rw [show (aa "").length = 0 from by decide, Nat.mul_zero, fS]
   walk_at "qs"; exact ad this (ad h7 (by decide))
 clear B; intro t2 s B; have := h t2 m1 _ (B.done hc .nil jC); rw [hsp] at this; unfold mN at this; simp only at this; rw [if_neg hb3] at this; walk_at "qs"; exact this
end
end
section
section
variable {w : World}
noncomputable def lL (st : Option Int) (it : Nat × List Nat) : Option Int :=
 match st with
 | none => none
 | some n => if it.2 = [40] then some (n + 1) else if it.2 = [41] then (if n - 1 < 0 then none else some (n - 1)) else some n
noncomputable def chk (z : Str) : Bool := match (kx (kR z)).foldl lL (some 0) with | none => false | some n => n == 0
theorem pH : ∀ l : List (Nat × List Nat), l.foldl lL none = none
 | [] => rfl
 | _ :: l => pH l
theorem cps_dec (cs : List Nat) (y : Str) (k : Nat) (hy : y.cps = [k].toArray) : ((⟨cs.toArray⟩ : Str) == y) = decide (cs = [k]) := by
 rw [cps_eq, hy]; by_cases q : cs = [k]
 · subst q; rw [decide_eq_true rfl]; simp
 rw [decide_eq_false q]; refine beq_eq_false_iff_ne.mpr fun e => q (by simpa using congrArg gV e)
theorem rI {z : Str} (hz : z.length ≤ 1000) {A : au} {m : Mp} {s : Shared} {t : Tok} {Q E : VP} (hR : Rm A 4 13) (b : Bef w m s)
   (h : ∀ m' s', Aft [] m s m' s' → Q (.bool (chk z)) s') :
   wpAny (model PG w) A (call (.ref 59) [.str z t]) Q E s := by
 refine nh (d := 3) (u := 10) (nw := []) (ns := ["addr", "opens", "pos", "ch"]) (ρ₀ := [⟨"addr", none, some (.str z t)⟩, ⟨"opens", none, none⟩, ⟨"pos", none, none⟩, ⟨"ch", none, none⟩]) hR b .nil rfl rfl rfl rfl rfl rfl rfl rfl rfl rfl (by decide +kernel) (by rfl) (by decide +kernel) (by decide +kernel) rfl ?_; intro A env L c s' hE hR' hc B hL; walk_at "opq"; walk_at "sts"; refine rH hz hR' B.bef ?_; intro t1 m1 s1 f1; replace B := B.aft f1; walk_at "sts"; apply src_esc B hR'; intro I s γ' B T; refine lK B T ["opens", "pos", "ch"] (fun i m' ρ => ∃ (n : Int) (tn : Tok), (⟨"opens", none, some (.int n tn)⟩ : VE) ∈ ρ ∧ ((kx (kR z)).take i).foldl lL (some 0) = some n) ⟨0, _, by walk_at "mem", rfl⟩ ?_ ?_
 · clear B T; rintro i v c1 γ1 m1 ρ s hi how ⟨n, tn, rm, hn⟩ hm hv B hback Qb hN hB hQ; obtain ⟨p, cs, hpc, T, tp, tc, rfl, hT⟩ := hv; have hst : ((kx (kR z)).take (i + 1)).foldl lL (some 0) = lL (some n) (p, cs) := by
     rw [bK, show (kx (kR z))[i]? = some (p, cs) from hpc]
     simp [hn]
   have hall : (kx (kR z)).foldl lL (some 0) = ((kx (kR z)).drop (i + 1)).foldl lL (lL (some n) (p, cs)) := by
     rw [← hst, ← ct, dO]
   refine kE B hR'.handled hT rfl rfl ?_; clear B; intro s B; refine ak (af ?_); walk_at "st"; refine ak (af ?_); walk_at "st"; refine aL ?_; walk_at "sts"; rw [cps_dec cs _ 40 (by decide)]; refine ky (fun hb => ?_) (fun hb => ?_)
   · have hq : cs = [40] := of_decide_eq_true hb; walk_at "sts"; walk_at "qs"; exact hN _ m1 _ _ (by walk_at "ow") ⟨n + 1, _, by walk_at "mem", by rw [hst]; unfold lL; simp only; rw [if_pos hq]⟩ .rfl B
   have hq : ¬ cs = [40] := of_decide_eq_false hb; walk_at "sts"; rw [cps_dec cs _ 41 (by decide)]; refine ky (fun hb => ?_) (fun hb => ?_)
   · have hq2 : cs = [41] := of_decide_eq_true hb; walk_at "sts"; refine ky (fun hb3 => ?_) (fun hb3 => ?_)
     · have hlt : n - 1 < 0 := of_decide_eq_true hb3; walk_at "sts"; have := h _ _ ((hback.go B).done hc .nil jC); have e : chk z = false := by
         unfold chk; rw [hall]; unfold lL; simp only; rw [if_neg hq, if_pos hq2, if_pos hlt]; rw [show (List.foldl (fun st (it : Nat × List Nat) => match st with | none => none | some n => if it.2 = [40] then some (n + 1) else if it.2 = [41] then (if n - 1 < 0 then none else some (n - 1)) else some n) (none : Option Int) (List.drop (i + 1) (kx (kR z)))) = none from pH _]
       rw [e] at this; walk_at "qs"; refine hQ _ _ ?_; walk_at "qs"; exact this
     have hlt : ¬ n - 1 < 0 := of_decide_eq_false hb3; walk_at "sts"; walk_at "qs"; exact hN _ m1 _ _ (by walk_at "ow") ⟨n - 1, _, by walk_at "mem", by rw [hst]; unfold lL; simp only; rw [if_neg hq, if_pos hq2, if_neg hlt]⟩ .rfl B
   have hq2 : ¬ cs = [41] := of_decide_eq_false hb; walk_at "sts"; walk_at "qs"; exact hN _ m1 _ _ (by walk_at "ow") ⟨n, tn, by walk_at "mem", by rw [hst]; unfold lL; simp only; rw [if_neg hq, if_neg hq2]⟩ .rfl B
 clear B T; rintro γ1 m2 ρ s how ⟨n, tn, rm, hn⟩ hm B; have htk : (kx (kR z)).take (no (kR z).cps.toList 0 false 0).length = kx (kR z) := c4; rw [htk] at hn; walk_at "sts"; have := h _ _ (B.done hc .nil jC); unfold chk at this; rw [hn] at this; walk_at "qs"; exact this
end
end
section
theorem All2.up {α : Type} {m m' : Mp} {W : Addr → α → Heap → Prop} {xs : List Addr} {ys : List α} (l : m.le m') (h : All2 (fun x y => Kn m (W x y)) xs ys) : All2 (fun x y => Kn m' (W x y)) xs ys := h.imp fun _ _ k => k.up l
noncomputable def KP (m : Mp) (a : Addr) (ps : List (Int × Int)) : Prop := ∃ bs : List Addr, (∃ o, m a = some o ∧ jB (bs.map d0) o) ∧ All2 (fun b p => Kn m (LI b [p.1, p.2])) bs ps
theorem KP.up {m m' : Mp} {a : Addr} {ps : List (Int × Int)} (l : m.le m') (h : KP m a ps) : KP m' a ps := by obtain ⟨bs, ⟨o, h1, h2⟩, h3⟩ := h; exact ⟨bs, ⟨o, l _ _ h1, h2⟩, h3.up l⟩
noncomputable def mu (st : Option (List Int)) (p : Int × Int) : Option (List Int) :=
 match st with
 | none => none
 | some ms => if ms.getD p.1.toNat 0 == ms.getD p.2.toNat 0 then none else some (ms.map fun k => if k == ms.getD p.1.toNat 0 then ms.getD p.2.toNat 0 else k)
noncomputable def kG (ps : List (Int × Int)) : Bool := match ps.foldl mu (some (jF 11)) with | none => false | some _ => ps.length == 10
theorem ny : ∀ l : List (Int × Int), l.foldl mu none = none
 | [] => rfl
 | _ :: l => ny l
section
variable {w : World}
theorem c_onetree {a : Addr} {ps : List (Int × Int)} {A : au} {m : Mp} {s : Shared} {Q E : VP} (hR : Rm A 1 4) (b : Bef w m s) (hp : KP m a ps) (hr : ∀ p ∈ ps, 0 ≤ p.1 ∧ p.1 < 11 ∧ 0 ≤ p.2 ∧ p.2 < 11) (hl : ps.length ≤ 1000)
   (h : ∀ m' s', Aft [] m s m' s' → Q (.bool (kG ps)) s') :
   wpAny (model PG w) A (call (.ref 307) [.ref a]) Q E s := by
 refine oR (d := 0) (u := 1) (nw := []) (ns := ["ties"]) (cn := ["marks", "one", "other"])
   (ρ₀ := fun L => [⟨"ties", none, some (.ref a)⟩, ⟨"marks", some (L + 1), none⟩, ⟨"one", some (L + 1 + 1), none⟩, ⟨"other", some (L + 1 + 1 + 1), none⟩]) (own₀ := fun L => [L, L + 1, L + 1 + 1, L + 1 + 1 + 1]) hR b .nil rfl rfl rfl rfl rfl rfl rfl rfl rfl rfl (by rfl) (by decide +kernel) (by decide +kernel) (by decide +kernel) (fun L => rfl) (fun L => rfl) (fun L => rfl) ?_
 intro A env L c s' hE hR' hc B hL; walk_at "opq"; walk_at "sts"; refine n_range (k := 11) B ?_; clear B; intro r m1 s1 hm1 hr1 B; walk_at "sts"; refine l_ofrange B hR'.handled (B.kn hr1) (by decide +kernel) (by decide) ?_; clear B; intro mk m2 s2 hm2 hk2 B; walk_at "sts"; have hp2 := (hp.up hm1).up hm2; refine x12 hp2 fun bs hko hbs => ?_; have hbl := hbs.length; apply jJ B hR'.handled hko; intro I s B T
 refine lK B T ["marks", "one", "other"] (fun i m' ρ => ∃ (ms : List Int) (mk : Addr), (⟨"marks", some (L + 1), some (.ref mk)⟩ : VE) ∈ ρ ∧
     Kn m' (LI mk ms) ∧ ms.length = 11 ∧ (ps.take i).foldl mu (some (jF 11)) = some ms) ?_ ?_ ?_
 · exact ⟨jF 11, mk, by walk_at "mem", hk2, rfl, rfl⟩
 · rintro i v c1 γ1 m3 ρ s hi ho ⟨ms, mk, hmm, hmk, hml, hms⟩ hm hv B hback Qb hN hK hQ; have hi' : i < bs.length := by simpa using hi
   have hbi : bs[i]? = some bs[i] := ac hi'; refine x12 (hbs.get hbi) fun pr hpr hkb => ?_; have hv' : v = .ref bs[i] := by
     rw [ar, hbi] at hv; walk_at "qs"; exact (cK hv).symm
   subst hv'; obtain ⟨x, y⟩ := pr; have hr1 := hr (x, y) (av hpr); have hst : (ps.take (i + 1)).foldl mu (some (jF 11)) = mu (some ms) (x, y) := by
     rw [bK, hpr]; simp [hms]
   have hall : ps.foldl mu (some (jF 11)) = (ps.drop (i + 1)).foldl mu (mu (some ms) (x, y)) := by
     rw [← hst, ← ct, dO]
   refine x12 (B.kn (hkb.up hm)) fun vs hvs hia => ?_; cases hia with
   | cons _ tx hia =>
   cases hia with
   | cons _ ty hia =>
   cases hia
   refine as_list B hR'.handled hvs rfl rfl ?_; clear B; intro s B; refine ak (af ?_); walk_at "st"; refine ak (af ?_); walk_at "st"; refine aL ?_; have ex : ms[x.toNat]? = some (ms.getD x.toNat 0) := by
     have : x.toNat < ms.length := a278 hml hr1
     rw [ab, ac this]; rfl
   have ey : ms[y.toNat]? = some (ms.getD y.toNat 0) := by
     have : y.toNat < ms.length := a277 hml hr1
     rw [ab, ac this]; rfl
   walk_at "sts"; refine kI (B.kn hmk) (by exact hr1.1) (a275 hr1) ex fun t1 => ?_; walk_at "sts"; refine kI (B.kn hmk) (by exact hr1.2.2.1) (a274 hr1) ey fun t2 => ?_; walk_at "sts"; refine ky (fun hb => ?_) (fun hb => ?_)
   · walk_at "sts"; have := h _ _ ((hback.go B).done hc .nil jC); have e : kG ps = false := by
       unfold kG; rw [hall]; have : mu (some ms) (x, y) = none := by unfold mu; simp only; rw [if_pos hb]
       rw [this, ny]
     rw [e] at this; walk_at "qs"; refine hQ _ _ ?_; walk_at "qs"; exact this
   walk_at "sts"; refine nE B (hE.kind (by rfl)) rfl ?_; refine lc_eval B [⟨"marks", some (L + 1), some (.ref mk)⟩, ⟨"one", some (L + 1 + 1), some (.int x tx)⟩, ⟨"other", some (L + 1 + 1 + 1), some (.int y ty)⟩] (by walk_at "ce") rfl rfl (by decide +kernel) ?_; walk_at "sts"; refine x12 (B.koI hmk) fun us hko2 hus => ?_; have hul := jM hus; apply jJ B hR'.handled hko2; intro I s B T
   refine lc_go B T [⟨"marks", some (L + 1), some (.ref mk)⟩, ⟨"one", some (L + 1 + 1), some (.int x tx)⟩, ⟨"other", some (L + 1 + 1 + 1), some (.int y ty)⟩] ["mark"] (fun _ => true)
     (fun i v _ => ∃ t, v = .int ((fun k => if k == ms.getD x.toNat 0 then ms.getD y.toNat 0 else k) (ms.getD i 0)) t) ⟨rfl, by decide +kernel, by decide +kernel, by walk_at "ce", rfl, by show fQ [aa "mark", aa "marks", aa "one", aa "other"]; decide +kernel⟩ (szl (a276 hml hul)) ?_ ?_
   · rintro j v c2 cenv L2 γ2 m4 nw2 s hj hE hm4 hv hnw B; obtain ⟨nj, tj, hnj, rfl⟩ := kD hus hv; have hgj : ms.getD j 0 = nj := by rw [ab, hnj]; rfl
     simp only [ag, b6, aY, bi] at B; refine af ?_; walk_at "st"; refine kU ⟨rfl, ?_⟩; rw [if_pos rfl]; walk_at "sts"; refine kI (B.kn (hmk.up hm4)) (by exact hr1.1) (a275 hr1) ex fun t3 => ?_; walk_at "sts"; refine ky (fun hb5 => ?_) (fun hb5 => ?_)
     · walk_at "sts"; refine kI (B.kn (hmk.up hm4)) (by exact hr1.2.2.1) (a274 hr1) ey fun t4 => ?_; walk_at "qs"; exact oX B .rfl (fun _ _ => ⟨t4, by simp only [hgj]; rw [if_pos hb5]⟩) rfl
     walk_at "sts"; walk_at "qs"; exact oX B .rfl (fun _ _ => ⟨tj, by simp only [hgj]; rw [if_neg (by rw [hb5]; decide)]⟩) rfl
   intro γ2 m4 xs mk2 s hm4 hk4 hxs B; have hi2 := B.ints hxs; walk_at "sts"; walk_at "qs"; refine hN _ m4 _ _ (by walk_at "ow") ⟨_, mk2, by walk_at "mem", fun hp ok => ⟨xs, hk4 hp ok, hi2⟩, ?_, ?_⟩ hm4 B
   · rw [lC]; simp [hul, hml]
   rw [hst]; unfold mu; simp only; rw [if_neg (by rw [hb]; decide), lC, hul]; walk_at "qs"; exact congrArg some (jI rfl).symm
 rintro γ1 m3 ρ s ho ⟨ms, mk, hmm, hmk, hml, hms⟩ hm B; walk_at "sts"; refine x12 hko fun o ho hP => ?_; refine p7 B ⟨o, B.ok _ _ (hm _ _ ho), hP⟩ (by rw [aD]; simp; exact a164 hl hbl) ?_; clear B; intro t1 s B; walk_at "sts"; have := h _ _ (B.done hc .nil jC); have e : kG ps = ((ps.length : Int) == 10) := by
   unfold kG; have ht : ps.take (List.map d0 bs).length = ps := by rw [al, hbl]; exact c4
   rw [ht] at hms; rw [hms]; by_cases q : ps.length = 10
   · rw [q]; rfl
   have : ¬ ((ps.length : Int) = 10) := a273 q
   rw [beq_eq_false_iff_ne.mpr q, beq_eq_false_iff_ne.mpr this]
 rw [e, ← hbl] at this; simpa using this
end
end
section
section
variable {w : World}
noncomputable def kQ (ls : List Str) : Tr → Str
 | .leaf i => ls.getD i aj
 | .node sg l r _ => aa "(" ++ kQ ls l ++ sg ++ kQ ls r ++ aa ")"
noncomputable def Tr.fits (n : Nat) : Tr → Prop
 | .leaf i => i < n
 | .node sg l r mid => sg.length = 1 ∧ l.fits n ∧ r.fits n ∧ mid < n
theorem lD {ls : List Str} {n : Nat} (hl : ∀ x ∈ ls, x.length ≤ 100) : ∀ t : Tr, t.fits n → (kQ ls t).length ≤ 100 * t.size
 | .leaf i, h => by
   unfold kQ Tr.size; rw [ab]; cases e : ls[i]? with
   | none => simp [aj, du]
   | some x => exact ad (hl x (av e)) (a289)
 | .node sg l r mid, h => by
   refine x04 h fun h1 h2 h3 _ => ?_; have a := lD hl l h2; have b := lD hl r h3; unfold kQ Tr.size; rw [jz, jz, jz, jz]; rw [show (aa "(").length = 1 from by decide, show (aa ")").length = 1 from by decide]
   exact a288 h1 a b
theorem c_written {ls : List Str} (hll : ls.length ≤ 1000) (hl : ∀ x ∈ ls, x.length ≤ 100) {lv : Addr} : ∀ (tr : Tr) {A : au} {m : Mp} {s : Shared} {v : Value} {Q E : VP}, tr.fits ls.length → tr.size ≤ 100 → Rm A (tr.dep + 1) (4 * tr.dep + 4) → Bef w m s → KT m v tr → Kn m (LS lv ls) →
   (∀ t m' s', Aft [] m s m' s' → Q (.str (kQ ls tr) t) s') →
   wpAny (model PG w) A (call (.ref 297) [v, .ref lv]) Q E s := by
 intro tr; induction tr with
 | leaf i =>
   intro A m s v Q E hfit hsz hR b hk hlv h; obtain ⟨tv, rfl⟩ := hk; refine nh (d := 0) (u := 1) (nw := []) (ns := ["tree", "leaves"]) (ρ₀ := [⟨"tree", none, some (.int i tv)⟩, ⟨"leaves", none, some (.ref lv)⟩]) hR b .nil rfl rfl rfl rfl rfl rfl rfl rfl rfl rfl (by decide +kernel) (by rfl) (by decide +kernel) (by decide +kernel) rfl ?_; intro A env L c s' hE hR' hc B hL; walk_at "opq"; walk_at "sts"; refine kt ?_; walk_at "sts"; refine lb rfl ?_; walk_at "sts"; have hi : ls[i]? = some (ls.getD i aj) := by
     have : i < ls.length := hfit; rw [ab, ac this]; rfl
   have hb : i < ls.length := hfit; refine lV (B.kn hlv) (a12) (a28 hll hb) hi fun t1 => ?_; walk_at "qs"; exact h t1 _ _ (B.done hc .nil jC)
 | node sg l r mid ihl ihr =>
   intro A m s v Q E hfit hsz hR b hk hlv h; obtain ⟨a, vl, vr, ts, tm, rfl, hko, hkl, hkr⟩ := hk; refine x04 hfit fun hf1 hf2 hf3 hf4 => ?_; have hs1 : l.size ≤ 100 ∧ r.size ≤ 100 := by unfold Tr.size at hsz; exact a287 hsz
   have hd : l.dep ≤ max l.dep r.dep ∧ r.dep ≤ max l.dep r.dep := ⟨cX _ _, cL _ _⟩; refine nh (d := max l.dep r.dep + 1) (u := 4 * max l.dep r.dep + 5) (nw := []) (ns := ["tree", "leaves"]) (ρ₀ := [⟨"tree", none, some (.ref a)⟩, ⟨"leaves", none, some (.ref lv)⟩]) hR b .nil rfl rfl rfl rfl rfl rfl rfl rfl rfl rfl (by decide +kernel) (by rfl) (by decide +kernel) (by decide +kernel) rfl ?_; intro A env L c s' hE hR' hc B hL; walk_at "opq"; walk_at "sts"; refine j9 B (B.ato hko) ?_; clear B; intro s B; walk_at "sts"; refine j6 rfl ?_; walk_at "sts"; refine j0 (B.ato hko) (by decide) (by decide) rfl ?_; walk_at "sts"; refine ihl hf2 hs1.1 (hR'.less (a286) (a285)) B.bef hkl hlv ?_; intro t1 m1 s1 f1; replace B := B.aft f1; walk_at "sts"; have w1 := lD (n := ls.length) hl l hf2; have w2 := lD (n := ls.length) hl r hf3; have p1 : (aa "(").length = 1 := by decide
   have p2 : (aa ")").length = 1 := by decide
   refine lN B (szl (a284 hs1 w1 p1)) ?_; clear B; intro t2 s B; walk_at "sts"; refine j0 (B.ato (jQ f1.le hko)) (by decide) (by decide) rfl ?_; refine lN B (by rw [jz]; exact szl (a283 hf1 hs1 w1 p1)) ?_; clear B; intro t3 s B; walk_at "sts"; refine j0 (B.ato (jQ f1.le hko)) (by decide) (by decide) rfl ?_; walk_at "sts"; refine ihr hf3 hs1.2 (hR'.less (a282) (a281)) B.bef (hkr.up f1.le) (hlv.up f1.le) ?_; intro t4 m4 s4 f4; replace B := B.aft f4; refine lN B (by rw [jz, jz]; exact szl (a280 hf1 hs1 w1 w2 p1)) ?_; clear B; intro t5 s B; walk_at "sts"; refine lN B (by rw [jz, jz, jz]; exact szl (a279 hf1 hs1 w1 w2 p1 p2)) ?_; clear B; intro t6 s B; walk_at "qs"; exact h t6 _ _ (B.done hc .nil jC)
end
end
section
section
variable {w : World}
noncomputable def Tr.endOf : Tr → Int
 | .leaf i => i
 | .node _ _ _ mid => 6 + mid
noncomputable def Tr.ends (ch : List Int) : Tr → List Int
 | .leaf _ => []
 | .node sg l r mid => if sg = aa "*" then [l.endOf, r.endOf] else if ch.any (fun x => x == (mid : Int)) then [r.endOf] else [l.endOf]
noncomputable def ties (ch : List Int) : Tr → List (Int × Int)
 | .leaf _ => []
 | .node sg l r mid => (Tr.ends ch (.node sg l r mid)).map (fun e => ((6 + mid : Int), e)) ++ ties ch l ++ ties ch r
theorem mL (ch : List Int) : ∀ t : Tr, (ties ch t).length ≤ 2 * t.size
 | .leaf _ => by simp [ties]
 | .node sg l r mid => by
   have a := mL ch l; have b := mL ch r; have c : (Tr.ends ch (.node sg l r mid)).length ≤ 2 := by
     show (if sg = aa "*" then _ else if _ then _ else _ : List Int).length ≤ 2
     split
     · simp
     split <;> simp
   unfold ties Tr.size; rw [aw, aw, al]; exact a294 a b c
theorem KP.append {w : World} {c : Cx} {γ : Array aE} {m : Mp} {env : Env} {own : List Addr} {ρ : List VE} {nw : Led} {s : Shared} {A : au} {E : VP} {a b : Addr} {ps qs : List (Int × Int)} {Q : VP} (B : Bd w c γ m env own ρ nw s) (ha : KP m a ps) (hb : KP m b qs) (hz : ps.length + qs.length ≤ 10000)
   (h : ∀ r m' s', m.le m' → KP m' r (ps ++ qs) → Bd w c γ m' env own ρ nw s' → Q (.ref r) s') : wpAny (model PG w) A (dv .Add (.ref a) (.ref b)) Q E s := by
 refine x12 ha fun bs h1 h2 => ?_; refine x12 hb fun ds h3 h4 => ?_; have l1 := h2.length; have l2 := h4.length; refine my B (B.ato h1) (B.ato h3) (by rw [al, al]; exact szl (a293 hz l1 l2)) ?_; intro r m' s' hm hk B'; refine h r m' s' hm ⟨bs ++ ds, ?_, (h2.up hm).append (h4.up hm)⟩ B'; rw [aM]; exact B'.ko hk
theorem c_ties {ch : List Int} {cv : Addr} : ∀ (tr : Tr) {A : au} {m : Mp} {s : Shared} {v : Value} {Q E : VP}, tr.fits 1000 → tr.size ≤ 100 → Rm A (tr.dep + 1) (4 * tr.dep + 4) → Bef w m s → KT m v tr → Kn m (LI cv ch) →
   (∀ a m' s', Aft [] m s m' s' → KP m' a (ties ch tr) → Q (.ref a) s') →
   wpAny (model PG w) A (call (.ref 302) [v, .ref cv]) Q E s := by
 intro tr; induction tr with
 | leaf i =>
   intro A m s v Q E hfit hsz hR b hk hch h; obtain ⟨tv, rfl⟩ := hk
   refine oR (d := 0) (u := 1) (nw := []) (ns := ["chosen", "ends"]) (cn := ["tree"])
     (ρ₀ := fun L => [⟨"chosen", none, some (.ref cv)⟩, ⟨"ends", none, none⟩, ⟨"tree", some (L + 1), some (.int i tv)⟩]) (own₀ := fun L => [L, L + 1]) hR b .nil rfl rfl rfl rfl rfl rfl rfl rfl rfl rfl (by rfl) (by decide +kernel) (by decide +kernel) (by decide +kernel) (fun L => rfl) (fun L => rfl) (fun L => rfl) ?_
   intro A env L c s' hE hR' hc B hL; walk_at "opq"; walk_at "sts"; refine kt ?_; walk_at "sts"; refine lb rfl ?_; walk_at "sts"; walk_at "nl"; intro a1 m1 s hm1 hk1 B; walk_at "qs"; exact h _ m1 _ (B.done hc .nil jC) ⟨[], B.ko hk1, .nil⟩
 | node sg l r mid ihl ihr =>
   intro A m s v Q E hfit hsz hR b hk hch h; obtain ⟨a, vl, vr, ts, tm, rfl, hko, hkl, hkr⟩ := hk; refine x04 hfit fun hf1 hf2 hf3 hf4 => ?_; have hs1 : l.size ≤ 100 ∧ r.size ≤ 100 := by unfold Tr.size at hsz; exact a287 hsz
   have hd : l.dep ≤ max l.dep r.dep ∧ r.dep ≤ max l.dep r.dep := ⟨cX _ _, cL _ _⟩
   refine oR (d := max l.dep r.dep + 1) (u := 4 * max l.dep r.dep + 5) (nw := []) (ns := ["chosen", "ends"]) (cn := ["tree"])
     (ρ₀ := fun L => [⟨"chosen", none, some (.ref cv)⟩, ⟨"ends", none, none⟩, ⟨"tree", some (L + 1), some (.ref a)⟩]) (own₀ := fun L => [L, L + 1]) hR b .nil rfl rfl rfl rfl rfl rfl rfl rfl rfl rfl (by rfl) (by decide +kernel) (by decide +kernel) (by decide +kernel) (fun L => rfl) (fun L => rfl) (fun L => rfl) ?_
   intro A env L c s' hE hR' hc B hL; walk_at "opq"; walk_at "sts"; refine j9 B (B.ato hko) ?_; clear B; intro s B; walk_at "sts"; refine j6 rfl ?_; walk_at "sts"; refine ma B [] (by walk_at "cs") rfl rfl rfl (hE.kind (by rfl)) rfl ?_; walk_at "sts"; refine kC B (B.ato hko) (.int _ _) (.int _ _) ?_ (by show 4 ≤ aS; decide); clear B; intro sl m1 s hm1 hk1 B
   rw [show (iQ #[dZ sg ts, vl, vr, cF (mid : Nat) tm] (some 1) (some 3) none).toList = [vl, vr] from rfl] at hk1
   apply jJ B hR'.handled (B.ko hk1); intro I s B T; refine m0 B T [] ["part"] (fun i v _ => ∃ t, v = .int ([l.endOf, r.endOf].getD i 0) t) ⟨rfl, rfl, rfl, by walk_at "cs", rfl, rfl⟩ (by show 2 ≤ aS; decide) (by walk_at "has") ?_ ?_
   · intro j v c2 cenv L2 γ2 m4 own ρ nw2 s hj hE hm4 hv hC hM B Qx hK; obtain ⟨sub, hsub, hend⟩ : ∃ sub, KT m4 v sub ∧ [l.endOf, r.endOf].getD j 0 = sub.endOf := by
       match j, hj, hv with
       | 0, _, hv => simp at hv; subst hv; exact ⟨l, (hkl.up hm1).up hm4, rfl⟩
       | 1, _, hv => simp at hv; subst hv; exact ⟨r, (hkr.up hm1).up hm4, rfl⟩
     refine af ?_; walk_at "st"; cases sub with
     | leaf i =>
       obtain ⟨ti, rfl⟩ := hsub; walk_at "sts"; refine kt ?_; walk_at "sts"; refine lb rfl ?_; walk_at "sts"; walk_at "qs"; exact hK.go (by walk_at "tn") B .rfl (fun _ _ => ⟨_, by rw [hend]; rfl⟩)
     | node sg2 l2 r2 mid2 =>
       obtain ⟨a2, vl2, vr2, ts2, tm2, rfl, hko2, _, _⟩ := hsub; walk_at "sts"; refine j9 B (B.ato hko2) ?_; clear B; intro s B; walk_at "sts"; refine j6 rfl ?_; walk_at "sts"; refine j0 (B.ato hko2) (by decide) (by decide) rfl ?_; refine i_add B ?_; clear B; intro tk s B; walk_at "qs"; exact hK.go (by walk_at "tn") B .rfl (fun _ _ => ⟨_, by rw [hend]; rfl⟩)
   intro γ2 m4 xs e1 ρ s hm4 hk4 hxs hV B; have hi2 := B.ints hxs; have hie : Kn m4 (LI e1 [l.endOf, r.endOf]) := fun hp ok => ⟨xs, hk4 hp ok, hi2⟩; have hko4 := jQ (hm1.trans hm4) hko; walk_at "st"; walk_at "st"; walk_at "st"; refine am (Q := fun v s' => ∃ e2 m5, v = .ref e2 ∧ m4.le m5 ∧ Kn m5 (LI e2 (Tr.ends ch (.node sg l r mid))) ∧ Bd w c γ2 m5 env own ρ [] s') ?_ ?_ (fun _ _ x => x)
   · walk_at "sts"; refine j0 (B.ato hko4) (by decide) (by decide) rfl ?_; walk_at "sts"; refine ky (fun hb => ?_) (fun hb => ?_)
     · have hs : sg = aa "*" := by simpa using hb
       walk_at "sts"; walk_at "qs"; exact ⟨e1, m4, rfl, .rfl, by show Kn m4 (LI e1 (if sg = aa "*" then _ else _)); rw [if_pos hs]; exact hie, B⟩
     have hs : ¬ sg = aa "*" := by simpa using hb
     refine x12 (B.koI hie) fun us hus hui => ?_; cases hui with
     | cons _ t1 hui =>
     cases hui with
     | cons _ t2 hui =>
     cases hui
     walk_at "sts"; refine j0 (B.ato hko4) (by decide) (by decide) rfl ?_; walk_at "sts"; refine x12 (B.kn (hch.up (hm1.trans hm4))) fun cs hcs hci => ?_; refine in_list_ints hcs.list hci ?_; walk_at "sts"; refine ky (fun hb2 => ?_) (fun hb2 => ?_)
     · walk_at "sts"; refine kC B (B.ato hus) (.int _ _) .none ?_ (by show 2 ≤ aS; decide); clear B; intro e2 m5 s hm5 hk5 B
       walk_at "qs"; refine ⟨e2, m5, rfl, hm5, ?_, B⟩; show Kn m5 (LI e2 (if sg = aa "*" then _ else if _ then _ else _))
       rw [if_neg hs, if_pos hb2]; have e : (iQ #[cF l.endOf t1, cF r.endOf t2] (some 1) none none).toList = [cF r.endOf t2] := congrArg gV (fy #[cF l.endOf t1, cF r.endOf t2] 1); rw [e] at hk5; walk_at "qs"; exact fun hp ok => ⟨[cF r.endOf t2], hk5 hp ok, .cons _ t2 .nil⟩
     walk_at "sts"; refine kC B (B.ato hus) .none (.int _ _) ?_ (by show 2 ≤ aS; decide); clear B; intro e2 m5 s hm5 hk5 B
     walk_at "qs"; refine ⟨e2, m5, rfl, hm5, ?_, B⟩; show Kn m5 (LI e2 (if sg = aa "*" then _ else if _ then _ else _))
     rw [if_neg hs, if_neg (by rw [hb2]; decide)]; walk_at "qs"; exact fun hp ok => ⟨[cF l.endOf t1], hk5 hp ok, .cons _ t1 .nil⟩
   clear B; rintro _ s ⟨e2, m5, rfl, hm5, hk5, B⟩; generalize hEn : Tr.ends ch (.node sg l r mid) = en at *
   walk_at "sts"; refine jH B [⟨"tree", some (L + 1), some (.ref a)⟩] (by walk_at "cs") rfl rfl rfl ?_; walk_at "sts"; refine x12 (B.koI hk5) fun us hkoe hui => ?_; have hel : us.length ≤ 2 := by
     rw [jM hui, ← hEn]; show (if sg = aa "*" then _ else if _ then _ else _ : List Int).length ≤ 2
     split
     · simp
     split <;> simp
   apply jJ B hR'.handled hkoe; intro I s B T; refine ln B T [⟨"tree", some (L + 1), some (.ref a)⟩] ["end"] (fun i v h => ∃ b, v = .ref b ∧ LI b [6 + (mid : Int), en.getD i 0] h) ⟨rfl, rfl, rfl, by walk_at "cs", rfl, rfl⟩ (szl (a292 hel)) ?_ ?_
   · intro j v c2 cenv L2 γ3 m6 own ρ nw2 s hj hE hm6 hv hC hM B Qx hK; obtain ⟨nj, tj, hnj, rfl⟩ := kD hui hv; have hgj : en.getD j 0 = nj := by rw [ab, hnj]; rfl
     refine af ?_; walk_at "st"; walk_at "sts"; refine j0 (B.ato (jQ (hm5.trans hm6) hko4)) (by decide) (by decide) rfl ?_; walk_at "sts"; refine n_list B (by show 2 ≤ aS; decide) ?_; clear B; intro b1 m7 s hm7 hk7 B
     walk_at "qs"; exact hK.go (by walk_at "tn") B hm7 (fun hp ok => ⟨b1, rfl, _, hk7 hp ok, by rw [hgj]; exact .cons _ _ (.cons _ _ .nil)⟩)
   intro γ3 m6 xs r1 s hm6 hk6 hxs B; obtain ⟨bs, rfl, hbs⟩ := B.refs (W := fun b i h => LI b [6 + (mid : Int), en.getD i 0] h) hxs; have hkp : KP m6 r1 (en.map fun e => ((6 + mid : Int), e)) := by
     walk_at "qs"; refine ⟨bs, B.ko hk6, ?_⟩; have e1 : (en.map fun e => ((6 + mid : Int), e)) = (ae us.length).map fun i => ((6 + mid : Int), en.getD i 0) := (jI (jM hui).symm).symm; rw [e1]; walk_at "qs"; exact hbs.map_r (S := fun b (p : Int × Int) => Kn m6 (LI b [p.1, p.2])) (f := fun i => ((6 + mid : Int), en.getD i 0)) fun b i k => k
   have hmm : m.le m6 := ((hm1.trans hm4).trans hm5).trans hm6; have tl := mL ch l; have tr' := mL ch r; have hen : en.length ≤ 2 := by rw [← jM hui]; exact hel
   walk_at "sts"; refine j0 (B.ato (jQ hmm hko)) (by decide) (by decide) rfl ?_; walk_at "sts"; refine ihl hf2 hs1.1 (hR'.less (a286) (a285)) B.bef (hkl.up hmm) (hch.up hmm) ?_; intro a7 m7 s7 f7 hk7; replace B := B.aft f7; refine KP.append B (hkp.up f7.le) hk7 (by rw [al]; exact a291 hs1 tl hen) ?_; clear B; intro r2 m8 s hm8 hk8 B; walk_at "sts"; refine j0 (B.ato (jQ ((hmm.trans f7.le).trans hm8) hko)) (by decide) (by decide) rfl ?_; walk_at "sts"; refine ihr hf3 hs1.2 (hR'.less (a282) (a281)) B.bef (hkr.up ((hmm.trans f7.le).trans hm8)) (hch.up ((hmm.trans f7.le).trans hm8)) ?_; intro a9 m9 s9 f9 hk9; replace B := B.aft f9; refine KP.append B (hk8.up f9.le) hk9 (by rw [aw, al]; exact a290 hs1 tl tr' hen) ?_; clear B; intro r3 m10 s hm10 hk10 B; walk_at "qs"; refine h r3 _ _ (B.done hc .nil jC) ?_; unfold ties; rw [hEn]; walk_at "qs"; exact hk10
end
end
section
section
variable {w : World}
noncomputable def Tr.lets (rd : List Str) : Tr → List Str
 | .leaf i => [rd.getD i aj]
 | .node _ l r _ => l.lets rd ++ r.lets rd
noncomputable def letters (rd : List Str) (ts : List Tr) : List Str := ts.flatMap (Tr.lets rd)
noncomputable def KTs (m : Mp) (a : Addr) (ts : List Tr) : Prop := ∃ vs, (∃ o, m a = some o ∧ jB vs o) ∧ All2 (fun v t => KT m v t) vs ts
theorem KTs.up {m m' : Mp} {a : Addr} {ts : List Tr} (l : m.le m') (h : KTs m a ts) : KTs m' a ts := by obtain ⟨vs, h1, h2⟩ := h; exact ⟨vs, jQ l h1, h2.imp fun _ _ k => k.up l⟩
theorem Tr.lets_len (rd : List Str) : ∀ t : Tr, (t.lets rd).length ≤ t.size
 | .leaf i => by simp [Tr.lets, Tr.size]
 | .node _ l r _ => by
   have a := lets_len rd l; have b := lets_len rd r; simp [Tr.lets, Tr.size]; exact a302 a b
theorem mx (rd : List Str) : ∀ ts : List Tr, (∀ t ∈ ts, t.size ≤ 100) → (letters rd ts).length ≤ 100 * ts.length
 | [], _ => by simp [letters]
 | t :: r, h => by
   have a := mx rd r fun t ht => h t (.tail _ ht); have b := Tr.lets_len rd t; have c := h t (.head _); unfold letters at *
   rw [ew, aw, ay]; exact a301 a b c
noncomputable def depL (ts : List Tr) : Nat := ts.foldr (fun t d => max t.dep d) 0
theorem depL_le {ts : List Tr} {t : Tr} (h : t ∈ ts) : t.dep ≤ depL ts := by
 induction ts with
 | nil => cases h
 | cons x r ih =>
   unfold depL; rw [List.foldr_cons]; rcases mCo h with rfl | h
   · exact cX _ _
   exact ad (ih h) (cL _ _)
theorem c_letters {rd : List Str} (hrd : rd.length ≤ 1000) {rv : Addr} : ∀ (d : Nat) (ts : List Tr) {A : au} {m : Mp} {s : Shared} {a : Addr} {Q E : VP}, depL ts ≤ d → (∀ t ∈ ts, t.fits rd.length ∧ t.size ≤ 100) → ts.length ≤ 100 → Rm A (d + 1) (4 * d + 4) → Bef w m s → KTs m a ts → Kn m (LS rv rd) →
   (∀ r m' s', Aft [] m s m' s' → Kn m' (LS r (letters rd ts)) → Q (.ref r) s') →
   wpAny (model PG w) A (call (.ref 312) [.ref a, .ref rv]) Q E s := by
 intro d; induction d using iF with
 | ind d ih =>
   intro ts A m s a Q E hdep hfit hlen hR b hk hrv h
   refine oR (d := d) (u := 4 * d + 1) (nw := []) (ns := ["items"]) (cn := ["read"])
     (ρ₀ := fun L => [⟨"items", none, some (.ref a)⟩, ⟨"read", some (L + 1), some (.ref rv)⟩]) (own₀ := fun L => [L, L + 1]) hR b .nil rfl rfl rfl rfl rfl rfl rfl rfl rfl rfl (by rfl) (by decide +kernel) (by decide +kernel) (by decide +kernel) (fun L => rfl) (fun L => rfl) (fun L => rfl) ?_
   intro A env L c s' hE hR' hc B hL; walk_at "opq"; walk_at "sts"; refine lc2_eval B [⟨"read", some (L + 1), some (.ref rv)⟩] (by walk_at "ce") rfl rfl (by decide +kernel) ?_; walk_at "sts"; refine x12 hk fun vs hko hvs => ?_; have hvl := hvs.length; apply jJ B hR'.handled hko; intro I s B T; refine lc2_go B T [⟨"read", some (L + 1), some (.ref rv)⟩] ["item", "letter"] (fun i xs _ => cg xs (letters rd (ts.take i))) (fun _ _ _ _ _ h => h) ⟨rfl, by decide +kernel, by decide +kernel, by walk_at "ce", rfl, by show fQ [aa "item", aa "letter", aa "read"]; decide +kernel⟩ (fun _ _ => rfl) .nil ?_ ?_
   · rintro i v c1 cenv L2 acc γ1 m1 xs s hi hE hm1 hv hz B; simp only [ag, b6, aY, bi] at B; refine x12 (hvs.get hv) fun t hti hkt => ?_; have htm := av hti; obtain ⟨hf, hsz⟩ := hfit t htm; have hdt : t.dep ≤ d := ad (depL_le htm) hdep; have hst : letters rd (ts.take (i + 1)) = letters rd (ts.take i) ++ t.lets rd := by
       unfold letters; rw [bK, hti]; simp
     refine af ?_; walk_at "st"; refine am (Q := fun r s' => ∃ b m2 γ2, r = d0 b ∧ m1.le m2 ∧ Kn m2 (LS b (t.lets rd)) ∧ Bd w c1 γ2 m2 cenv [L2] [⟨"item", none, some v⟩, ⟨"letter", none, none⟩, ⟨"read", some (L + 1), some (.ref rv)⟩] ((acc, jB xs) :: []) s') ?_ ?_ (fun _ _ x => x)
     · cases t with
       | leaf k =>
         obtain ⟨tk, rfl⟩ := hkt; have hk' : k < rd.length := hf; walk_at "sts"; refine kt ?_; walk_at "sts"; refine lb rfl ?_; walk_at "sts"; have hi : rd[k]? = some (rd.getD k aj) := by rw [ab, ac hk']; rfl
         refine lV (B.kn (hrv.up hm1)) (a12) (a28 hrd hk') hi fun t1 => ?_; walk_at "sts"; refine n_list B (by show 1 ≤ aS; decide) ?_; clear B; intro b1 m2 s hm2 hk2 B
         walk_at "qs"; exact ⟨b1, m2, _, rfl, hm2, fun hp ok => ⟨_, hk2 hp ok, .cons _ _ .nil⟩, B⟩
       | node sg l r mid =>
         obtain ⟨a2, vl, vr, ts2, tm2, rfl, hko2, hkl, hkr⟩ := hkt; refine x04 hf fun hf1 hf2 hf3 hf4 => ?_; have hd1 : max l.dep r.dep + 1 ≤ d := hdt; have hs2 : l.size + r.size + 1 ≤ 100 := hsz; walk_at "sts"; refine j9 B (B.ato (jQ hm1 hko2)) ?_; clear B; intro s B; walk_at "sts"; refine j6 rfl ?_; walk_at "sts"; refine kC B (B.ato (jQ hm1 hko2)) (.int _ _) (.int _ _) ?_ (by show 4 ≤ aS; decide); clear B; intro sl m2 s hm2 hk2 B
         rw [show (iQ #[dZ sg ts2, vl, vr, cF (mid : Nat) tm2] (some 1) (some 3) none).toList = [vl, vr] from rfl] at hk2
         walk_at "sts"; refine ih (d - 1) (a300 hd1) [l, r] ?_ ?_ (by show 2 ≤ 100; decide) (hR'.less (a299 hd1) (a298 hd1)) B.bef ⟨[vl, vr], B.ko hk2, .cons (hkl.up (hm1.trans hm2)) (.cons (hkr.up (hm1.trans hm2)) .nil)⟩ (hrv.up (hm1.trans hm2)) ?_
         · show max l.dep (max r.dep 0) ≤ d - 1
           rw [Nat.max_zero]; exact a297 hd1
         · intro t ht; rcases mCo ht with rfl | ht
           · walk_at "qs"; exact ⟨hf2, by exact a46 hs2⟩
           rcases mSg ht with rfl
           walk_at "qs"; exact ⟨hf3, by exact a48 hs2⟩
         intro r3 m3 s3 f3 hk3; replace B := B.aft f3; walk_at "qs"; refine ⟨r3, m3, _, rfl, hm2.trans f3.le, ?_, B⟩; have e : letters rd [l, r] = Tr.lets rd (.node sg l r mid) := by simp [letters, Tr.lets]
         rw [e] at hk3; walk_at "qs"; exact hk3
     clear B; rintro _ s ⟨b, m2, γ2, rfl, hm2, hk2, B⟩; refine x12 (B.koS hk2) fun us hkoe hui => ?_; have hul := jE hui; have hll := Tr.lets_len rd t; have hxl : xs.length ≤ 10000 := by
       rw [jE hz]; have h1 := mx rd (ts.take i) fun t ht => (hfit t (eP ht)).2; have h2 : (ts.take i).length ≤ ts.length := by rw [bq]; exact bV _ _
       exact a296 hlen h1 h2
     apply jJ B hR'.handled hkoe; intro I2 s B T2; refine si B T2 (fun j v _ => ∃ tt, v = .str ((t.lets rd).getD j aj) tt) (szl (a295 hsz hul hll hxl)) ?_ ?_
     · intro j v2 c2 γ3 m3 nw3 s hj hm3 hv2 hnw B; replace B : Bd w c2 γ3 m3 cenv [L2] [⟨"item", none, none⟩, ⟨"letter", none, none⟩, ⟨"read", some (L + 1), some (.ref rv)⟩] nw3 s := B; obtain ⟨xj, tj, hxj, rfl⟩ := j3 hui hv2; refine af ?_; walk_at "st"; refine kU ⟨rfl, ?_⟩; walk_at "sts"; walk_at "qs"; exact oX B .rfl (fun _ _ => ⟨tj, by rw [ab, hxj]; rfl⟩) rfl
     intro γ3 m3 ys s hm3 hys B; have hy := B.strs hys; walk_at "qs"; refine ⟨γ3, m3, _, ys, hm2.trans hm3, ?_, rfl, B⟩; rw [hst]; refine kK hz ?_; have e : (ae us.length).map (fun j => (t.lets rd).getD j aj) = t.lets rd := by
       have := jI (f := fun x => x) (d := aj) hul.symm; simpa using this
     rw [e] at hy; walk_at "qs"; exact hy
   intro γ1 m1 xs r1 s hm1 hk1 hz B; walk_at "sts"; rw [hvl, c4] at hz; walk_at "qs"; exact h r1 _ _ (B.done hc .nil jC) fun hp ok => ⟨xs, hk1 hp ok, hz⟩
end
end
section
set_option hygiene false in
local macro_rules | `(tactic| walk_at "st") => `(tactic| ((with_reducible refine hQf _ _ ?_); clear hQf))
set_option hygiene false in
local macro_rules | `(tactic| walk_at "qs") => `(tactic| (repeat (first | ((with_reducible refine hQc _ _ ?_); clear hQc) | ((with_reducible refine hQf _ _ ?_); clear hQf))))
section
variable {w : World}
noncomputable def inside (x : Str) : Str := bk x (some 1) (some (-1))
noncomputable def isOp (y : Str) : Bool := !(bj (aa "*+") y 0 (aa "*+").length 1).isEmpty
noncomputable def sgAt (x : Str) (i : Nat) : Str := ⟨#[x.cps.getD i 0]⟩
inductive Parse : Str → List Str → Tr → List Str → Prop
 | leaf {x rd} : 1 ≤ x.length → 1 ≤ (kR x).length → (dp x 0 == aa "(") = false → Parse x rd (.leaf rd.length) (rd ++ [dp (kR x) (-1)])
 | node {x rd l rd1 r rd2} (p : Nat) : 1 ≤ x.length → (dp x 0 == aa "(") = true → p < (inside x).length → (∀ q, q < p → isOp (sgAt (inside x) q) = true → chk (bk (inside x) none (some (q : Int))) = false) →
     isOp (sgAt (inside x) p) = true → chk (bk (inside x) none (some (p : Int))) = true →
     Parse (bk (inside x) none (some (p : Int))) rd l rd1 → Parse (bk (inside x) (some ((p : Int) + 1)) none) rd1 r rd2 → 1 ≤ rd1.length → Parse x rd (.node (sgAt (inside x) p) l r (rd1.length - 1)) rd2
theorem parse_len {x : Str} {rd rd' : List Str} {t : Tr} (h : Parse x rd t rd') : rd.length ≤ rd'.length := by
 induction h with
 | leaf _ _ _ => simp
 | node p _ _ _ _ _ _ _ _ _ a b => exact ad a b
theorem c_tree {x : Str} {rd rd' : List Str} {t : Tr} (hp : Parse x rd t rd') : ∀ {A : au} {m : Mp} {s : Shared} {tx : Tok} {rv : Addr} {vs : List Value} {Q E : VP}, x.length ≤ 1000 → rd'.length ≤ 1000 → Rm A (t.dep + 5) (4 * t.dep + 20) → Bef w m s → LedOk m s [(rv, jB vs)] → cg vs rd →
   (∀ v m' s' vs', Aft [rv] m s m' s' → At rv (jB vs') s'.heap → cg vs' rd' → KT m' v t → Q v s') →
   wpAny (model PG w) A (call (.ref 290) [.str x tx, .ref rv]) Q E s := by
 induction hp with
 | @leaf x rd hx hs1 h0 =>
   intro A m s tx rv vs Q E hxl hrl hR b l hvs h
   refine nh (d := 4) (u := 17) (nw := [(rv, jB vs)]) (ns := ["text", "read", "inside", "place", "sign", "left", "middle"])
     (ρ₀ := [⟨"text", none, some (.str x tx)⟩, ⟨"read", none, some (.ref rv)⟩, ⟨"inside", none, none⟩, ⟨"place", none, none⟩, ⟨"sign", none, none⟩, ⟨"left", none, none⟩, ⟨"middle", none, none⟩]) hR b l rfl rfl rfl rfl rfl rfl rfl rfl rfl rfl (by decide +kernel) (by rfl) (by decide +kernel) (by decide +kernel) rfl ?_
   intro A env L c s' hE hR' hc B hL; walk_at "opq"; walk_at "sts"; refine qC B (a316) (a315 hx) (oQ (by decide) (by decide)) ?_; clear B; intro t1 s B; walk_at "sts"; refine lb (by simp only [bne, h0]; rfl) ?_; walk_at "sts"; refine rH hxl (hR'.less (a322) (a321)) B.bef ?_; intro t2 m2 s2 f2; replace B := B.aft f2; walk_at "sts"; refine i_neg B ?_; clear B; intro t3 s B; refine qC B (a320 hs1) (a259) (oQ (by decide) (by decide)) ?_; clear B; intro t4 s B; walk_at "sts"; have hvl := jE hvs; have hrl' : rd.length ≤ 1000 := by rw [aw] at hrl; exact a319 hrl
   refine kL B .head (szl (a318 hvl hrl')) ?_; clear B; intro s B; walk_at "sts"; refine p7 B (B.at (.head _)) (by rw [aD]; simp; exact a317 hvl hrl') ?_; clear B; intro t5 s B; walk_at "sts"; walk_at "qs"; refine h _ _ _ _ (B.done hc l (by simp)) (B.at (.head _)) (kK hvs (.cons _ _ .nil)) ⟨tk, ?_⟩; congr 1
   simp [hvl]
 | @node x rd l rd1 r rd2 p hx h0 hp hq hop hck hl hr hmid ihl ihr =>
   intro A m s tx rv vs Q E hxl hrl hR b ld hvs h; have hdep : (Tr.node (sgAt (inside x) p) l r (rd1.length - 1)).dep = max l.dep r.dep + 1 := rfl; rw [hdep] at hR; have hd : l.dep ≤ max l.dep r.dep ∧ r.dep ≤ max l.dep r.dep := ⟨cX _ _, cL _ _⟩
   refine nh (d := max l.dep r.dep + 5) (u := 4 * max l.dep r.dep + 21) (nw := [(rv, jB vs)]) (ns := ["text", "read", "inside", "place", "sign", "left", "middle"])
     (ρ₀ := [⟨"text", none, some (.str x tx)⟩, ⟨"read", none, some (.ref rv)⟩, ⟨"inside", none, none⟩, ⟨"place", none, none⟩, ⟨"sign", none, none⟩, ⟨"left", none, none⟩, ⟨"middle", none, none⟩]) hR b ld rfl rfl rfl rfl rfl rfl rfl rfl rfl rfl (by decide +kernel) (by rfl) (by decide +kernel) (by decide +kernel) rfl ?_
   intro A env L c s' hE hR' hc B hL; walk_at "opq"; walk_at "sts"; refine qC B (a316) (a315 hx) (oQ (by decide) (by decide)) ?_; clear B; intro t1 s B; walk_at "sts"; refine j6 (by simp only [bne, h0]; rfl) ?_; walk_at "sts"; refine i_neg B ?_; clear B; intro t3 s B; walk_at "sts"; refine lF B (.int _ _) (.int _ _) ?_ (szl (a97 hxl)); clear B; intro t4 s B; walk_at "sts"; replace hV : PutV (aa "inside") none (.str (inside x) t4) _ ρ := hV; have hil : (inside x).length ≤ x.length := d8 _ _ _; apply src_enumS B hR'.handled; intro I s B T; refine lK B T ["place", "sign", "left", "middle"] (fun i m' ρ => i ≤ p) (be _) ?_ ?_
   · clear B T; intro i v c1 γ1 m1 ρ s hi how hip hm hv B hback Qb hN hB hQ; obtain ⟨T, tp, _, rfl, ⟨cc, tc, hcc, rfl⟩, hT⟩ := hv; have hsg : (⟨#[cc]⟩ : Str) = sgAt (inside x) i := by
       have e : (inside x).cps.getD i 0 = cc := by
         rw [fg, show (inside x).cps[i]? = some cc from hcc]; rfl
       unfold sgAt; rw [e]
     rw [hsg] at hT; refine kE B hR'.handled hT rfl rfl ?_; clear B; intro s B; refine ak (af ?_); walk_at "st"; refine ak (af ?_); walk_at "st"; refine aL ?_; walk_at "sts"; have hck' : ∀ q : Nat, (bk (inside x) none (some (q : Int))).length ≤ 1000 := fun q => ad (d8 _ _ _) (a308 hxl hil); refine ky (fun hb => ?_) (fun hb => ?_)
     · walk_at "sts"; refine lF B .none (.int _ _) ?_ (szl (a309 hxl hil)); clear B; intro t5 s B; walk_at "sts"; refine rI (hck' i) (hR'.less (a314) (a313)) B.bef ?_; intro m5 s5 f5; replace B := B.aft f5; walk_at "sts"; by_cases hlt : i < p
       · rw [hq i hlt hb]; refine j6 rfl ?_; walk_at "sts"; refine j6 rfl ?_; walk_at "sts"; walk_at "qs"; exact hN _ m5 _ _ (by walk_at "ow") (by exact hlt) f5.le B
       have hip' : i = p := a13 hip hlt
       subst hip'; rw [hck]; refine lb rfl ?_; walk_at "sts"; refine lb rfl ?_; walk_at "sts"; refine lF B .none (.int _ _) ?_ (szl (a309 hxl hil)); clear B; intro t6 s B; walk_at "sts"; have hrl1 : rd1.length ≤ rd2.length := parse_len hr; refine ihl (hck' i) (a308 hrl hrl1) (hR'.less (a312) (a311)) B.bef (B.led1 (.head _)) hvs ?_; intro lv m6 s6 vs6 f6 hat6 hvs6 hkl; replace B := B.aft1 .head f6 hat6; walk_at "sts"; have hl6 := jE hvs6; refine p7 B (B.at (.head _)) (szl (a310 hrl hrl1 hl6)) ?_; clear B; intro t7 s B; walk_at "sts"; refine lF B (.int _ _) .none ?_ (szl (a309 hxl hil)); clear B; intro t8 s B; walk_at "sts"; refine ihr (ad (d8 _ _ _) (a308 hxl hil)) hrl (hR'.less (a307) (a306)) B.bef (B.led1 (.head _)) hvs6 ?_; intro rvv m7 s7 vs7 f7 hat7 hvs7 hkr; replace B := B.aft1 .head f7 hat7; walk_at "sts"; refine n_list B (by show 4 ≤ aS; decide) ?_; clear B; intro a8 m8 s hm8 hk8 B
       have e : ((vs6.length : Int) - 1) = ((rd1.length - 1 : Nat) : Int) := a305 hmid hl6
       have hk9 := B.ko hk8; rw [e] at hk9; walk_at "qs"; refine hQ _ _ ?_; walk_at "qs"; exact h _ _ _ _ ((hback.go B).done hc ld (by simp)) (B.at (.head _)) hvs7 ⟨a8, lv, rvv, tc, _, rfl, hk9, (hkl.up f7.le).up hm8, hkr.up hm8⟩
     have hne : i ≠ p := fun e => by
       subst e; have : isOp (sgAt (inside x) i) = false := hb; rw [hop] at this; cases this
     refine j6 rfl ?_; walk_at "sts"; walk_at "qs"; exact hN _ m1 _ _ (by walk_at "ow") (a304 hip hne) .rfl B
   clear B T; intro γ1 m2 ρ s how hip hm B; walk_at "qs"; exact absurd hip (by show ¬ (inside x).length ≤ p; exact a303 hp)
end
end
section
section
variable {w : World}
theorem c_headers {A : au} {m : Mp} {s : Shared} {Q E : VP} (hR : Rm A 5 12) (b : Bef w m s)
   (h : ∀ x lst m' s', Aft [] m s m' s' → HdK w m' x lst → s.heap.get? lst = none → m' lst = none → At lst (jB []) s'.heap → Q (.ref x) s') :
   wpAny (model PG w) A (call (.ref 248) []) Q E s := by
 have X := (b.gr _ b.ok).k; refine eZ ?_; obtain ⟨hh, g, d, t, os⟩ := s; refine make_core (makes_of X (by rfl)) (looks_findIn X (show findIn (KK w) (.ref 248) (aa "__init__") = some (some (.ref 142)) from by rfl)) (fun self => bind_fn X self (by rfl)) (.inl rfl) ?_
 have k1 : ∀ a o, hh.get? a = some o → ((hh.push aV).push (fj 248 hh.objs.size)).get? a = some o := fun a o e => jA _ _ _ (jA _ _ _ e); have hdx : ((hh.push aV).push (fj 248 hh.objs.size)).get? hh.objs.size = some aV := jA _ _ _ (aG _ rfl); have hxx : ((hh.push aV).push (fj 248 hh.objs.size)).get? (hh.objs.size + 1) = some (fj 248 hh.objs.size) := by
   have := aG (hh.push aV) (o := fj 248 hh.objs.size) rfl; rw [fw] at this; walk_at "qs"; exact this
 have fresh : ∀ a : Addr, hh.objs.size ≤ a → hh.get? a = none := fun a ha => by
   cases e : hh.get? a with
   | none => rfl
   | some o => exact absurd (aJ e) (fB.mpr ha)
 have fm : ∀ a : Addr, hh.objs.size ≤ a → m a = none := fun a ha => by
   cases e : m a with
   | none => rfl
   | some o =>
     have h1 : hh.get? a = some o := b.ok _ _ e; rw [fresh a ha] at h1; cases h1
 generalize hdxe : hh.objs.size = dx at *
 have hne : (dx + 1 : Nat) ≠ dx := ij _; generalize hs1 : (hh.push aV).push (fj 248 dx) = h1 at *
 have hm1 : m (dx + 1) = none := fm _ (eT _); have b1 : Bef w (m.put (dx + 1) (fj 248 dx)) ⟨h1, g, d, t, os⟩ := by
   walk_at "qs"; refine ⟨fun a o e => ?_, b.gr.up (Mp.le_put hm1), b.bare⟩; unfold Mp.put at e; by_cases q : a = dx + 1
   · rw [if_pos q] at e; cases e; rw [q]; exact hxx
   rw [if_neg q] at e; exact k1 a o (b.ok a o e)
 have l1 : LedOk (m.put (dx + 1) (fj 248 dx)) ⟨h1, g, d, t, os⟩ [(dx, fun o => o = aV)] := ⟨fun p hp => by rcases mSg hp with rfl; exact ⟨_, hdx, rfl⟩, fun p hp => by rcases mSg hp with rfl; show Mp.put _ _ _ dx = none; rw [Mp.put_ne hne.symm]; exact fm _ (ap _), by simp⟩
 refine enterX (d := 2) (u := 6) (s := ⟨h1, g, d, t, os⟩) (nw := [(dx, fun o => o = aV)]) (binds := [(aa "self", .ref (dx + 1)), (aa "headers", .none)]) (ns := ["self", "headers", "k", "v"]) (ρ₀ := [⟨"self", none, some (.ref (dx + 1))⟩, ⟨"headers", none, some .none⟩, ⟨"k", none, none⟩, ⟨"v", none, none⟩])
   (Rm.under (hR.less (a156) (a155)) 248 [] []) (b1.gr _ b1.ok) b1 l1 rfl rfl rfl (fun M A E Q q => kp_binds (K := KK w) (b1.gr _ b1.ok).k (fun S => by rfl) M A E Q q) rfl rfl rfl rfl rfl rfl (by decide +kernel) (by rfl) (by decide +kernel) (by decide +kernel) rfl ?_
 intro A' env L c s' hA hfm hE hR' hc B hL; clear hA; generalize hγ : g = γ0 at B; walk_at "sts"; refine j6 rfl ?_; walk_at "sts"; walk_at "nL"; intro lst s B; walk_at "sts"; obtain ⟨ol, hol, nl, hon⟩ := B.at (.head _); obtain ⟨hh2, g2, d2, t2, os2⟩ := s; refine call_type_obj hol (by rw [hon]; rfl) ?_; rw [show ol.cls = .type "list" from by rw [hon]]
 walk_at "sts"; refine isnot_type_same ?_; walk_at "sts"; refine j6 rfl ?_; walk_at "sts"; refine plainObj_wpAny_Assign_Attribute ?_ rfl; walk_at "sts"; refine o_set B (B.ble (dx + 1) _ (by rw [hc]; exact Mp.put_self)) (.tail .head) ?_; clear B; intro s B; walk_at "sts"; refine lb rfl ?_; walk_at "sts"; refine for_empty B hR'.handled (B.at (.head _)) fun γ1 s B => ?_; walk_at "sts"; walk_at "qs"; refine ⟨rfl, ?_⟩; show Q (.ref (dx + 1)) s
 have hnd := B.nodup; replace B := B.sub (nw' := [(dx, fun o => ∃ tk n, o = nO w tk lst n), (lst, jB [])]) (fun p hp => by
   rcases mCo hp with rfl | hp
   · walk_at "qs"; exact .tail _ (.head _)
   · rcases mSg hp with rfl; exact .head _) (by
   simp only [ag, b6, aY, bi, aB, b9, cH, or_false, not_or] at hnd ⊢; walk_at "qs"; exact ⟨fun q => hnd.2.1 q.symm, fun q => q, .nil⟩)
 refine x13 B.freeze fun m2 hm2 hk2 B => ?_; have hold : ∀ a o, hh.get? a = some o → c.old a = some o ∧ a ≠ dx ∧ a ≠ dx + 1 := fun a o e => by
   have n1 : a ≠ dx := fun q => by rw [q, fresh dx (ap _)] at e; cases e
   have n2 : a ≠ dx + 1 := fun q => by rw [q, fresh (dx + 1) (eT _)] at e; cases e
   walk_at "qs"; refine ⟨?_, n1, n2⟩; rw [hc]; walk_at "qs"; exact Mp.get_of (k1 a o e) (by simpa using n1)
 have hlo := B.out lst (by simp); walk_at "qs"; refine h (dx + 1) lst m2 s ⟨(Mp.le_put hm1).trans (by have := B.ble; rw [hc] at this; exact this), B.ok, fun a o e _ => B.old a o (hold a o e).1, fun a o e => ?_, by have := B.os; rw [hc] at this; exact this, fun i x e => ?_, by rw [B.gens]; exact B.bare⟩ ?_ ?_ hlo.1 (B.at (.head _))
 · rw [B.low a o (hold a o e).1, hc]; walk_at "qs"; exact Mp.put_ne (hold a o e).2.2
 · rw [B.gens]; have := B.gpre; rw [hc] at this; walk_at "qs"; exact this i x e
 · obtain ⟨od, ho1, tk, n, rfl⟩ := B.ko (P := fun o => ∃ tk n, o = nO w tk lst n) hk2; walk_at "qs"; exact ⟨dx, tk, n, hm2 _ _ Mp.put_self, ho1⟩
 cases e : hh.get? lst with
 | none => rfl
 | some o =>
   have := (hold lst o e).1; rw [hlo.2] at this; cases this
end
end
section
section
variable {w : World} {c : Cx} {γ : Array aE} {m : Mp} {env : Env} {s : Shared} {A : au} {E : VP} {Q : Flow → Shared → Prop} {L : Addr} {own : List Addr} {ρ : List VE}
theorem tE {f : Value} {pos : Pos} {Q : VP} (hk : keepIn (KK w) f = true) (X : (KK w).In s.heap) (h : wpAny (model PG w) A (call f []) Q E s) :
   wpAny (model PG w) A (ec pos f [] (cV pos (bo [] env)) []) Q E s :=
 callWith_of rfl (keeps_K hk) (gH ⟨X, h⟩)
theorem law_5 (W : LawE A env L) (htk : 1 ≤ s.toks) {i o g d : Nat}  {tt : Tok} {tr : Tr} {rd : List Str} (hp : Parse (jY o g d (jx i)) [] tr rd) (hxl : (jY o g d (jx i)).length ≤ 1000) (hrl : rd.length ≤ 1000) (hdep : tr.dep ≤ 6)
   (B : Bd w c γ m env own ρ [] s) (r_text : (⟨"text", none, some (.str (jY o g d (jx i)) tt)⟩ : VE) ∈ ρ) (r_table : Hn (aa "table") (some (L + 5)) ρ) (o_table : L + 5 ∈ own) (r_read : Hn (aa "read") (some (L + 6)) ρ) (o_read : L + 6 ∈ own) (r_tree : Hn (aa "tree") none ρ)
   (h : ∀ (x lst ra : Addr) (tv : Value) ρ' γ m' s', m.le m' → 1 ≤ s'.toks → HdK w m' x lst → Kn m' (LS ra rd) → KT m' tv tr →
     Ow ["table", "read", "tree"] ρ ρ' → (⟨"table", some (L + 5), some (.ref x)⟩ : VE) ∈ ρ' → (⟨"read", some (L + 6), some (.ref ra)⟩ : VE) ∈ ρ' → (⟨"tree", none, some (tv)⟩ : VE) ∈ ρ' → Bd w c γ m' env own ρ' [(lst, jB [])] s' → wpAny (model PG w) A (execs (lawBody.drop 13) env) Q E s') :
   wpAny (model PG w) A (execs (lawBody.drop 11) env) Q E s := by
 conv => arg 3; arg 1; whnf
 have hE := W.kinds; have hR' := W.room; walk_at "st"; refine Assign_Tuple ?_ rfl (swapsNone B.vars.kind (hE.kind (by rfl)) (hE.kind (by rfl)) rfl); walk_at "st"; walk_at "st"; walk_at "st"; walk_at "st"; show wpAny _ _ (ec _ (.ref 248) [] _ _) _ _ _
 refine tE (by rfl) (B.kn B.gr).k ?_; refine c_headers (hR'.less (a209) (a208)) B.bef ?_; intro x lst m1 s1 f1 hx hnl hml hat; replace B := B.adopt f1 hnl hml hat; clear hnl hml hat; walk_at "sts"; walk_at "nL"; intro ra s B; walk_at "sts"; walk_at "nt"; intro T m2 s hm2 hT B; refine kE B hR'.handled (B.kn hT).tup rfl rfl ?_; clear B; intro s B; refine ak (af ?_); walk_at "st"; refine ak (af ?_); walk_at "st"; refine aL ?_; walk_at "sts"; refine c_tree hp hxl hrl (hR'.less (a207 hdep) (a206 hdep)) B.bef (B.led1 (.head _)) .nil ?_; intro tv m3 s3 vs3 f3 hat hvs hkt; replace B := B.aft1 .head f3 hat; have hle := (f1.le.trans hm2).trans f3.le; refine x13 B.freeze fun m4 hm4 hk4 B => ?_; walk_at "st"; exact fun htk => h x lst ra tv _ _ m4 s (hle.trans hm4) htk (hx.up ((hm2.trans f3.le).trans hm4)) (fun hp ok => ⟨vs3, hk4 hp ok, hvs⟩) (hkt.up hm4) (by walk_at "ow") (by walk_at "mem") (by walk_at "mem") (by walk_at "mem") B
end
end
section
section
variable {w : World} {c : Cx} {γ : Array aE} {m : Mp} {env : Env} {s : Shared} {A : au} {E : VP} {Q : Flow → Shared → Prop} {L : Addr} {own : List Addr} {ρ : List VE}
noncomputable def nz (k : Nat) : Str := aa (toString (k : Int))
noncomputable def nP (f : Nat) (rd : List Str) : List (Str × Nat) := (ae 5).map (fun k => (jD (f + k), k)) ++ (ae rd.length).map fun j => (rd.getD j aj, j)
noncomputable def kd (f : Nat) (rd : List Str) : List (Str × Str) := (nP f rd).map fun p => (p.1, nz p.2)
noncomputable def PairO (p : Str × Nat) (o : Obj) : Prop := ∃ t t', tJ [.str p.1 t, .int (p.2 : Nat) t'] o
theorem so_num (w : World) : ∀ k, k < 6 → jN w false (nz k)
 | 0, _ => fun S t => by kernel_rfl
 | 1, _ => fun S t => by kernel_rfl
 | 2, _ => fun S t => by kernel_rfl
 | 3, _ => fun S t => by kernel_rfl
 | 4, _ => fun S t => by kernel_rfl
 | 5, _ => fun S t => by kernel_rfl
 | k + 6, h => by (first | lia | omega)
theorem num_len : ∀ k, k < 6 → (nz k).length ≤ 1000 := by decide +kernel
theorem law_6 (W : LawE A env L) (htk : 1 ≤ s.toks) {f : Nat} {words x lst ra : Addr}   {rd : List Str} (hf : f < 24) (hws : Kn m (LS words (j7 f))) (hx : HdK w m x lst) (hrd : Kn m (LS ra rd)) (hr6 : rd.length = 6) (hso : ∀ y ∈ rd, jN w true y)
   (B : Bd w c γ m env own ρ [(lst, jB [])] s) (r_words : (⟨"words", some (L + 2), some (.ref words)⟩ : VE) ∈ ρ) (r_table : (⟨"table", some (L + 5), some (.ref x)⟩ : VE) ∈ ρ) (r_read : (⟨"read", some (L + 6), some (.ref ra)⟩ : VE) ∈ ρ) (r_name : Hn (aa "name") none ρ) (r_place : Hn (aa "place") none ρ)
   (h : ∀ ρ' γ m' s', m.le m' → 1 ≤ s'.toks → HdL m' lst (kd f rd) →
     Ow ["name", "place"] ρ ρ' → Bd w c γ m' env own ρ' [] s' → wpAny (model PG w) A (execs (lawBody.drop 14) env) Q E s') :
   wpAny (model PG w) A (execs (lawBody.drop 13) env) Q E s := by
 conv => arg 3; arg 1; whnf
 have hE := W.kinds; have hR' := W.room; walk_at "sts"; refine jH B [⟨"words", some (L + 2), some (.ref words)⟩] (by walk_at "cs") rfl rfl rfl ?_; walk_at "sts"; apply kA (k := 5) B hR'.handled (by decide +kernel); intro I s B T; refine ln B T [⟨"words", some (L + 2), some (.ref words)⟩] ["k"] (fun j v h => ∃ b, v = .ref b ∧ At b (PairO (jD (f + j), j)) h) ⟨rfl, rfl, rfl, by walk_at "cs", rfl, rfl⟩ (by decide) ?_ ?_
 · intro j v c2 cenv L2 γ2 m6 own ρ nw2 s hj hE hm6 hv hC hM B Qx hK; obtain ⟨tj, rfl⟩ := hv; refine af ?_; walk_at "st"; walk_at "sts"; refine lV (n := jD (f + j)) (B.kn (hws.up hm6)) (a12) (a195 hj) ?_ fun t5 => ?_
   · rw [bf]; unfold j7; rw [ar, bX hj]; rfl
   walk_at "sts"; walk_at "nt"; intro T m7 s hm7 hT B; exact hK.go (by walk_at "tn") B hm7 (hT.map fun h x => ⟨T, rfl, by obtain ⟨ob, h1, h2⟩ := x; exact ⟨ob, h1, _, _, h2⟩⟩)
 intro γ3 m3 xs r1 s hm3 hk3 hxs B; obtain ⟨bs, rfl, hbs⟩ := B.refs hxs; walk_at "sts"; refine jH B [] (by walk_at "cs") rfl rfl rfl ?_; walk_at "sts"; refine x12 (B.koS (hrd.up hm3)) fun vs hko hvs => ?_; have hvl := jE hvs; apply kN B hR'.handled hko; intro I s B T; refine ln B T [] ["place", "letter"] (fun j v h => ∃ b, v = .ref b ∧ At b (PairO (rd.getD j aj, j)) h) ⟨rfl, rfl, rfl, by walk_at "cs", rfl, rfl⟩ (by rw [aD]; show vs.length ≤ _; exact a217 hr6 hvl) ?_ ?_
 · intro j v c2 cenv L2 γ2 m6 own ρ nw2 s hj hE hm6 hv hC hM B Qx hK; obtain ⟨T, tj, z, rfl, hz, hT⟩ := hv; obtain ⟨y, ty, hy, rfl⟩ := j3 hvs (by simpa using hz); refine kE B hR'.handled hT rfl rfl ?_; clear B; intro s B; refine ak (af ?_); walk_at "st"; refine ak (af ?_); walk_at "st"; refine aL ?_; walk_at "sts"; walk_at "nt"; intro T m7 s hm7 hT B; have e : rd.getD j aj = y := by rw [ab, hy]; rfl
   exact hK.go (by walk_at "tn") B hm7 (hT.map fun h x => ⟨T, rfl, by obtain ⟨ob, h1, h2⟩ := x; exact ⟨ob, h1, _, _, by rw [e]; exact h2⟩⟩)
 intro γ4 m4 ys r2 s hm4 hk4 hys B; obtain ⟨cs, rfl, hcs⟩ := B.refs hys; have hbl := hbs.length; have hcl := hcs.length; rw [dQ] at hbl hcl; walk_at "sts"; refine my B (B.kn (hk3.up hm4)) (B.kn hk4) (by rw [aD, al, al]; exact a216 hr6 hvl hbl hcl) ?_; clear B; intro r3 m5 s hm5 hk5 B; rw [← aM] at hk5; have hall : All2 (fun b p => Kn m5 (At b (PairO p))) (bs ++ cs) (nP f rd) := by
   unfold nP; refine All2.append (All2.map_r (f := fun k => (jD (f + k), k)) (fun a b k => k) (hbs.imp fun _ _ k => k.up (hm4.trans hm5))) ?_; have := All2.map_r (f := fun j => (rd.getD j aj, j)) (S := fun b p => Kn m5 (At b (PairO p))) (fun a b k => k) (hcs.imp fun _ _ k => k.up hm5); rwa [hvl] at this
 have hlen := hall.length; generalize bs ++ cs = ds at hall hk5 hlen; have hl11 : (nP f rd).length = 11 := by unfold nP; simp [hr6]
 apply jJ B hR'.handled (B.ko hk5); intro I s B T; have hle5 := (hm3.trans hm4).trans hm5; refine c9 (oP (x₀ := []) (fun hs => [(lst, jB hs)]) B T ["name", "place"] (fun j m' ρ hs =>
     All2 (fun v p => ∃ T t t', v = .ref T ∧ ∃ o, m' T = some o ∧ tJ [.str p.1 t, .str p.2 t'] o) hs ((kd f rd).take j)) .nil ?_ ?_) (fun _ _ x => x)
 · clear B T; intro j v c1 γ6 m6 ρ s hs hj how hrows hm6 hv B hback Qb hN hB hQ; obtain ⟨b, hb, rfl⟩ : ∃ b, ds[j]? = some b ∧ v = .ref b := by
     have hv : (ds.map d0)[j]? = some v := hv; rw [ar] at hv; refine x12 (bN.mp hv) fun b hb e => ?_; walk_at "qs"; exact ⟨b, hb, e.symm⟩
   refine x12 (hall.get hb) fun p hp hkp => ?_; obtain ⟨ob, hob, t1, t2, hTO⟩ := B.ko (hkp.up hm6); have hmem : p ∈ nP f rd := av hp; have hpk : jN w true p.1 ∧ p.2 < 6 := by
     unfold nP at hmem; rcases mAp hmem with hmem | hmem
     · obtain ⟨k, hk, rfl⟩ := mMa hmem; have := az.mp hk; walk_at "qs"; exact ⟨so_word w (f + k) (a179 hf this), by show k < 6; exact a215 this⟩
     obtain ⟨k, hk, rfl⟩ := mMa hmem; have := az.mp hk; walk_at "qs"; refine ⟨hso _ ?_, by show k < 6; exact a214 hr6 this⟩
     show rd.getD k aj ∈ rd
     rw [ab, ac this]; walk_at "qs"; exact bG _
   refine kE B hR'.handled (B.ato ⟨ob, hob, hTO⟩).tup rfl rfl ?_; clear B; intro s B; refine ak (af ?_); walk_at "st"; refine ak (af ?_); walk_at "st"; refine aL ?_; walk_at "sts"; refine lH (f := 245) B (hx.up (hle5.trans hm6)) (by rfl) (by rfl) (fun _ _ => by rfl) ?_; refine pI (by rfl) ?_; walk_at "sts"; refine P.str_of_int (a := (p.2 : Nat)) ((by decide +kernel : ∀ k : Nat, k < 6 → (k : Int).natAbs.log2 < 1920) _ hpk.2) ?_; replace B := B.tk s.drawn (s.toks + 1); walk_at "sts"; walk_at "qs"; refine ⟨(B.kn B.gr).k, ?_⟩; have hhs := hrows.length; have hhl : hs.length ≤ 11 := by
     rw [hhs, bq]; refine ad (bV _ _) ?_; show ((nP f rd).map _).length ≤ 11
     rw [al]; exact a213 hl11
   refine c_add (hs := hs) hpk.1 (so_num w p.2 hpk.2) (num_len p.2 hpk.2) (a212 hhl) (hR'.less (a211) (a210)) B.bef (hx.up (hle5.trans hm6)) (B.at (.head _)) ((B.led1 (.head _)).out _ (.head _)) ?_; intro T t3 t4 m7 s7 f7 hat hT; replace B := B.aft1 .head f7 hat; walk_at "sts"; walk_at "qs"; refine hN _ m7 _ _ _ (by walk_at "ow") ?_ f7.le B; have e : (kd f rd).take (j + 1) = (kd f rd).take j ++ [(p.1, nz p.2)] := by
     rw [bK]; congr 1
     unfold kd; rw [ar, hp]; rfl
   rw [e]; refine All2.append (hrows.imp fun v q z1 => by obtain ⟨T, t, t', h1, h2⟩ := z1; exact ⟨T, t, t', h1, jQ f7.le h2⟩) (.cons ⟨T, t3, t4, rfl, B.ko hT⟩ .nil)
 clear B T; intro γ6 m6 ρ s hs how hrows hm6 B; refine x13 B.freeze fun m7 hm7 hk7 B => ?_; have hel : (kd f rd).length = (ds.map d0).length := by
   show ((nP f rd).map _).length = _
   rw [al, al, hlen]
 rw [← hel, c4] at hrows; walk_at "st"; walk_at "qs"; exact fun htk => h _ _ m7 s ((hle5.trans hm6).trans hm7) htk ⟨hs, B.ko hk7, hrows.imp fun v q z1 => by obtain ⟨T, t, t', h1, h2⟩ := z1; exact ⟨T, t, t', h1, jQ hm7 h2⟩⟩ (by walk_at "ow") B
end
end
section
section
variable {w : World} {c : Cx} {γ : Array aE} {m : Mp} {env : Env} {s : Shared} {A : au} {E : VP} {Q : Flow → Shared → Prop} {L : Addr} {own : List Addr} {ρ : List VE}
theorem k_strT {c : Cx} {γ : Array aE} {own : List Addr} {ρ : List VE} {nw : Led} {x : Str} {k : Nat} {pos : Pos} {Q : VP} (B : Bd w c γ m env own ρ nw s) (h : ∀ s', s'.toks = s.toks + 1 → Bd w c γ m env own ρ nw s' → Q (.str x s.toks) s') :
   wpAny (model PG w) A (eval (.Constant (.str x) k pos) env) Q E s := ed (h _ rfl (B.tk _ _))
theorem rF {f : Addr} {first : List Value} {pos : Pos} {Q : VP} (hk : keepIn (KK w) (.ref f) = true) (X : (KK w).In s.heap)
   (h : wpAny (model PG w) A (call (.ref f) (first ++ [])) Q E s) : wpAny (model PG w) A (ec pos (.ref f) first (cV pos (bo [] env)) []) Q E s :=
 callWith_of rfl (keeps_K hk) (gH ⟨X, h⟩)
noncomputable def bare (x : Str) : Str := gq (gq x (aa "\"(\"") (aa "")) (aa "\")\"") (aa "")
set_option hygiene false in
local macro_rules | `(tactic| walk_at "vis") => `(tactic| ((with_reducible refine k_strT B ?_); clear B; intro s e1 B))
theorem law_7 (W : LawE A env L) (htk : 1 ≤ s.toks) {f i o g d : Nat} {words lv x lst ra : Addr} {tt : Tok} {tv : Value} {rd ls : List Str} {tr : Tr} {es : List (Str × Str)} (hf : f < 24) (hws : Kn m (LS words (j7 f))) (hlv : Kn m (LS lv ls)) (hl6 : ls.length = 6) (hx : HdK w m x lst) (hl : HdL m lst es) (hrd : Kn m (LS ra rd)) (hr6 : rd.length = 6) (hkt : KT m tv tr)
   (hfit : tr.fits 6) (hsz : tr.size ≤ 100) (hdep : tr.dep ≤ 6) (hxl : (jY o g d (jx i)).length ≤ 1000) (hlast : rd = ls.map fun y => dp y (-1)) (hlen : ∀ y ∈ ls, 1 ≤ y.length ∧ y.length ≤ 100) (hbl : ∀ y ∈ ls, (gq y (aa "\"(\"") (aa "")).length ≤ 100 ∧ (bare y).length ≤ 100)
   (hwr : kR (jY o g d (jx i)) = kQ (ls.map bare) tr) (hel : es.length ≤ 1000) (hes : es.map (·.1) = j7 f ++ rd)
   (B : Bd w c γ m env own ρ [] s) (r_words : (⟨"words", some (L + 2), some (.ref words)⟩ : VE) ∈ ρ) (r_leaves : (⟨"leaves", none, some (.ref lv)⟩ : VE) ∈ ρ) (r_text : (⟨"text", none, some (.str (jY o g d (jx i)) tt)⟩ : VE) ∈ ρ) (r_table : (⟨"table", some (L + 5), some (.ref x)⟩ : VE) ∈ ρ) (r_read : (⟨"read", some (L + 6), some (.ref ra)⟩ : VE) ∈ ρ) (r_tree : (⟨"tree", none, some (tv)⟩ : VE) ∈ ρ)
   (h : ∀ γ m' s', m.le m' → Bd w c γ m' env own ρ [] s' → wpAny (model PG w) A (execs (lawBody.drop 15) env) Q E s') :
   wpAny (model PG w) A (execs (lawBody.drop 14) env) Q E s := by
 conv => arg 3; arg 1; whnf
 have hE := W.kinds; have hR' := W.room; have hu : A.units < cLine := by have := W.room.units; exact a199 this
 walk_at "sts"; refine toksQ htk ?_; refine jH B [] (by walk_at "cs") rfl rfl rfl ?_; walk_at "sts"; refine x12 (B.koS hlv) fun lvs hlo hli => ?_; have hll := jE hli; apply jJ B hR'.handled hlo; intro I s B T; refine ln B T [] ["leaf"] (fun j v _ => ∃ t, v = .str ((fun y => dp y (-1)) (ls.getD j aj)) t) ⟨rfl, rfl, rfl, by walk_at "cs", rfl, rfl⟩ (by rw [hll, hl6]; decide) ?_ ?_
 · intro j v c2 cenv L2 γ2 m6 own ρ nw2 s hj hE hm6 hv hC hM B Qx hK; obtain ⟨y, ty, hy, rfl⟩ := j3 hli hv; have hyd : ls.getD j aj = y := by rw [ab, hy]; rfl
   have hyl := hlen y (av hy); refine af ?_; walk_at "st"; walk_at "sts"; refine i_neg B ?_; clear B; intro t5 s B; walk_at "sts"; refine qC B (a260 hyl) (a259) (oQ (by decide) (by decide)) ?_; clear B; intro t6 s B; exact hK.go (by walk_at "tn") B .rfl (fun _ _ => ⟨_, by rw [hyd]⟩)
 intro γ3 m3 xs r1 s hm3 hk3 hxs B; rw [hll] at hxs; have hxi := B.strs hxs; rw [jI (l := ls) (d := aj) (f := fun y => dp y (-1)) rfl, ← hlast] at hxi; walk_at "sts"; refine pZ hu (B.kn (hrd.up hm3)) (B.kn (P := LS r1 rd) (Kn.map hk3 fun h x => ⟨xs, x, hxi⟩)) ?_; walk_at "sts"; refine j6 rfl ?_; walk_at "sts"; refine toksQ htk ?_; refine rH hxl (hR'.less (a211) (a210)) B.bef ?_; intro t2 m4 s f4; replace B := B.aft f4; walk_at "sts"; have hle4 := hm3.trans f4.le; refine jH B [] (by walk_at "cs") rfl rfl rfl ?_; walk_at "sts"; refine toksQ htk ?_; apply jJ B hR'.handled (jQ hle4 hlo); intro I s B T; intro htk; refine lc_goT (t0 := 1) B T htk [] ["leaf"] (fun _ => true) (fun j v _ => ∃ t, v = .str (bare (ls.getD j aj)) t) ⟨rfl, by decide +kernel, by decide +kernel, by walk_at "ce", rfl, by show fQ [aa "leaf"]; decide +kernel⟩ (by rw [hll, hl6]; decide) ?_ ?_
 · rintro j v c2 cenv L2 γ2 m6 nw2 s hj htk hE hm6 hv hnw B; simp only [ag, b6, aY, bi, bE] at B; obtain ⟨y, ty, hy, rfl⟩ := j3 hli hv; have hyd : ls.getD j aj = y := by rw [ab, hy]; rfl
   have hyl := hlen y (av hy); have hyb := hbl y (av hy); have z0 : (aa "").length = 0 := by decide +kernel
   simp only [hyd]; refine af ?_; refine toksQ htk ?_; walk_at "st"; intro htk; refine kU ⟨rfl, ?_⟩; rw [if_pos rfl]; refine MethodCall_ ?_; refine MethodCall_ ?_; walk_at "st"; walk_at "st"; walk_at "st"; refine bJ ?_; walk_at "vis"; refine bJ ?_; walk_at "vis"; walk_at "st"; refine toksQ (a258 e1) ?_; refine SC.replace (y := aa "\"(\"") (z := aa "") ?_ ?_ ?_ (by decide +kernel) (by rw [z0]; exact a257 hyl) fun t7 k7 => ?_
   · show @Ne Nat _ _; exact a255 htk
   · show @Ne Nat _ _; exact a254 (by assumption)
   · show @Ne Nat _ _; exact a253 (by assumption)
   intro htk; replace B := B.tk s.drawn k7; generalize (⟨s.heap, s.gens, s.drawn, k7, s.os⟩ : Shared) = s7 at B htk ⊢; walk_at "st"; walk_at "st"; refine bJ ?_; walk_at "vis"; refine bJ ?_; walk_at "vis"; walk_at "st"; refine SC.replace (y := aa "\")\"") (z := aa "") ?_ ?_ ?_ (by decide +kernel) (by rw [z0]; exact a256 hyb) fun t8 k8 => ?_
   · show @Ne Nat _ _; exact a255 htk
   · show @Ne Nat _ _; exact a254 (by assumption)
   · show @Ne Nat _ _; exact a253 (by assumption)
   replace B := B.tk s.drawn k8; exact oX B .rfl (fun _ _ => ⟨_, rfl⟩) rfl
 intro γ5 m5 ys r2 s hm5 hk5 hys B; rw [lC, hll] at hys; have hyi := B.strs hys; rw [jI (l := ls) (d := aj) (f := fun y => bare y) rfl] at hyi; walk_at "sts"; have hle5 := hle4.trans hm5; refine c_written (ls := ls.map bare) (by rw [al]; exact a239 hl6) ?_ tr (by rw [al, hl6]; exact hfit) hsz (hR'.less (a224 hdep) (a223 hdep)) B.bef (hkt.up hle5) (fun hp ok => ⟨ys, hk5 hp ok, hyi⟩) ?_
 · intro y hy; obtain ⟨z, hz, rfl⟩ := mMa hy; exact (hbl z hz).2
 intro t9 m6 s6 f6; replace B := B.aft f6; walk_at "sts"; refine j6 (by rw [hwr]; simp) ?_; walk_at "sts"; have hle6 := hle5.trans f6.le; refine lH (f := 200) B (hx.up hle6) (by rfl) (by rfl) (fun _ _ => by rfl) ?_; refine rF (by rfl) (B.kn B.gr).k ?_; refine c_keys hel (hR'.less (a178) (a177)) B.bef (hx.up hle6) (hl.up hle6) ?_; intro rk m7 s7 f7 hk7; replace B := B.aft f7; walk_at "sts"; have hle7 := hle6.trans f7.le; refine x12 (B.koS (hws.up hle7)) fun wvs hwo hwi => ?_; refine x12 (B.koS (hrd.up hle7)) fun rvs hro hri => ?_; have hwl := jE hwi; have hrl := jE hri
 refine my B (B.ato hwo) (B.ato hro) (by have h5 : (j7 f).length = 5 := (by simp [j7]); rw [aD]; exact a252 hr6 hwl hrl h5) ?_; clear B; intro rs m8 s hm8 hk8 B
 rw [hes] at hk7; refine pZ hu (B.kn (hk7.up hm8)) (B.kn (P := LS rs (j7 f ++ rd)) (Kn.map hk8 fun h x => ⟨_, x, kK hwi hri⟩)) ?_; walk_at "sts"; refine j6 rfl ?_; walk_at "st"; refine j6 rfl ?_; walk_at "st"; exact fun htk => h _ m8 s (hle7.trans hm8) B
end
end
section
section
variable {w : World} {c : Cx} {γ : Array aE} {m : Mp} {env : Env} {s : Shared} {A : au} {E : VP} {Q : Flow → Shared → Prop} {L : Addr} {own : List Addr} {ρ : List VE}
noncomputable def abc : Str := aa "aBc"
theorem so_abc (w : World) : ∀ j, j < 3 → jN w true (aQ ⟨#[abc.cps.getD j 0]⟩)
 | 0, _ => fun S t => by kernel_rfl
 | 1, _ => fun S t => by kernel_rfl
 | 2, _ => fun S t => by kernel_rfl
 | j + 3, h => by (first | lia | omega)
theorem law_8 (W : LawE A env L) {x lst : Addr}   {es : List (Str × Str)} {lks : List (Nat × Nat)} (hx : HdK w m x lst) (hl : HdL m lst es) (hle : ∀ p ∈ es, nk p.1) (hel : es.length ≤ 1000)
   (hlk : lks.length = 3) (hal : ∀ j p q, lks[j]? = some (p, q) → p < 6 ∧ q < 6 ∧ allOf es ⟨#[abc.cps.getD j 0]⟩ = [nz p, nz q])
   (B : Bd w c γ m env own ρ [] s) (r_table : (⟨"table", some (L + 5), some (.ref x)⟩ : VE) ∈ ρ) (r_links : Hn (aa "links") none ρ) (r_net : Hn (aa "net") none ρ)
   (h : ∀ (lk : Addr) ρ' γ m' s', m.le m' → KP m' lk (lks.map fun p => ((p.1 : Int), (p.2 : Int))) →
     Ow ["links", "net"] ρ ρ' → (⟨"links", none, some (.ref lk)⟩ : VE) ∈ ρ' → (⟨"net", none, some (.bool true)⟩ : VE) ∈ ρ' → Bd w c γ m' env own ρ' [] s' → wpAny (model PG w) A (execs (lawBody.drop 17) env) Q E s') :
   wpAny (model PG w) A (execs (lawBody.drop 15) env) Q E s := by
 conv => arg 3; arg 1; whnf
 have hE := W.kinds; have hR' := W.room; walk_at "st"; refine ma B [⟨"table", some (L + 5), some (.ref x)⟩] (by walk_at "cs") rfl rfl rfl (hE.kind (by rfl)) rfl ?_; walk_at "sts"; apply src_str (z := abc) B hR'.handled; intro I s B T; have hsz : abc.cps.size = 3 := by decide +kernel
 refine m0 (y := aa "links") B T [⟨"table", some (L + 5), some (.ref x)⟩] ["letter"] (fun j v h => ∃ b, v = .ref b ∧ LI b [((lks.getD j (0, 0)).1 : Int), ((lks.getD j (0, 0)).2 : Int)] h) ⟨rfl, rfl, rfl, by walk_at "cs", rfl, rfl⟩ (by rw [hsz]; decide) (by walk_at "has") ?_ ?_
 · intro j v c2 cenv L2 γ2 m6 own ρ nw2 s hj hE hm6 hv hC hM B Qx hK; obtain ⟨cc, tj, hcc, rfl⟩ := hv; have hj3 : j < 3 := a220 hsz hj
   have hcd : abc.cps.getD j 0 = cc := by rw [fg, hcc]; rfl
   obtain ⟨⟨p, q⟩, hpq⟩ : ∃ pq, lks[j]? = some pq := ⟨_, ac (a219 hlk hsz hj)⟩; refine x03 (hal j p q hpq) fun hp6 hq6 hall => ?_; have hgd : lks.getD j (0, 0) = (p, q) := by rw [ab, hpq]; rfl
   rw [hcd] at hall; have hsa := so_abc w j hj3; rw [hcd] at hsa; refine af ?_; walk_at "st"; refine jH B [] (by walk_at "cs") rfl rfl rfl ?_; walk_at "sts"; refine lH (f := 187) B (hx.up hm6) (by rfl) (by rfl) (fun _ _ => by rfl) ?_; refine pI (by rfl) ?_; walk_at "sts"; walk_at "qs"; refine ⟨(B.kn B.gr).k, ?_⟩; refine c_getall (nm := ⟨#[cc]⟩) hsa ?_ hle hel (hR'.less (a211) (a210)) B.bef (hx.up hm6) (hl.up hm6) ?_
   · rw [← hcd]; exact (by decide +kernel : ∀ j : Nat, j < 3 → bw (aQ ⟨#[abc.cps.getD j 0]⟩).length = false) j hj3
   intro r m7 s7 f7 hr; rw [hall] at hr; replace B := B.aft f7; refine x12 (B.koS hr) fun us hku hus => ?_; have hul := jE hus; apply jJ B hR'.handled hku; intro I2 s B T2; refine ln B T2 [] ["place"] (fun k v _ => ∃ t, v = .int (([(p : Int), (q : Int)] : List Int).getD k 0) t) ⟨rfl, rfl, rfl, by walk_at "cs", rfl, rfl⟩ (by rw [hul]; show 2 ≤ aS; decide) ?_ ?_
   · intro k v c3 cenv3 L3 γ3 m8 own ρ nw3 s hk hE hm8 hv hC hM B Qx hK; obtain ⟨y, ty, hy, rfl⟩ := j3 hus hv; obtain ⟨z, hz, rfl, hzk⟩ : ∃ z : Nat, z < 6 ∧ y = nz z ∧ ([(p : Int), (q : Int)] : List Int).getD k 0 = (z : Int) := by
       match k, hy with
       | 0, hy => cases hy; exact ⟨p, hp6, rfl, rfl⟩
       | 1, hy => cases hy; exact ⟨q, hq6, rfl, rfl⟩
       | k + 2, hy => simp at hy
     refine af ?_; walk_at "st"; walk_at "sts"; refine KIN.call_num (n := (z : Int)) (a12) (a218 hz) ?_; replace B := B.tk s.drawn (s.toks + 1); walk_at "qs"; exact hK.go (by walk_at "tn") B .rfl (fun _ _ => ⟨_, by rw [hzk]⟩)
   intro γ3 m8 xs r3 s hm8 hk8 hxs B; have hxi := B.ints hxs; rw [show us.length = 2 from hul] at hxi
   walk_at "qs"; exact hK.go (by walk_at "tn") B (f7.le.trans hm8) (fun hp ok => ⟨r3, rfl, xs, hk8 hp ok, by rw [hgd]; exact hxi⟩)
 intro γ3 m3 xs lk ρ s hm3 hk3 hxs hV B; rw [hsz] at hxs; obtain ⟨bs, rfl, hbs⟩ := B.refs hxs; have hkp : KP m3 lk (lks.map fun p => ((p.1 : Int), (p.2 : Int))) := by
   walk_at "qs"; refine ⟨bs, B.ko hk3, ?_⟩; have := All2.map_r (f := fun j => (((lks.getD j (0, 0)).1 : Int), ((lks.getD j (0, 0)).2 : Int))) (S := fun b (p : Int × Int) => Kn m3 (LI b [p.1, p.2])) (fun a b k => k) hbs; rwa [jI (l := lks) (d := (0, 0)) (f := fun p => ((p.1 : Int), (p.2 : Int))) hlk] at this
 walk_at "st"; walk_at "st"; walk_at "st"; walk_at "st"; walk_at "st"; walk_at "qs"; exact h lk _ _ m3 s hm3 hkp (by walk_at "ow") (by walk_at "mem") (by walk_at "mem") B
end
end
section
section
variable {w : World} {c : Cx} {γ : Array aE} {m : Mp} {env : Env} {s : Shared} {A : au} {E : VP} {Q : Flow → Shared → Prop} {L : Addr} {own : List Addr} {ρ : List VE}
noncomputable def kY (k ch : Nat) : Nat := (((ae (jG k).length).filter fun j => ch.testBit j).map fun j => 2 ^ ((jG k).getD j 0)).sum
noncomputable def chosen (k ch : Nat) : List Int := if kY k ch = 0 then [9] else (jG (kY k ch)).map aZ
noncomputable def mh (f k ch : Nat) : List Str := if kY k ch = 0 then [aa "0x0"] else lO f (kY k ch)
theorem sub_lt : ∀ i, i < 12 → ∀ ch, ch < 2 ^ (jG (jx i)).length → kY (jx i) ch < 32 := by decide +kernel
theorem bits_len : ∀ i, i < 12 → (jG (jx i)).length ≤ 4 := by decide +kernel
noncomputable def ke (lks : List (Nat × Nat)) (tr : Tr) (k n : Nat) : Bool := (ae n).all fun ch => kG ((lks.map fun p => ((p.1 : Int), (p.2 : Int))) ++ ties (chosen k ch) tr)
theorem nK (lks : List (Nat × Nat)) (tr : Tr) (k n : Nat) : ke lks tr k (n + 1) = (ke lks tr k n && kG ((lks.map fun p => ((p.1 : Int), (p.2 : Int))) ++ ties (chosen k n) tr)) := by
 unfold ke; rw [eV, List.all_append]; simp
theorem law_9 (W : LawE A env L) {f i : Nat} {pa x lst lk : Addr} {tf : Tok} {tv : Value} {es : List (Str × Str)} {lks : List (Nat × Nat)} {tr : Tr} (hf : f < 24) (hi : i < 12)
   (hpa : Kn m (LI pa ((jG (jx i)).map aZ))) (hx : HdK w m x lst) (hl : HdL m lst es) (hle : ∀ p ∈ es, nk p.1) (hel : es.length ≤ 1000) (hkp : KP m lk (lks.map fun p => ((p.1 : Int), (p.2 : Int)))) (hlk : lks.length = 3) (hkt : KT m tv tr)
   (hfit : tr.fits 1000) (hsz : tr.size ≤ 100) (hdep : tr.dep ≤ 6) (hrg : ∀ ch, ch < 2 ^ (jG (jx i)).length → ∀ p ∈ (lks.map fun p => ((p.1 : Int), (p.2 : Int))) ++ ties (chosen (jx i) ch) tr, 0 ≤ p.1 ∧ p.1 < 11 ∧ 0 ≤ p.2 ∧ p.2 < 11)
   (hget : ∀ ch, ch < 2 ^ (jG (jx i)).length → ∀ (j : Nat) (y : Str), (mh f (jx i) ch)[j]? = some y → ∃ z : Nat, (chosen (jx i) ch)[j]? = some (z : Int) ∧ z < 10 ∧ nb es (aI y) (aa "9") = nz z ∧ jN w true (aQ (aI y)) ∧ nk (aI y) ∧ bw (aI y).length = false)
   (B : Bd w c γ m env own ρ [] s) (r_first : (⟨"first", some (L + 1), some (.int (f : Nat) tf)⟩ : VE) ∈ ρ) (r_pars : (⟨"pars", some (L + 4), some (.ref pa)⟩ : VE) ∈ ρ) (r_table : (⟨"table", some (L + 5), some (.ref x)⟩ : VE) ∈ ρ) (r_tree : (⟨"tree", none, some (tv)⟩ : VE) ∈ ρ) (r_links : (⟨"links", none, some (.ref lk)⟩ : VE) ∈ ρ) (r_net : (⟨"net", none, some (.bool true)⟩ : VE) ∈ ρ) (r_choice : Hn (aa "choice") (some (L + 7)) ρ) (o_choice : L + 7 ∈ own) (r_told : Hn (aa "told") none ρ) (r_found : Hn (aa "found") none ρ)
   (h : ∀ ρ' γ m' s', m.le m' →
     Ow ["choice", "told", "found", "net"] ρ ρ' → (⟨"net", none, some (.bool (ke lks tr (jx i) (2 ^ (jG (jx i)).length)))⟩ : VE) ∈ ρ' → Bd w c γ m' env own ρ' [] s' → wpAny (model PG w) A (execs (lawBody.drop 18) env) Q E s') :
   wpAny (model PG w) A (execs (lawBody.drop 17) env) Q E s := by
 conv => arg 3; arg 1; whnf
 have hE := W.kinds; have hR' := W.room; have hu : A.units < cLine := by have := W.room.units; exact a199 this
 have hbl := bits_len i hi; walk_at "sts"; refine x12 (B.koI hpa) fun pvs hpo hpi => ?_; have hpl := jM hpi; rw [al] at hpl; refine p7 B (B.ato hpo) (by rw [hpl]; exact szl (a235 hbl)) ?_; clear B; intro t1 s B; rw [hpl]; generalize hn : (jG (jx i)).length = n at *
 walk_at "sts"; rw [show (2 : Int) ^ ((n : Nat) : Int).toNat = ((2 ^ n : Nat) : Int) from by rw [bf]; simp]
 have hpow : 2 ^ n ≤ 16 := by
   have : n = 0 ∨ n = 1 ∨ n = 2 ∨ n = 3 ∨ n = 4 := a236 hbl
   rcases this with h | h | h | h | h <;> subst h <;> decide
 apply kA (k := 2 ^ n) B hR'.handled ((by decide +kernel : ∀ n, n ≤ 4 → bO 0 ((2 ^ n : Nat) : Int) 1 = true) n hbl); intro I s B T; refine c9 (lK B T ["choice", "told", "found", "net"] (fun ch m' ρ => (⟨"net", none, some (.bool (ke lks tr (jx i) ch))⟩ : VE) ∈ ρ) (by walk_at "mem") ?_ ?_) (fun _ _ x => x)
 · clear B T; intro ch v c1 γ6 m6 ρ s hch how hnet hm6 hv B hback Qb hN hB hQ; obtain ⟨tc, rfl⟩ := hv; have hget := hget ch hch; have hrg := hrg ch hch; have hsub := sub_lt i hi ch (by rw [hn]; exact hch); refine af ?_; walk_at "sts"; refine jH B [⟨"first", some (L + 1), some (.int (f : Nat) tf)⟩, ⟨"choice", some (L + 7), some (.int (ch : Nat) tc)⟩] (by walk_at "cs") rfl rfl rfl ?_; walk_at "sts"; apply kN B hR'.handled (jQ hm6 hpo); intro I s B T; refine mZ B T [⟨"first", some (L + 1), some (.int (f : Nat) tf)⟩, ⟨"choice", some (L + 7), some (.int (ch : Nat) tc)⟩] ["j", "par"] (fun j => ch.testBit j) (fun j v _ => ∃ t, v = .int ((2 ^ (f + (jG (jx i)).getD j 0) : Nat) : Int) t) ⟨rfl, rfl, rfl, by walk_at "cs", rfl, rfl⟩ (by show pvs.length ≤ _; rw [hpl]; exact szl (a235 hbl)) ?_ ?_
   · intro j v c2 cenv L2 γ2 m7 own ρ nw2 s hj hE hm7 hv hC hM B Qt hK; obtain ⟨T, tj, z, rfl, hz, hT⟩ := hv; obtain ⟨y, ty, hy, rfl⟩ := kD hpi (by simpa using hz); obtain ⟨b, hb, rfl⟩ := bN.mp (by rwa [ar] at hy); have hb5 : b < 5 := az.mp (bl.mp (av hb)).1; have hbd : (jG (jx i)).getD j 0 = b := by rw [ab, hb]; rfl
     refine kE B hR'.handled hT rfl rfl ?_; clear B; intro s B; refine ak (af ?_); walk_at "st"; refine ak (af ?_); walk_at "st"; refine aL ?_; walk_at "sts"; refine hK.go (nY ch j) (by walk_at "tn") B .rfl fun hb Qx hK => ?_; have hb0 : (0 : Int) ≤ (f : Int) + aZ b := by simp only [eU]; exact a234
     have hb1 : (f : Int) + aZ b ≤ 1000000 := by simp only [eU]; exact a233 hf hb5
     walk_at "sts"; have e : (1 : Int) * 2 ^ ((f : Int) + aZ b).toNat = ((2 ^ (f + (jG (jx i)).getD j 0) : Nat) : Int) := by
       rw [hbd, show ((f : Int) + aZ b).toNat = f + b from by simp only [eU]; exact a232]
       simp
     exact hK.go (by walk_at "tn") B .rfl fun _ _ => ⟨_, by rw [e]⟩
   intro γ3 m7 xs r1 s hm7 hk7 hxs B; have hxi := B.ints hxs; walk_at "sts"; refine l_sum B hR'.handled ⟨xs, B.kn hk7, hxi⟩ ?_; clear B; intro t2 s B; have hsum : (((ae pvs.length).filter fun j => ch.testBit j).map fun j => ((2 ^ (f + (jG (jx i)).getD j 0) : Nat) : Int)).sum = ((kY (jx i) ch <<< f : Nat) : Int) := by
     unfold kY; rw [hpl, hn, dD]; generalize (ae n).filter (fun j => ch.testBit j) = is; induction is with
     | nil => simp
     | cons a r ih =>
       simp only [ag, bx, ih]; rw [Nat.add_mul, Nat.pow_add, ft]; simp
   rw [hsum]; walk_at "sts"; refine qt (kY (jx i) ch <<< f) ?_ (hR'.less (a178) (a177)) B.bef ?_
   · rw [dD]; have h1 : 2 ^ f ≤ 2 ^ 23 := b0 (by decide) (a193 hf); have h2 : kY (jx i) ch * 2 ^ f ≤ 31 * 2 ^ 23 := gv (a198 hsub) h1; exact a197 h2
   intro t3 m8 s8 f8; replace B := B.aft f8; walk_at "sts"; have hpl2 := pn (k := kY (jx i) ch) hf hsub; refine pQ (x := jR (kY (jx i) ch <<< f)) (y := aa ", ") B (by decide +kernel) (szl (a205 hpl2)) (by have := cut_len (jR (kY (jx i) ch <<< f)) (aa ", "); rw [aD]; exact a204 hpl2 this) ?_; rw [show cz (jR (kY (jx i) ch <<< f)) (aa ", ") = mh f (jx i) ch from by
     unfold mh; by_cases q : kY (jx i) ch = 0
     · rw [if_pos q, q]; exact sN hf
     rw [if_neg q]; exact oZ hf hsub q]
   clear B; intro sp m9 s hm9 hS B; walk_at "sts"; have hle9 := (hm7.trans f8.le).trans hm9; refine ma B [⟨"table", some (L + 5), some (.ref x)⟩] (by walk_at "cs") rfl rfl rfl (hE.kind (by rfl)) rfl ?_; walk_at "sts"; refine x12 (B.koS hS) fun svs hso hsi => ?_; have hsl := jE hsi; have htl : (mh f (jx i) ch).length ≤ 5 := by
     unfold mh; split
     · decide
     walk_at "qs"; exact oE _ _
   apply jJ B hR'.handled hso; intro I s B T; refine m0 (y := aa "found") B T [⟨"table", some (L + 5), some (.ref x)⟩] ["word"] (fun j v h => ∃ b, v = .ref b ∧ At b (fun ob => ∃ t, tJ [.str (nz ((chosen (jx i) ch).getD j 0).toNat) t, .str (nz ((chosen (jx i) ch).getD j 0).toNat) t] ob) h) ⟨rfl, rfl, rfl, by walk_at "cs", rfl, rfl⟩ (by rw [hsl]; exact szl (a231 htl)) (by walk_at "has") ?_ ?_
   · intro j v c2 cenv L2 γ2 m10 own ρ nw2 s hj hE hm10 hv hC hM B Qx hK; obtain ⟨y, ty, hy, rfl⟩ := j3 hsi hv; refine x16 (hget j y hy) fun z hz hz10 hgt hsrch hlow htoo => ?_; have hzd : ((chosen (jx i) ch).getD j 0).toNat = z := by rw [ab, hz]; simp
     refine af ?_; walk_at "st"; refine Call_KW ?_; walk_at "st"; refine callWith_KW (K := KK w) (B.kn B.gr).k (by rfl) (by rfl) ?_; walk_at "sts"; refine iD htoo ?_; replace B := B.tk s.drawn (s.toks + 1); walk_at "sts"; refine fI ?_; walk_at "sts"; refine o_bound B (hx.up ((hm6.trans hle9).trans hm10)) ?_; clear B; intro q m11 s hm11 hq B; walk_at "sts"; refine kwAll_cons ?_; walk_at "sts"; refine kwAll_nil ⟨(B.kn B.gr).k, ?_⟩; have hle11 := ((hm6.trans hle9).trans hm10).trans hm11; refine tF hsrch hlow hle hel (hR'.less (a230) (a229)) B.bef (hx.up hle11) (hl.up hle11) hq ?_; intro t4 T m12 s12 f12 hT; replace B := B.aft f12; rw [hgt, ← hzd] at hT; walk_at "qs"; exact hK.go (by walk_at "tn") B (hm11.trans f12.le) (hT.map fun h x => ⟨T, rfl, by obtain ⟨ob, h1, h2⟩ := x; exact ⟨ob, h1, _, h2⟩⟩)
   intro γ4 m10 ys fd ρ s hm10 hk10 hys hV B; rw [hsl] at hys; obtain ⟨bs, rfl, hbs⟩ := B.refs hys; have hbl2 := hbs.length; rw [dQ] at hbl2; walk_at "st"; have B0 := B; have hitem : ∀ (j : Nat) (v : Value), (bs.map d0)[j]? = some v → ∃ b, v = .ref b ∧ Kn m10 (At b (fun ob => ∃ t, tJ [.str (nz ((chosen (jx i) ch).getD j 0).toNat) t, .str (nz ((chosen (jx i) ch).getD j 0).toNat) t] ob)) := by
     intro j v hv; rw [ar] at hv; obtain ⟨b, hb, rfl⟩ := bN.mp hv; refine x12 (hbs.get hb) fun j' hj' hk' => ?_; have hjl := (aC.mp hb).1; rw [bX (a228 hbl2 hjl)] at hj'; cases hj'
     walk_at "qs"; exact ⟨b, rfl, hk'⟩
   have hz10 : ∀ j : Nat, j < bs.length → ((chosen (jx i) ch).getD j 0).toNat < 10 := by
     intro j hj; have hjt : j < (mh f (jx i) ch).length := a228 hbl2 hj
     refine x13 (hget j _ (ac hjt)) fun z hz hz10 _ => ?_; rw [ab, hz]; simpa using hz10
   walk_at "sts"; refine jH B [] (by walk_at "cs") rfl rfl rfl ?_; walk_at "sts"; apply jJ B hR'.handled (B.ko hk10); intro I s B T; refine mZ B T [] ["one", "other"] (fun _ => false) (fun j v _ => True) ⟨rfl, rfl, rfl, by walk_at "cs", rfl, rfl⟩ (by rw [al]; exact szl (a227 htl hbl2)) ?_ ?_
   · intro j v c2 cenv L2 γ2 m11 own ρ nw2 s hj hE hm11 hv hC hM B Qt hK; obtain ⟨b, rfl, hb⟩ := hitem j v hv; obtain ⟨ob, hob, tb, hTO⟩ := B.ko (hb.up hm11); refine kE B hR'.handled (B.ato ⟨ob, hob, hTO⟩).tup rfl rfl ?_; clear B; intro s B; refine ak (af ?_); walk_at "st"; refine ak (af ?_); walk_at "st"; refine aL ?_; walk_at "sts"; exact hK.go (by simp) (by walk_at "tn") B .rfl fun hb => ia hb
   intro γ5 m11 xs2 r2 s hm11 hk11 hxs2 B; have hx0 : xs2 = [] := by
     have := hxs2.length; rw [dG.mpr (by simp)] at this; walk_at "qs"; exact dy.mp this
   subst hx0; walk_at "sts"; walk_at "nl"; intro nl m12 s hm12 hnl B; walk_at "sts"; refine ri hu (B.kn (hk11.up hm12)) (B.kn hnl) rfl (fun A j x y hx => by simp at hx) ?_; walk_at "sts"; refine j6 rfl ?_; walk_at "sts"; have hleA := (hm6.trans hle9).trans hm10; have hleB := hm11.trans hm12; have hleC := hleA.trans hleB; refine ky (fun hb => ?_) (fun hb => ?_)
   · walk_at "sts"; refine jH B [] (by walk_at "cs") rfl rfl rfl ?_; walk_at "sts"; apply jJ B hR'.handled (jQ hleB (B0.ko hk10)); intro I s B T; refine ln B T [] ["one", "other"] (fun j v _ => ∃ t, v = .int (((chosen (jx i) ch).getD j 0).toNat : Int) t) ⟨rfl, rfl, rfl, by walk_at "cs", rfl, rfl⟩ (by rw [al]; exact szl (a227 htl hbl2)) ?_ ?_
     · intro j v c2 cenv L2 γ2 m13 own ρ nw2 s hj hE hm13 hv hC hM B Qx hK; rw [al] at hj; obtain ⟨b, rfl, hb⟩ := hitem j v hv; obtain ⟨ob, hob, tb, hTO⟩ := B.ko (hb.up (hleB.trans hm13)); refine kE B hR'.handled (B.ato ⟨ob, hob, hTO⟩).tup rfl rfl ?_; clear B; intro s B; refine ak (af ?_); walk_at "st"; refine ak (af ?_); walk_at "st"; refine aL ?_; walk_at "sts"; have hz := hz10 j hj; refine KIN.call_num (n := (((chosen (jx i) ch).getD j 0).toNat : Int)) (a226) (a225 hz) ?_; replace B := B.tk s.drawn (s.toks + 1); walk_at "qs"; exact hK.go (by walk_at "tn") B .rfl (fun _ _ => ⟨_, rfl⟩)
     intro γ6 m13 ys3 r3 s hm13 hk13 hys3 B; rw [al] at hys3; have hci := B.ints hys3; have hcl : (chosen (jx i) ch).length = bs.length := by
       rw [hbl2]; unfold chosen mh; split
       · rfl
       unfold lO jG; rw [al, al]
     have hcz : (ae bs.length).map (fun j => (((chosen (jx i) ch).getD j 0).toNat : Int)) = chosen (jx i) ch := by
       rw [jI (l := chosen (jx i) ch) (d := 0) (f := fun x => (x.toNat : Int)) hcl]; conv => rhs; rw [← eR (chosen (jx i) ch)]
       refine bW fun x hx => ?_; unfold chosen at hx; split at hx
       · rw [mSg hx]; rfl
       obtain ⟨y, _, rfl⟩ := mMa hx; rfl
     rw [hcz] at hci; walk_at "sts"; have hleD := hleC.trans hm13; refine c_ties (ch := chosen (jx i) ch) tr hfit hsz (hR'.less (a224 hdep) (a223 hdep)) B.bef (hkt.up hleD) (fun hp ok => ⟨ys3, hk13 hp ok, hci⟩) ?_; intro r4 m14 s14 f14 hk14; replace B := B.aft f14; walk_at "sts"; have hleE := hleD.trans f14.le; obtain ⟨bs1, ⟨o1, ho1, hl1⟩, ha1⟩ := hkp.up hleE; obtain ⟨bs2, ⟨o2, ho2, hl2⟩, ha2⟩ := hk14; have h1l := ha1.length; have h2l := ha2.length; have htl2 := mL (chosen (jx i) ch) tr; rw [al, hlk] at h1l; refine my B (B.ato ⟨o1, ho1, hl1⟩) (B.ato ⟨o2, ho2, hl2⟩) (by rw [aD, al, al]; exact a222 hsz h1l h2l htl2) ?_; clear B; intro r5 m15 s hm15 hk15 B; rw [← aM] at hk15; walk_at "sts"; refine c_onetree (ps := (lks.map fun p => ((p.1 : Int), (p.2 : Int))) ++ ties (chosen (jx i) ch) tr) (hR'.less (a178) (a177)) B.bef ⟨bs1 ++ bs2, B.ko hk15, (All2.append ha1 ha2).imp fun _ _ k => k.up hm15⟩ hrg ?_ ?_
     · rw [aw, al]; exact a221 hlk hsz htl2
     intro m16 s16 f16; replace B := B.aft f16; have hnx : kG ((lks.map fun p => ((p.1 : Int), (p.2 : Int))) ++ ties (chosen (jx i) ch) tr) = ke lks tr (jx i) (ch + 1) := by
       rw [nK, hb, i5]
     rw [hnx]; walk_at "sts"; walk_at "qs"; exact hN _ m16 _ _ (by walk_at "ow") (by walk_at "mem") ((((((hle9.trans hm10).trans hleB).trans hm13).trans f14.le).trans hm15).trans f16.le) B
   have hnx : ke lks tr (jx i) (ch + 1) = ke lks tr (jx i) ch := by
     rw [nK, hb, cP]
   walk_at "sts"; walk_at "qs"; exact hN _ m12 _ _ (by walk_at "ow") (by rw [hnx]; walk_at "mem") ((hle9.trans hm10).trans hleB) B
 clear B T; intro γ6 m6 ρ s how hnet hm6 B; walk_at "st"; walk_at "qs"; exact h _ _ m6 s hm6 (by walk_at "ow") (by walk_at "mem") B
end
end
section
section
variable {w : World}
noncomputable def Tr.isPlus : Tr → Bool
 | .leaf _ => false
 | .node sg _ _ _ => sg == aa "+"
noncomputable def Tr.kids : Tr → List Tr
 | .leaf _ => []
 | .node _ l r _ => [l, r]
noncomputable def Tr.nodes : Tr → Nat
 | .leaf _ => 0
 | .node _ l r _ => l.nodes + r.nodes + 1
noncomputable def jK (ts : List Tr) : Nat := (ts.map Tr.nodes).sum
noncomputable def jS (rg : Bool) (k : Nat) : List Nat := if rg then (ae (k + 1)).map (fun z => 2 ^ z - 1) else ae (2 ^ k)
noncomputable def lg (rest : List Tr) (ch : Nat) (b : Bool) : List Tr := ((ae rest.length).filter fun j => ch.testBit j == b).map fun j => rest.getD j cD
noncomputable def oV (rd : List Str) (ts : List Tr) : Bool := (letters rd ts).all fun x => (letters rd ts).any fun y => y == aI x
noncomputable def nQ (rd : List Str) : List Tr → Bool
 | [.leaf i, .leaf j] => rd.getD i aj == aI (rd.getD j aj)
 | _ => false
noncomputable def lG (rd : List Str) (rg : Bool) (f : List Tr → Bool) (ts : List Tr) : Bool :=
   match ts.findIdx? Tr.isPlus with
   | some k => f (ts.take k ++ (ts.getD k cD).kids ++ ts.drop (k + 1))
   | none => ((ae ts.length).any fun k => match ts.getD k cD with
       | .leaf _ => false
       | .node _ l r _ => (jS rg (ts.length - 1)).any fun ch =>
           oV rd (r :: lg (ts.drop (k + 1) ++ ts.take k) ch true) && f (r :: lg (ts.drop (k + 1) ++ ts.take k) ch true) && f (lg (ts.drop (k + 1) ++ ts.take k) ch false ++ [l])) || nQ rd ts
noncomputable def prv (rd : List Str) (rg : Bool) : Nat → List Tr → Bool
 | 0, ts => nQ rd ts
 | n + 1, ts => lG rd rg (prv rd rg n) ts
theorem leaf_of {ts : List Tr} (h : jK ts = 0) : ∀ t ∈ ts, ∃ i, t = .leaf i := by
 induction ts with
 | nil => intro t ht; cases ht
 | cons x r ih =>
   intro t ht; unfold jK at h ih; rw [ag, bx] at h; rcases mCo ht with rfl | ht
   · cases t with
     | leaf i => exact ⟨i, rfl⟩
     | node sg l r mid => simp [Tr.nodes] at h
   exact ih (a73 h) t ht
theorem prv_eq {rd : List Str} {rg : Bool} : ∀ {n : Nat} {ts : List Tr}, jK ts ≤ n → prv rd rg n ts = lG rd rg (prv rd rg (n - 1)) ts
 | n + 1, ts, _ => rfl
 | 0, ts, h => by
   have hl := leaf_of (Nat.le_zero.mp h); unfold lG; have h1 : ts.findIdx? Tr.isPlus = none := by
     rw [iX]; intro t ht; obtain ⟨i, rfl⟩ := hl t ht; rfl
   rw [h1]; have h2 : ((ae ts.length).any fun k => match ts.getD k cD with
       | .leaf _ => false
       | .node _ l r _ => (jS rg (ts.length - 1)).any fun ch =>
           oV rd (r :: lg (ts.drop (k + 1) ++ ts.take k) ch true) && prv rd rg (0 - 1) (r :: lg (ts.drop (k + 1) ++ ts.take k) ch true) && prv rd rg (0 - 1) (lg (ts.drop (k + 1) ++ ts.take k) ch false ++ [l])) = false := by
     rw [gW]; intro k hk; have hk' : k < ts.length := az.mp hk; have : ts.getD k cD ∈ ts := by
       rw [ab, ac hk']; exact bG hk'
     obtain ⟨i, e⟩ := hl _ this; rw [e]; simp
   rw [h2]; rfl
theorem All2.take {α β : Type} {R : α → β → Prop} {xs : List α} {ys : List β} (k : Nat) (h : All2 R xs ys) : All2 R (xs.take k) (ys.take k) := by
 induction h generalizing k with
 | nil => rw [eL, eL]; exact .nil
 | cons h r ih =>
   cases k with
   | zero => exact .nil
   | succ k => exact .cons h (ih k)
theorem All2.drop {α β : Type} {R : α → β → Prop} {xs : List α} {ys : List β} (k : Nat) (h : All2 R xs ys) : All2 R (xs.drop k) (ys.drop k) := by
 induction h generalizing k with
 | nil => rw [List.drop_nil, List.drop_nil]; exact .nil
 | cons h r ih =>
   cases k with
   | zero => exact .cons h r
   | succ k => exact ih k
theorem split_at {α : Type} {ts : List α} {i : Nat} {t : α} (h : ts[i]? = some t) : ts = ts.take i ++ t :: ts.drop (i + 1) := by
 have hi := (aC.mp h).1; have e : ts[i] = t := (aC.mp h).2; conv => lhs; rw [← dO i ts, bp hi, e]
theorem lB (a b : List Tr) : jK (a ++ b) = jK a + jK b := by unfold jK; rw [aM, List.sum_append]
theorem ll {ts : List Tr} {i : Nat} {t : Tr} (h : ts[i]? = some t) : jK ts = jK (ts.take i) + t.nodes + jK (ts.drop (i + 1)) := by
 conv => lhs; rw [split_at h]
 rw [lB]; show _ + jK (t :: _) = _
 unfold jK; rw [ag, bx]; exact a72
theorem qP {ts : List Tr} {i : Nat} {t : Tr} (h : ts[i]? = some t) (hp : t.isPlus = true) (hl : ∀ (j : Nat) t, j < i → ts[j]? = some t → t.isPlus = false) : ts.findIdx? Tr.isPlus = some i := by
 rw [List.findIdx?_eq_some_iff_getElem]; have hi := (aC.mp h).1; have e : ts[i] = t := (aC.mp h).2; refine ⟨hi, by rw [e]; exact hp, fun j hj => ?_⟩; have := hl j ts[j] hj (ac (a22 hi hj)); rw [this]; decide
theorem All2.get2 {α β : Type} {R : α → β → Prop} {as : List α} {bs : List β} (x : All2 R as bs) {i : Nat} (h : i < bs.length) (d : α) (e : β) : R (as.getD i d) (bs.getD i e) := by
 have h' : i < as.length := by rw [x.length]; exact h
 refine x12 (x.get (ac h')) fun b hb hr => ?_; rw [ab, ab, ac h', hb]; exact hr
theorem pU {m : Mp} {zs : List Value} {re : List Tr} (h : All2 (fun v t => KT m v t) zs re) : ∀ (is : List Nat), (∀ j ∈ is, j < re.length) → All2 (fun v t => KT m v t) (is.map fun j => zs.getD j dT) (is.map fun j => re.getD j cD)
 | [], _ => .nil
 | j :: is, hi => .cons (h.get2 (hi j (.head _)) _ _) (pU h is fun k hk => hi k (.tail _ hk))
theorem rU (re : List Tr) (ch : Nat) (b : Bool) : (lg re ch b).length ≤ re.length := by
 unfold lg; rw [al]; exact ad (eF _ _) (by simp)
theorem rT {re : List Tr} {ch : Nat} {b : Bool} {t : Tr} (h : t ∈ lg re ch b) : t ∈ re := by
 unfold lg at h; obtain ⟨j, hj, rfl⟩ := mMa h; have hl : j < re.length := az.mp (bl.mp hj).1; rw [ab, ac hl]; exact bG hl
theorem depL_of {ts : List Tr} {d : Nat} (h : ∀ t ∈ ts, t.dep ≤ d) : depL ts ≤ d := by
 induction ts with
 | nil => exact be _
 | cons x r ih =>
   show max x.dep (depL r) ≤ d
   exact Nat.max_le.mpr ⟨h x (.head _), ih fun t ht => h t (.tail _ ht)⟩
theorem lets_mem {rd : List Str} {t : Tr} {x : Str} (hf : t.fits rd.length) (hx : x ∈ t.lets rd) : x ∈ rd := by
 induction t with
 | leaf i =>
   have hi : i < rd.length := hf; have : x = rd.getD i aj := mSg hx; rw [this, ab, ac hi]; exact bG hi
 | node _ l r _ ihl ihr => exact (mAp hx).elim (ihl hf.2.1) (ihr hf.2.2.1)
theorem ro {rd : List Str} {ts : List Tr} (h : ∀ t ∈ ts, t.fits rd.length) {x : Str} (hx : x ∈ letters rd ts) : x ∈ rd := by
 refine x12 (hY.mp hx) fun t ht hx => ?_; exact lets_mem (h t ht) hx
theorem none_left {ls : List Str} {q : Str → Bool} : ((ae ls.length).filter fun j => !(q (ls.getD j aj))).length = 0 ↔ ls.all q = true := by
 rw [dy, dG, aA]; constructor
 · intro h x hx; obtain ⟨j, hj, e⟩ := bn.mp hx; have := h j (az.mpr hj); rw [ab, ac hj, e] at this; simpa using this
 intro h j hj; have hj' := az.mp hj; have := h (ls.getD j aj) (by rw [ab, ac hj']; exact bG hj'); rw [this]; decide
theorem sQ {f : Nat → Tr} {is js : List Nat} (h : is.Sublist js) : jK (is.map f) ≤ jK (js.map f) := by
 induction h with
 | slnil => exact ap _
 | cons a _ ih => unfold jK at *; rw [ag, ag, bx]; exact a71 ih
 | cons_cons a _ ih => unfold jK at *; rw [ag, ag, bx, ag, ag, bx]; exact a70 ih
theorem oI (re : List Tr) (ch : Nat) (b : Bool) : jK (lg re ch b) ≤ jK re := by
 have h := sQ (f := fun j => re.getD j cD) (List.filter_sublist (p := fun j => ch.testBit j == b) (l := ae re.length)); have e : (ae re.length).map (fun j => re.getD j cD) = re := by
   have := jI (l := re) (d := cD) (f := fun x => x) rfl; simpa using this
 rw [e] at h; exact h
noncomputable def tI (n : Nat) (ts : List Tr) : Prop := ∀ t ∈ ts, t.fits n ∧ t.size ≤ 100 ∧ t.dep ≤ 6
theorem small_k {k : Nat} (hk : k ≤ 21) : bO 0 (k : Int) 1 = true := (by decide +kernel : ∀ k : Fin 22, bO 0 (k.val : Int) 1 = true) ⟨k, a58 hk⟩
theorem small_s {k : Nat} (hk : k ≤ 21) : bO 0 ((k + 1 : Nat) : Int) 1 = true := (by decide +kernel : ∀ k : Fin 22, bO 0 ((k.val + 1 : Nat) : Int) 1 = true) ⟨k, a58 hk⟩
theorem small_p {k : Nat} (hk : k ≤ 21) : bO 0 ((2 ^ k : Nat) : Int) 1 = true := (by decide +kernel : ∀ k : Fin 22, bO 0 ((2 ^ k.val : Nat) : Int) 1 = true) ⟨k, a58 hk⟩
theorem ch_t {k i : Nat} (h : i < k + 1) : (jS true k).getD i 0 = 2 ^ i - 1 := by
 show ((ae (k + 1)).map (fun z => 2 ^ z - 1)).getD i 0 = _
 rw [ab, ar, bX h]; rfl
theorem ch_f {k i : Nat} (h : i < 2 ^ k) : (jS false k).getD i 0 = i := by
 show (ae (2 ^ k)).getD i 0 = _
 rw [ab, bX h]; rfl
theorem ch_tl {k : Nat} : (jS true k).length = k + 1 := by simp [jS]
theorem ch_fl {k : Nat} : (jS false k).length = 2 ^ k := by simp [jS]
noncomputable def chOk (rd : List Str) (rg : Bool) (n : Nat) (l r : Tr) (re : List Tr) (ch : Nat) : Bool :=
 oV rd (r :: lg re ch true) && prv rd rg (n - 1) (r :: lg re ch true) && prv rd rg (n - 1) (lg re ch false ++ [l])
noncomputable def inner (rd : List Str) (rg : Bool) (n : Nat) (ts : List Tr) (k : Nat) : Bool := match ts.getD k cD with
 | .leaf _ => false
 | .node _ l r _ => (jS rg (ts.length - 1)).any (chOk rd rg n l r (ts.drop (k + 1) ++ ts.take k))
theorem sY {rd : List Str} {rg : Bool} {n i q : Nat} {ts : List Tr} (h : ts[i]? = some (.leaf q)) : inner rd rg n ts i = false := by unfold inner; rw [qd h]
theorem sX {rd : List Str} {rg : Bool} {n i mid : Nat} {sg : Str} {l r : Tr} {ts re : List Tr} (h : ts[i]? = some (.node sg l r mid)) (hRe : ts.drop (i + 1) ++ ts.take i = re) (hrl : re.length = ts.length - 1) : inner rd rg n ts i = (jS rg re.length).any (chOk rd rg n l r re) := by
 unfold inner; rw [qd h, ← hrl, hRe]
theorem find_none {ts : List Tr} {k : Nat} (hk : k = ts.length) (hpl : ∀ j t, j < k → ts[j]? = some t → t.isPlus = false) : ts.findIdx? Tr.isPlus = none := by
 rw [iX]; intro t ht; obtain ⟨j, hj, e⟩ := bn.mp ht; exact hpl j t (hk ▸ hj) (by rw [ac hj, e])
theorem prv_none {rd : List Str} {rg : Bool} {n : Nat} {ts : List Tr} (h : ts.findIdx? Tr.isPlus = none) : lG rd rg (prv rd rg (n - 1)) ts = ((ae ts.length).any (inner rd rg n ts) || nQ rd ts) := by
 unfold lG; rw [h]; rfl
theorem prv_some {rd : List Str} {rg : Bool} {n i mid : Nat} {sg : Str} {l r : Tr} {ts : List Tr} (hti : ts[i]? = some (.node sg l r mid)) (hb : (Tr.node sg l r mid).isPlus = true) (hpl : ∀ (j : Nat) t, j < i → ts[j]? = some t → t.isPlus = false) : lG rd rg (prv rd rg (n - 1)) ts = prv rd rg (n - 1) (ts.take i ++ [l, r] ++ ts.drop (i + 1)) := by
 unfold lG; rw [qP hti hb hpl]; simp only [qd (d := cD) hti]; rfl
theorem up_to {P : Nat → Prop} {i : Nat} (h : ∀ j, j < i → P j) (hi : P i) : ∀ j, j < i + 1 → P j := by
 intro j hj; rcases ja.mp hj with hj | rfl
 · exact h j hj
 exact hi
theorem p8 {n mid : Nat} {sg : Str} {l r : Tr} {ts : List Tr} (hok : tI n ts) (h : .node sg l r mid ∈ ts) : (l.fits n ∧ l.size ≤ 100 ∧ l.dep ≤ 6) ∧ (r.fits n ∧ r.size ≤ 100 ∧ r.dep ≤ 6) := by
 obtain ⟨⟨hf1, hf2, hf3, hf4⟩, hs2, hd2⟩ := hok _ h; have hs3 : l.size + r.size + 1 ≤ 100 := hs2; have hd3 : max l.dep r.dep + 1 ≤ 6 := hd2; have hd4 := cX l.dep r.dep; have hd5 := cL l.dep r.dep; exact ⟨⟨hf2, by exact a46 hs3, by exact a45 hd3⟩, hf3, by exact a48 hs3, by exact a47 hd3⟩
theorem tsok_open {n i mid : Nat} {sg : Str} {l r : Tr} {ts : List Tr} (hok : tI n ts) (h : .node sg l r mid ∈ ts) : tI n (ts.take i ++ [l, r] ++ ts.drop (i + 1)) := by
 intro t ht; rcases mAp ht with ht | ht
 · rcases mAp ht with ht | ht
   · exact hok t (eP ht)
   exact al2 (P := fun t => t.fits n ∧ t.size ≤ 100 ∧ t.dep ≤ 6) (p8 hok h).1 (al1 (p8 hok h).2) t ht
 exact hok t (dX ht)
theorem rest_ok {n i : Nat} {ts re : List Tr} (hok : tI n ts) (hRe : ts.drop (i + 1) ++ ts.take i = re) : tI n re := by
 subst hRe; exact fun t ht => (mAp ht).elim (fun ht => hok t (dX ht)) fun ht => hok t (eP ht)
theorem tsok_t {n ch mid : Nat} {sg : Str} {l r : Tr} {ts re : List Tr} (hok : tI n ts) (h : .node sg l r mid ∈ ts) (hr : tI n re) : tI n (r :: lg re ch true) := fun t ht =>
 al2 (P := fun t => t.fits n ∧ t.size ≤ 100 ∧ t.dep ≤ 6) (p8 hok h).2 (fun t ht => hr t (rT ht)) t ht
theorem tsok_f {n ch mid : Nat} {sg : Str} {l r : Tr} {ts re : List Tr} (hok : tI n ts) (h : .node sg l r mid ∈ ts) (hr : tI n re) : tI n (lg re ch false ++ [l]) := fun t ht =>
 (mAp ht).elim (fun ht => hr t (rT ht)) fun ht => al1 (P := fun t => t.fits n ∧ t.size ≤ 100 ∧ t.dep ≤ 6) (p8 hok h).1 t ht
theorem pick_vt {m : Mp} {zs xs : List Value} {re : List Tr} {ch : Nat} (hzs : All2 (fun v t => KT m v t) zs re) (hxe : xs = ((ae re.length).filter fun j => ch.testBit j).map fun j => zs.getD j .none) : All2 (fun v t => KT m v t) xs (lg re ch true) := by
 rw [hxe]; have e : lg re ch true = ((ae re.length).filter fun j => ch.testBit j).map fun j => re.getD j cD := by
   unfold lg; congr 1
   refine fD fun j _ => ?_; cases ch.testBit j <;> rfl
 rw [e]; exact pU hzs _ fun j hj => az.mp (bl.mp hj).1
theorem pick_vf {m : Mp} {zs xs : List Value} {re : List Tr} {ch : Nat} (hzs : All2 (fun v t => KT m v t) zs re) (hxe : xs = ((ae re.length).filter fun j => !ch.testBit j).map fun j => zs.getD j .none) : All2 (fun v t => KT m v t) xs (lg re ch false) := by
 rw [hxe]; have e : lg re ch false = ((ae re.length).filter fun j => !ch.testBit j).map fun j => re.getD j cD := by
   unfold lg; congr 1
   refine fD fun j _ => ?_; cases ch.testBit j <;> rfl
 rw [e]; exact pU hzs _ fun j hj => az.mp (bl.mp hj).1
theorem two_of {α : Type} {ts : List α} {x y : α} (h : ts.length = 2) (h0 : ts[0]? = some x) (h1 : ts[1]? = some y) : ts = [x, y] := by
 rcases ts with _ | ⟨a, _ | ⟨b, _ | ⟨c, r⟩⟩⟩
 · cases h
 · cases h
 · cases h0; cases h1; rfl
 simp at h
theorem baseL_ne {rd : List Str} {ts : List Tr} (h : ts.length ≠ 2) : nQ rd ts = false := by
 rcases ts with _ | ⟨a, _ | ⟨b, _ | ⟨c, r⟩⟩⟩
 · rfl
 · cases a <;> rfl
 · exact absurd rfl h
 cases a <;> cases b <;> rfl
theorem rK {rd : List Str} {sg : Str} {l r t : Tr} {mid : Nat} : nQ rd [.node sg l r mid, t] = false := by cases t <;> rfl
theorem rJ {rd : List Str} {sg : Str} {l r t : Tr} {mid : Nat} : nQ rd [t, .node sg l r mid] = false := by cases t <;> rfl
theorem open_le {n i mid : Nat} {sg : Str} {l r : Tr} {ts : List Tr} (hti : ts[i]? = some (.node sg l r mid)) (hnd : jK ts ≤ n) : jK (ts.take i ++ [l, r] ++ ts.drop (i + 1)) ≤ n - 1 := by
 have hns := ll hti; have hno : (Tr.node sg l r mid).nodes = l.nodes + r.nodes + 1 := rfl; rw [lB, lB]; have : jK [l, r] = l.nodes + r.nodes := by simp [jK]
 exact a67 hnd hns hno this
theorem part_t {n i mid ch : Nat} {sg : Str} {l r : Tr} {ts re : List Tr} (hti : ts[i]? = some (.node sg l r mid)) (hnd : jK ts ≤ n) (hRe : ts.drop (i + 1) ++ ts.take i = re) : jK (r :: lg re ch true) ≤ n - 1 ∧ jK (lg re ch false ++ [l]) ≤ n - 1 := by
 have hns := ll hti; have hno : (Tr.node sg l r mid).nodes = l.nodes + r.nodes + 1 := rfl; have hnre : jK re = jK (ts.drop (i + 1)) + jK (ts.take i) := by rw [← hRe, lB]
 have hn1 := oI re ch true; have hn2 := oI re ch false; constructor
 · have e : jK (r :: lg re ch true) = r.nodes + jK (lg re ch true) := by unfold jK; rw [ag, bx]
   rw [e]; exact a39 hnd hns hno hnre hn1
 rw [lB]; have : jK [l] = l.nodes := by simp [jK]
 exact a38 hnd hns hno hnre hn2 this
theorem rZ {n i mid : Nat} {sg : Str} {l r : Tr} {ts : List Tr} (hti : ts[i]? = some (.node sg l r mid)) (hnd : jK ts ≤ n) : 1 ≤ n := by
 have hns := ll hti; have hno : (Tr.node sg l r mid).nodes = l.nodes + r.nodes + 1 := rfl; exact a37 hnd hns hno
theorem any_none {α : Type} {l : List α} {f : α → Bool} {d : α} (h : ∀ j, j < l.length → f (l.getD j d) = false) : l.any f = false := by
 rw [gW]; intro x hx; obtain ⟨q, hq, e⟩ := bn.mp hx; have := h q hq; rw [ab, ac hq, e] at this; simpa using this
theorem sz {rd : List Str} (hrd : rd.length ≤ 1000) (hsw : ∀ x ∈ rd, bw (aI x).length = false) {rv : Addr} (rg : Bool) : ∀ (n : Nat) (ts : List Tr) {A : au} {m : Mp} {s : Shared} {a : Addr} {Q E : VP}, jK ts ≤ n → n ≤ 20 → tI rd.length ts → ts.length + n ≤ 20 → Rm A (n + 10) (4 * n + 50) → Bef w m s → KTs m a ts → Kn m (LS rv rd) →
   (∀ m' s', Aft [] m s m' s' → Q (.bool (prv rd rg n ts)) s') →
   wpAny (model PG w) A (call (.ref 317) [.ref a, .ref rv, .bool rg]) Q E s := by
 intro n; induction n using iF with
 | ind n ih =>
   intro ts A m s a Q E hnd hn20 hok hlen hR b hk hrv h; rw [prv_eq hnd] at h
   refine oR (d := n + 9) (u := 4 * n + 47) (nw := []) (ns := ["items", "read", "ringed", "k", "item", "behind", "ahead"]) (cn := ["rest", "choice", "letters"])
     (ρ₀ := fun L => [⟨"items", none, some (.ref a)⟩, ⟨"read", none, some (.ref rv)⟩, ⟨"ringed", none, some (.bool rg)⟩, ⟨"k", none, none⟩, ⟨"item", none, none⟩, ⟨"behind", none, none⟩, ⟨"ahead", none, none⟩, ⟨"rest", some (L + 1), none⟩, ⟨"choice", some (L + 1 + 1), none⟩, ⟨"letters", some (L + 1 + 1 + 1), none⟩]) (own₀ := fun L => [L, L + 1, L + 1 + 1, L + 1 + 1 + 1]) hR b .nil rfl rfl rfl rfl rfl rfl rfl rfl rfl rfl (by rfl) (by decide +kernel) (by decide +kernel) (by decide +kernel) (fun L => rfl) (fun L => rfl) (fun L => rfl) ?_
   intro A env L c s' hE hR' hc B hL; walk_at "opq"; walk_at "sts"; refine x12 hk fun vs hko hvs => ?_; have hvl := hvs.length; apply kN B hR'.handled hko; intro I s B T; refine lK B T ["k", "item"] (fun i m' ρ => ∀ j t, j < i → ts[j]? = some t → t.isPlus = false) (fun j t hj => absurd hj (fU _)) ?_ ?_
   · clear B T; intro i v c1 γ1 m1 ρ s hi how hpl hm1 hv B hback Qb hN hB hQ; apply r330l hv; intro T tp x hx hT; refine x12 (hvs.get hx) fun t hti hkt => ?_; refine kE B hR'.handled hT rfl rfl ?_; clear B; intro s B; refine ak (af ?_); walk_at "st"; refine ak (af ?_); walk_at "st"; refine aL ?_; walk_at "sts"; have hil : i < ts.length := by rw [← hvl]; exact hi
     cases t with
     | leaf q =>
       obtain ⟨tq, rfl⟩ := hkt; refine kt ?_; walk_at "sts"; refine j6 rfl ?_; walk_at "sts"; refine j6 rfl ?_; walk_at "sts"; walk_at "qs"; exact hN _ m1 _ _ (by walk_at "ow") (fun j t hj => up_to (P := fun j => ts[j]? = some t → t.isPlus = false) (fun j hj => hpl j t hj) (fun ht => by rw [hti] at ht; cases ht; rfl) j hj) .rfl B
     | node sg l r mid =>
       obtain ⟨a2, vl, vr, ts2, tm2, rfl, hko2, hkl, hkr⟩ := hkt; have htm := av hti; refine j9 B (B.ato (jQ hm1 hko2)) ?_; clear B; intro s B; walk_at "sts"; refine lb rfl ?_; walk_at "sts"; refine j0 (B.ato (jQ hm1 hko2)) (by decide) (by decide) rfl ?_; walk_at "sts"; refine ky (fun hb => ?_) (fun hb => ?_)
       · walk_at "sts"; refine lb rfl ?_; walk_at "sts"; have hsz : vs.length ≤ aS := szl (a32 hlen hvl); refine kC B (B.ato (jQ hm1 hko)) .none (.int _ _) ?_ hsz; clear B; intro x1 m2 s hm2 hk2 B; rw [fx] at hk2; walk_at "sts"; have hko3 := jQ (hm1.trans hm2) hko2; refine kC B (B.ato hko3) (.int _ _) (.int _ _) ?_ (by show 4 ≤ aS; decide); clear B; intro x2 m3 s hm3 hk3 B
         rw [show (iQ #[dZ sg ts2, vl, vr, cF (mid : Nat) tm2] (some 1) (some 3) none).toList = [vl, vr] from rfl] at hk3
         refine my B (B.kn (hk2.up hm3)) (B.kn hk3) (by rw [aD]; simp; exact a69 hlen hvl) ?_; clear B; intro x3 m4 s hm4 hk4 B; walk_at "sts"; refine kC B (B.ato (jQ (((hm1.trans hm2).trans hm3).trans hm4) hko)) (.int _ _) .none ?_ hsz; clear B; intro x5 m5 s hm5 hk5 B; have hi1 : ((i : Int) + 1) = ((i + 1 : Nat) : Int) := a62
         rw [hi1, fy] at hk5; refine my B (B.kn (hk4.up hm5)) (B.kn hk5) (by rw [aD]; simp; exact a68 hlen hvl) ?_; clear B; intro x6 m6 s hm6 hk6 B; walk_at "sts"; have hmm : m.le m6 := ((((hm1.trans hm2).trans hm3).trans hm4).trans hm5).trans hm6; have hn1' := rZ hti hnd; refine ih (n - 1) (a36 hn1') (ts.take i ++ [l, r] ++ ts.drop (i + 1)) (open_le hti hnd) (a35 hn20) (tsok_open hok htm) ?_ (hR'.less (a34 hn1') (a33 hn1')) B.bef ⟨_, B.ko hk6, ?_⟩ (hrv.up hmm) ?_
         · have hns := ll hti; have hno : (Tr.node sg l r mid).nodes = l.nodes + r.nodes + 1 := rfl; simp; exact a63 hnd hlen hvl hi hns hno
         · simp only [gA]; exact (((hvs.take i).imp fun _ _ k => k.up hmm).append (.cons (hkl.up hmm) (.cons (hkr.up hmm) .nil))).append ((hvs.drop (i + 1)).imp fun _ _ k => k.up hmm)
         intro m7 s7 f7; replace B := B.aft f7; have := h _ _ ((hback.go B).done hc .nil jC); rw [prv_some hti hb hpl] at this; walk_at "qs"; refine hQ _ _ ?_; walk_at "qs"; exact this
       walk_at "sts"; refine j6 rfl ?_; walk_at "sts"; walk_at "qs"; exact hN _ m1 _ _ (by walk_at "ow") (fun j t hj => up_to (P := fun j => ts[j]? = some t → t.isPlus = false) (fun j hj => hpl j t hj) (fun ht => by rw [hti] at ht; cases ht; exact hb) j hj) .rfl B
   clear B T; intro γ1 m1 ρ s how hpl hm1 B; rw [prv_none (find_none hvl hpl)] at h; walk_at "sts"; apply kN B hR'.handled (jQ hm1 hko); intro I s B T; refine lK B T ["k", "item", "behind", "ahead", "rest", "choice", "letters"] (fun i m' ρ => ∀ j, j < i → inner rd rg n ts j = false) (fun j hj => absurd hj (fU _)) ?_ ?_
   · clear B T; intro i v c1 γ1 m2 ρ s hi how hfa hm2 hv B hback Qb hN hB hQ; apply r330l hv; intro T tp x hx hT; refine x12 (hvs.get hx) fun t hti hkt => ?_; have hmm := hm1.trans hm2; have hil : i < ts.length := by rw [← hvl]; exact hi
     refine kE B hR'.handled hT rfl rfl ?_; clear B; intro s B; refine ak (af ?_); walk_at "st"; refine ak (af ?_); walk_at "st"; refine aL ?_; walk_at "sts"; cases t with
     | leaf q =>
       obtain ⟨tq, rfl⟩ := hkt; refine kt ?_; walk_at "sts"; refine j6 rfl ?_; walk_at "sts"; walk_at "qs"; exact hN _ m2 _ _ (by walk_at "ow") (up_to hfa (sY hti)) .rfl B
     | node sg l r mid =>
       obtain ⟨a2, vl, vrr, ts2, tm2, rfl, hko2, hkl, hkr⟩ := hkt; have htm := av hti; refine j9 B (B.ato (jQ hmm hko2)) ?_; clear B; intro s B; walk_at "sts"; refine lb rfl ?_; walk_at "sts"; have hsz : vs.length ≤ aS := szl (a32 hlen hvl); refine kC B (B.ato (jQ hmm hko)) (.int _ _) .none ?_ hsz; clear B; intro x1 m3 s hm3 hk3 B; have hi1 : ((i : Int) + 1) = ((i + 1 : Nat) : Int) := a62
       rw [hi1, fy] at hk3; walk_at "sts"; refine kC B (B.ato (jQ (hmm.trans hm3) hko)) .none (.int _ _) ?_ hsz; clear B; intro x2 m4 s hm4 hk4 B; rw [fx] at hk4; refine my B (B.kn (hk3.up hm4)) (B.kn hk4) (by rw [aD]; simp; exact a61 hlen hvl) ?_; clear B; intro x3 m5 s hm5 hk5 B; have hm05 : m.le m5 := ((hmm.trans hm3).trans hm4).trans hm5; have hrest : KTs m5 x3 (ts.drop (i + 1) ++ ts.take i) := ⟨_, B.ko hk5, by simp only [gA]; exact ((hvs.drop (i + 1)).imp fun _ _ k => k.up hm05).append ((hvs.take i).imp fun _ _ k => k.up hm05)⟩; generalize hRe : ts.drop (i + 1) ++ ts.take i = re at hrest; have hrl : re.length = ts.length - 1 := by rw [← hRe]; simp; exact a60 hvl hi
       clear hk3 hk4 hk5; have hrl2 : re.length ≤ 20 := a59 hlen hrl
       walk_at "st"; walk_at "st"; walk_at "st"; walk_at "st"; refine x12 hrest fun zs hzo hzs => ?_; have hzl := hzs.length
       refine am (Q := fun x s' => wpAny (model PG w) A (cC x) (fun it s'' => ∃ I2 m6 γ6, it = .ref I2 ∧ m5.le m6 ∧ Bd w c1 γ6 m6 env own ρ [] s'' ∧
           ∀ xn p, Src w A (.Name xn p) c1 m6 own [] I2 (jS rg re.length).length (fun i v _ => ∃ t, v = .int (((jS rg re.length).getD i 0 : Nat) : Int) t) s'') NoE s') ?_ (fun x s' hq => noE (am hq (fun it s'' hh => ?_) fun _ _ x => x)) (fun _ _ x => x)
       · cases rg with
         | true =>
           walk_at "sts"; refine lb rfl ?_; refine jH B [] (by walk_at "cs") rfl rfl rfl ?_; walk_at "sts"; refine p7 B (B.ato hzo) (szl (a53 hrl2 hzl)) ?_; clear B; intro t1 s B; walk_at "sts"; rw [show ((zs.length : Int) + 1) = ((re.length + 1 : Nat) : Int) from by exact a57 hzl]
           apply kA B hR'.handled (small_s (a52 hrl2)); intro I s B T; refine ln B T [] ["size"] (fun i v _ => ∃ t, v = .int ((2 ^ i - 1 : Nat) : Int) t) ⟨rfl, rfl, rfl, by walk_at "cs", rfl, rfl⟩ (szl (a56 hrl2)) ?_ ?_
           · intro j v c2 cenv L2 γ2 m6 own ρ nw2 s hj hE hm6 hv hC hM B Qx hK; apply r110l hv; intro tj; refine af ?_; walk_at "st"; walk_at "sts"; have h1p : 1 ≤ 2 ^ j := Nat.one_le_two_pow; have e : ((2 : Int) ^ (j : Int).toNat - 1) = ((2 ^ j - 1 : Nat) : Int) := by rw [bf, Int.natCast_sub h1p]; simp
             walk_at "qs"; exact hK.go (by walk_at "tn") B .rfl (fun _ _ => ⟨tk, congrArg (fun z => cF z tk) e⟩)
           intro γ2 m6 xs x7 s hm6 hk6 hxs B; have hi2 := B.ints hxs; have hxl' : xs.length = re.length + 1 := (jM hi2).trans (by simp); refine src_listA B hR'.handled (B.ko hk6) fun I2 s' B' T => ⟨I2, m6, _, rfl, hm6, B', fun xn p => ?_⟩; rw [show (jS true re.length).length = xs.length from ch_tl.trans hxl'.symm]
           refine (T _).mono fun i v hp hi3 hv => ?_; obtain ⟨nj, tj, hnj, rfl⟩ := kD hi2 hv; walk_at "qs"; refine ⟨tj, ?_⟩; have hil2 : i < re.length + 1 := by
             have := (aC.mp hnj).1; simpa using this
           have e3 : nj = ((2 ^ i - 1 : Nat) : Int) := by
             rw [ar, bX hil2] at hnj; walk_at "qs"; exact (cK hnj).symm
           rw [ch_t hil2, e3]
         | false =>
           walk_at "sts"; refine j6 rfl ?_; walk_at "sts"; refine p7 B (B.ato hzo) (szl (a53 hrl2 hzl)) ?_; clear B; intro t1 s B; walk_at "sts"; have e : ((2 : Int) ^ (zs.length : Int).toNat) = ((2 ^ re.length : Nat) : Int) := by rw [bf, hzl]; simp
           rw [e]; refine n_range B ?_; clear B; intro x7 m6 s hm6 hk6 B; refine sM B hR'.handled (B.kn hk6) (small_p (a52 hrl2)) fun I2 s' B' T => ⟨I2, m6, _, rfl, hm6, B', fun xn p => ?_⟩; rw [ch_fl]; refine (T xn p).mono fun i v hp hi2 hv => ?_; apply r110l hv; intro t; walk_at "qs"; refine ⟨t, ?_⟩; rw [ch_f hi2]
       clear B; apply r340l hh; intro I2 m6 γ6 hm6 B T; have hm06 := hm05.trans hm6; have hchl : re.length + 1 ≤ 21 := a55 hrl2
       have hin := sX (rd := rd) (rg := rg) (n := n) hti hRe hrl; refine c9 (lK B (T _ _) ["behind", "ahead", "choice", "letters"] (fun q m' ρ => ∀ j, j < q → chOk rd rg n l r re ((jS rg re.length).getD j 0) = false) (fun j hj => absurd hj (fU _)) ?_ ?_) (fun r s h => h)
       · clear B T; intro q v c2 γ7 m7 ρ s hq how2 hfq hm7 hv B hback2 Qb2 hN2 hB2 hQ2; apply r110l hv; intro tq; generalize hch : (jS rg re.length).getD q 0 = ch at *
         refine af ?_; walk_at "st"; walk_at "sts"; refine j0 (B.ato (jQ (hm06.trans hm7) hko2)) (by decide) (by decide) rfl ?_; walk_at "sts"; have hm07 := hm06.trans hm7; have hm57 := hm6.trans hm7; refine n_list B (by show 1 ≤ aS; decide) ?_; clear B; intro x8 m8 s hm8 hk8 B
         refine jH B [⟨"rest", some (L + 1), some (.ref x3)⟩, ⟨"choice", some (L + 1 + 1), some (.int (ch : Nat) tq)⟩] (by walk_at "cs") rfl rfl rfl ?_; walk_at "sts"; refine p7 B (B.ato (jQ (hm57.trans hm8) hzo)) (szl (a53 hrl2 hzl)) ?_; clear B; intro t1 s B; walk_at "sts"; rw [hzl]; apply kA B hR'.handled (small_k (a52 hrl2)); intro I3 s B T; refine mZ B T [⟨"rest", some (L + 1), some (.ref x3)⟩, ⟨"choice", some (L + 1 + 1), some (.int (ch : Nat) tq)⟩] ["j"] (fun j => ch.testBit j) (fun j v _ => v = zs.getD j .none) ⟨rfl, rfl, rfl, by walk_at "cs", rfl, rfl⟩ (szl (a51 hrl2)) ?_ ?_
         · intro j v c3 cenv L3 γ8 m9 own ρ nw3 s hj hE hm9 hv hC hM B Qt hK; apply r110l hv; intro tj; refine af ?_; walk_at "st"; walk_at "sts"; refine hK.go (nY ch j) (by walk_at "tn") B .rfl fun hb Qx hK => ?_; walk_at "sts"; refine j0 (B.ato (jQ ((hm57.trans hm8).trans hm9) hzo)) (a12) (a50 hrl2 hj) (mz (d := dT) (a10 hzl hj)) ?_; exact hK.go (by walk_at "tn") B .rfl (fun _ _ => rfl)
         intro γ8 m9 xs x9 s hm9 hk9 hxs B; have hxe := B.vals hxs; have hxp := pick_vt hzs hxe; have hxl := hxp.length; have hpl1 := rU re ch true; walk_at "sts"; refine my B (B.kn (hk8.up hm9)) (B.kn hk9) (by rw [aD]; simp; exact a54 hrl2 hxl hpl1) ?_; clear B; intro bh m10 s hm10 hk10 B; have hm510 := ((hm57.trans hm8).trans hm9).trans hm10; have hm010 := hm05.trans hm510; have hbe : KTs m10 bh (r :: lg re ch true) := ⟨_, B.ko hk10, .cons (hkr.up hm010) (hxp.imp fun _ _ k => k.up hm510)⟩; clear hxs hk10 hk9; walk_at "st"; walk_at "st"; walk_at "st"; walk_at "st"; walk_at "st"; refine jH B [⟨"rest", some (L + 1), some (.ref x3)⟩, ⟨"choice", some (L + 1 + 1), some (.int (ch : Nat) tq)⟩] (by walk_at "cs") rfl rfl rfl ?_; walk_at "sts"; refine p7 B (B.ato (jQ hm510 hzo)) (szl (a53 hrl2 hzl)) ?_; clear B; intro t1 s B; walk_at "sts"; rw [hzl]; apply kA B hR'.handled (small_k (a52 hrl2)); intro I3 s B T; refine mZ B T [⟨"rest", some (L + 1), some (.ref x3)⟩, ⟨"choice", some (L + 1 + 1), some (.int (ch : Nat) tq)⟩] ["j"] (fun j => !ch.testBit j) (fun j v _ => v = zs.getD j .none) ⟨rfl, rfl, rfl, by walk_at "cs", rfl, rfl⟩ (szl (a51 hrl2)) ?_ ?_
         · intro j v c3 cenv L3 γ9 m11 own ρ nw3 s hj hE hm11 hv hC hM B Qt hK; apply r110l hv; intro tj; refine af ?_; walk_at "st"; walk_at "sts"; refine hK.go (by rw [nY]) (by walk_at "tn") B .rfl fun hb Qx hK => ?_; walk_at "sts"; refine j0 (B.ato (jQ (hm510.trans hm11) hzo)) (a12) (a50 hrl2 hj) (mz (d := dT) (a10 hzl hj)) ?_; exact hK.go (by walk_at "tn") B .rfl (fun _ _ => rfl)
         intro γ9 m11 ys x11 s hm11 hk11 hys B; have hye := B.vals hys; have hyp := pick_vf hzs hye; have hyl := hyp.length; have hpl2 := rU re ch false; walk_at "sts"; refine j0 (B.ato (jQ (hm010.trans hm11) hko2)) (by decide) (by decide) rfl ?_; walk_at "sts"; refine n_list B (by show 1 ≤ aS; decide) ?_; clear B; intro x12 m12 s hm12 hk12 B
         refine my B (B.kn (hk11.up hm12)) (B.kn hk12) (by rw [aD]; simp; exact a49 hrl2 hyl hpl2) ?_; clear B; intro ah m13 s hm13 hk13 B; have hm1013 := (hm11.trans hm12).trans hm13; have hm013 := hm010.trans hm1013; have hah : KTs m13 ah (lg re ch false ++ [l]) := ⟨_, B.ko hk13, (hyp.imp fun _ _ k => k.up (hm510.trans hm1013)).append (.cons (hkl.up hm013) .nil)⟩; clear hys hk13 hk12 hk11; have hbe2 := hbe.up hm1013; have hre := rest_ok hok hRe; have hokb := tsok_t (ch := ch) hok htm hre; have hoka := tsok_f (ch := ch) hok htm hre; walk_at "sts"; refine c_letters hrd 6 (r :: lg re ch true) (depL_of fun t ht => (hokb t ht).2.2) (fun t ht => ⟨(hokb t ht).1, (hokb t ht).2.1⟩) (by simp; exact a44 hrl2 hpl1) (hR'.less (a43) (a42)) B.bef hbe2 (hrv.up hm013) ?_; intro lt m14 s14 f14 hk14; replace B := B.aft f14; walk_at "sts"; obtain ⟨us, huo, hus⟩ := B.koS hk14; have hul := jE hus; have hll := mx rd (r :: lg re ch true) (fun t ht => (hokb t ht).2.1); have hmem : ∀ x ∈ letters rd (r :: lg re ch true), bw (aI x).length = false := fun x hx => hsw x (ro (fun t ht => (hokb t ht).1) hx); have hgood : oV rd (r :: lg re ch true) = (letters rd (r :: lg re ch true)).all fun x => (letters rd (r :: lg re ch true)).any fun y => y == aI x := rfl; generalize hLs : letters rd (r :: lg re ch true) = ls at *
         refine jH B [⟨"letters", some (L + 1 + 1 + 1), some (.ref lt)⟩] (by walk_at "cs") rfl rfl rfl ?_; walk_at "sts"; apply jJ B hR'.handled huo; intro I5 s B T; refine mZ B T [⟨"letters", some (L + 1 + 1 + 1), some (.ref lt)⟩] ["one"] (fun j => !(ls.any fun y => y == aI (ls.getD j aj))) (fun j v _ => True) ⟨rfl, rfl, rfl, by walk_at "cs", rfl, rfl⟩ (by rw [aD]; simp at hll; exact a41 hrl2 hpl1 hul hll) ?_ ?_
         · intro j v c3 cenv L3 γ9 m15 own ρ nw3 s hj hE hm15 hv hC hM B Qt hK; obtain ⟨xj, tj, hxj, rfl⟩ := j3 hus hv; have hgj := qd (d := aj) hxj; refine af ?_; walk_at "st"; walk_at "sts"; refine iD (hmem xj (av hxj)) ?_; replace B := B.tk s.drawn (s.toks + 1); walk_at "sts"; refine notin_list_strs (B.ato (jQ hm15 huo)).list hus ?_; walk_at "sts"; refine hK.go (by simp only [hgj]) (by walk_at "tn") B .rfl fun hb Qx hK => ?_; walk_at "sts"; exact hK.go (by walk_at "tn") B .rfl (fun _ _ => trivial)
         intro γ9 m15 ys x15 s hm15 hk15 hys B; have hyl2 := hys.length; rw [hul] at hyl2; have hnl := none_left (ls := ls) (q := fun x => ls.any fun y => y == aI x); rw [← hyl2] at hnl; walk_at "sts"; refine n_list B (by show 0 ≤ aS; decide) ?_; clear B; intro x16 m16 s hm16 hk16 B
         have hun : A.units < cLine := by have := hR'.units; exact a40 this
         refine am (Q := fun v s' => v = .bool (oV rd (r :: lg re ch true)) ∧ s' = s) ?_ ?_ (fun _ _ x => x)
         · rw [hgood]; by_cases hy0 : ys.length = 0
           · rw [hnl.mp hy0]; refine SeqAt.eq_listAt (e := fun _ => true) (B.kn (hk15.up hm16)).list (B.kn hk16).list (by simpa using hy0) hun (fun j h1 h2 => absurd h2 (by simp)) ⟨?_, rfl⟩; simp
           have hf : ¬ (ls.all fun x => ls.any fun y => y == aI x) = true := fun e => hy0 (hnl.mpr e); rw [Bool.eq_false_iff.mpr hf]; walk_at "qs"; exact i3 (B.kn (hk15.up hm16)).list (B.kn hk16).list (by simpa using hy0) hun ⟨rfl, rfl⟩
         rintro _ _ ⟨rfl, rfl⟩; walk_at "sts"; have hnb := part_t (ch := ch) hti hnd hRe; have hn1' := rZ hti hnd; have hm1316 : m13.le m16 := f14.le.trans (hm15.trans hm16); have hm716 : m7.le m16 := ((((hm8.trans hm9).trans hm10).trans hm1013).trans hm1316); have nofit : chOk rd rg n l r re ch = false → ∀ j, j < q + 1 → chOk rd rg n l r re ((jS rg re.length).getD j 0) = false := fun hf => up_to hfq (hch ▸ hf); refine ky (fun hg => ?_) (fun hg => ?_)
         · walk_at "sts"; refine ih (n - 1) (a36 hn1') (r :: lg re ch true) hnb.1 (a35 hn20) hokb (by simp; (first | lia | omega)) (hR'.less (a34 hn1') (a33 hn1')) B.bef (hbe2.up hm1316) (hrv.up (hm013.trans hm1316)) ?_
           intro m17 s17 f17; replace B := B.aft f17; walk_at "sts"; refine ky (fun hg2 => ?_) (fun hg2 => ?_)
           · walk_at "sts"; refine ih (n - 1) (a36 hn1') (lg re ch false ++ [l]) hnb.2 (a35 hn20) hoka (by simp; (first | lia | omega)) (hR'.less (a34 hn1') (a33 hn1')) B.bef (hah.up (hm1316.trans f17.le)) (hrv.up ((hm013.trans hm1316).trans f17.le)) ?_
             intro m18 s18 f18; replace B := B.aft f18; walk_at "sts"; refine ky (fun hg3 => ?_) (fun hg3 => ?_)
             · walk_at "sts"; refine lb rfl ?_; walk_at "sts"; have hin1 : inner rd rg n ts i = true := by
                 rw [hin, c5]; walk_at "qs"; refine ⟨ch, ?_, by unfold chOk; rw [hg, hg2, hg3]; rfl⟩; rw [← hch, ab, ac hq]; walk_at "qs"; exact bG hq
               have hany : (ae ts.length).any (inner rd rg n ts) = true := c5.mpr ⟨i, az.mpr hil, hin1⟩; have hfin := h _ _ ((hback.go (hback2.go B)).done hc .nil jC); rw [hany, Bool.true_or] at hfin; walk_at "qs"; refine hQ2 _ _ ?_; walk_at "qs"; refine hQ _ _ ?_; walk_at "qs"; exact hfin
             walk_at "sts"; refine j6 rfl ?_; walk_at "sts"; walk_at "qs"; exact hN2 _ m18 _ _ (by walk_at "ow") (nofit (by unfold chOk; rw [hg, hg2, hg3]; rfl)) ((hm716.trans f17.le).trans f18.le) B
           refine j6 rfl ?_; walk_at "sts"; walk_at "qs"; exact hN2 _ m17 _ _ (by walk_at "ow") (nofit (by unfold chOk; rw [hg, hg2]; rfl)) (hm716.trans f17.le) B
         refine j6 rfl ?_; walk_at "sts"; walk_at "qs"; exact hN2 _ m16 _ _ (by walk_at "ow") (nofit (by unfold chOk; rw [hg]; rfl)) hm716 B
       clear B T; intro γ8 m8 ρ s how2 hfq hm8 B; have hm28 : m2.le m8 := (((hm3.trans hm4).trans hm5).trans hm6).trans hm8; walk_at "sts"; walk_at "qs"; exact hN _ m8 _ _ (by walk_at "ow") (up_to hfa (hin.trans (any_none hfq))) hm28 B
   clear B T; intro γ2 m2 ρ s how hfa hm2 B; have hany : (ae ts.length).any (inner rd rg n ts) = false := by
     rw [gW]; intro j hj; rw [hfa j (by rw [hvl]; exact az.mp hj)]; decide
   rw [hany] at h; simp only [i6] at h; have hmm := hm1.trans hm2; walk_at "sts"; refine p7 B (B.ato (jQ hmm hko)) (szl (a32 hlen hvl)) ?_; clear B; intro t1 s B; walk_at "sts"; refine ky (fun h2 => ?_) (fun h2 => ?_)
   · have h2' : ((vs.length : Int) = 2) := bT h2; have hv2 : vs.length = 2 := a31 h2'
     have e0 : vs[0]? = some vs[0] := ac (a30 h2'); have e1 : vs[1]? = some vs[1] := ac (a29 h2'); refine x12 (hvs.get e0) fun t0 ht0 hk0 => ?_; refine x12 (hvs.get e1) fun t1' ht1 hk1 => ?_; have hts := two_of (hvl.symm.trans hv2) ht0 ht1; generalize hv0 : vs[0] = v0 at e0 hk0; generalize hv1 : vs[1] = v1 at e1 hk1; walk_at "sts"; refine j0 (B.ato (jQ hmm hko)) (by decide) (by decide) e0 ?_; cases t0 with
     | node sg l r mid =>
       rw [hts, rK] at h; obtain ⟨a3, vl3, vr3, ts3, tm3, rfl, hko3, _, _⟩ := hk0; walk_at "sts"; refine j9 B (B.ato (jQ hmm hko3)) ?_; clear B; intro s B; walk_at "sts"; refine j6 rfl ?_; walk_at "qs"; exact h _ _ (B.done hc .nil jC)
     | leaf i0 =>
       obtain ⟨ti0, rfl⟩ := hk0; walk_at "sts"; refine kt ?_; walk_at "sts"; refine lb rfl ?_; walk_at "sts"; refine j0 (B.ato (jQ hmm hko)) (by decide) (by decide) e1 ?_; cases t1' with
       | node sg l r mid =>
         rw [hts, rJ] at h; obtain ⟨a3, vl3, vr3, ts3, tm3, rfl, hko3, _, _⟩ := hk1; walk_at "sts"; refine j9 B (B.ato (jQ hmm hko3)) ?_; clear B; intro s B; walk_at "sts"; refine j6 rfl ?_; walk_at "qs"; exact h _ _ (B.done hc .nil jC)
       | leaf i1 =>
         obtain ⟨ti1, rfl⟩ := hk1; walk_at "sts"; refine kt ?_; walk_at "sts"; refine lb rfl ?_; walk_at "sts"; have hi0 : rd[i0]? = some (rd.getD i0 aj) := mz (hok (.leaf i0) (by rw [hts]; exact .head _)).1; have hi1 : rd[i1]? = some (rd.getD i1 aj) := mz (hok (.leaf i1) (by rw [hts]; exact .tail _ (.head _))).1; have hl0 := (aC.mp hi0).1; have hl1 := (aC.mp hi1).1; refine j0 (B.ato (jQ hmm hko)) (by decide) (by decide) e0 ?_; walk_at "sts"; refine lV (B.kn (hrv.up hmm)) (a12) (a28 hrd hl0) hi0 fun t2 => ?_; walk_at "sts"; refine j0 (B.ato (jQ hmm hko)) (by decide) (by decide) e1 ?_; walk_at "sts"; refine lV (B.kn (hrv.up hmm)) (a12) (a28 hrd hl1) hi1 fun t3 => ?_; walk_at "sts"; refine iD (hsw _ (av hi1)) ?_; replace B := B.tk s.drawn (s.toks + 1); walk_at "sts"; have hb : nQ rd ts = (rd.getD i0 aj == aI (rd.getD i1 aj)) := by rw [hts]; rfl
         rw [hb] at h; walk_at "qs"; exact h _ _ (B.done hc .nil jC)
   have hb : nQ rd ts = false := baseL_ne fun e => by rw [hvl, e] at h2; cases h2
   rw [hb] at h; rw [h2]; walk_at "qs"; exact h _ _ (B.done hc .nil jC)
end
end
section
section
variable {w : World} {c : Cx} {γ : Array aE} {m : Mp} {env : Env} {s : Shared} {A : au} {E : VP} {Q : Flow → Shared → Prop} {L : Addr} {own : List Addr} {ρ : List VE}
theorem eq_empty {l b : Addr} {xs : List Value} {Q : VP} (hu : A.units < cLine) (hl : At l (jB xs) s.heap) (hb : At b (jB []) s.heap) (h : Q (.bool xs.isEmpty) s) : wpAny (model PG w) A (fE .Eq (.ref l) (.ref b)) Q E s := by
 cases xs with
 | nil => exact eq_same hu hl hb rfl (fun A j x y hx => by simp at hx) h
 | cons x r => exact i3 hl.list hb.list (by simp) hu h
theorem flat_is (lks : List (Nat × Nat)) (P : Nat × Nat → Bool) : ((ae lks.length).filter fun j => !P (lks.getD j (0, 0))).isEmpty = lks.all P := by
 rw [bF, dz, dG, aA]; constructor
 · intro h p hp; obtain ⟨j, hj, rfl⟩ := bn.mp hp; have := h j (az.mpr hj); rw [ab, ac hj] at this; simpa using this
 intro h j hj; have hj := az.mp hj; rw [ab, ac hj]; have := h _ (bG hj); simpa using this
noncomputable def jV (rd : List Str) : List Str := (ae rd.length).map fun j => if (rd.take j).any (· == aI (rd.getD j aj)) then aa ")" else aa "("
noncomputable def oA (rd : List Str) : Str := dC (aa "") (jV rd)
noncomputable def nc (rd : List Str) (lks : List (Nat × Nat)) : Bool := lks.all fun p => chk (bk (oA rd) (some ((p.1 : Int) + 1)) (some (p.2 : Int)))
noncomputable def mO (text row : Str) : List Str := [text, row ++ aa "\\", aa "\"" ++ row, bk row (some 1) none, bk row none (some (-1)), aa ")" ++ row ++ aa "(", row ++ aa "\"("]
noncomputable def truth (b : Bool) : Str := if b then aa "True" else aa "False"
theorem rh (rd : List Str) : ∀ x ∈ jV rd, x.length = 1 := by
 intro x hx; obtain ⟨j, _, rfl⟩ := mMa hx; split <;> decide +kernel
theorem row_len {rd : List Str} (hr6 : rd.length = 6) : (oA rd).length = 6 := by
 unfold oA; rw [lX]; have h1 := rh rd; have h2 : (jV rd).length = 6 := by unfold jV; rw [al, dQ]; exact hr6
 generalize jV rd = ys at h1 h2; rw [← h2]; clear h2; induction ys with
 | nil => rfl
 | cons a r ih => rw [ag, bx, h1 a (.head _), ih fun x hx => h1 x (.tail _ hx), ay]; exact dK ..
theorem law_10 (W : LawE A env L) {i o g d : Nat} {ra lk : Addr} {tt : Tok} {tv : Value} {lks : List (Nat × Nat)} {tr : Tr} {net : Bool} {rd : List Str}
   (hrd : Kn m (LS ra rd)) (hr6 : rd.length = 6) (hsw : ∀ x ∈ rd, bw (aI x).length = false) (hkp : KP m lk (lks.map fun p => ((p.1 : Int), (p.2 : Int)))) (hlk : lks.length = 3) (hlb : ∀ p ∈ lks, p.1 < 6 ∧ p.2 < 6) (hkt : KT m tv tr)
   (hnd : jK [tr] ≤ 5) (hok : tI rd.length [tr]) (hxl : (jY o g d (jx i)).length ≤ 1000)
   (hseen : (mO (jY o g d (jx i)) (oA rd)).map chk = [true, true, true, false, false, false, false])
   (hp1 : prv rd false 5 [tr] = net) (hp2 : prv rd true 5 [tr] = (net && nc rd lks))
   (B : Bd w c γ m env own ρ [] s) (r_text : (⟨"text", none, some (.str (jY o g d (jx i)) tt)⟩ : VE) ∈ ρ) (r_read : (⟨"read", some (L + 6), some (.ref ra)⟩ : VE) ∈ ρ) (r_tree : (⟨"tree", none, some (tv)⟩ : VE) ∈ ρ) (r_links : (⟨"links", none, some (.ref lk)⟩ : VE) ∈ ρ) (r_net : (⟨"net", none, some (.bool net)⟩ : VE) ∈ ρ) (r_row : Hn (aa "row") (some (L + 8)) ρ) (o_row : L + 8 ∈ own) (r_flat : Hn (aa "flat") none ρ) (r_seen : Hn (aa "seen") none ρ)
   (h : ∀ ρ γ m' s', m.le m' → Bd w c γ m' env own ρ [] s' → Q (.ret (.bool true)) s') :
   wpAny (model PG w) A (execs (lawBody.drop 18) env) Q E s := by
 conv => arg 3; arg 1; whnf
 have hE := W.kinds; have hR' := W.room; have hu : A.units < cLine := by have := W.room.units; exact a199 this
 walk_at "sts"; refine jH B [⟨"read", some (L + 6), some (.ref ra)⟩] (by walk_at "cs") rfl rfl (by decide +kernel) ?_; walk_at "sts"; refine x12 (B.koS hrd) fun rvs hro hri => ?_; have hrl := jE hri; apply kN B hR'.handled hro; intro I s B T; refine ln B T [⟨"read", some (L + 6), some (.ref ra)⟩] ["place", "letter"] (fun j v _ => ∃ t, v = .str ((jV rd).getD j aj) t) ⟨rfl, rfl, rfl, by walk_at "cs", rfl, rfl⟩ (by rw [aD]; show rvs.length ≤ _; exact a217 hr6 hrl) ?_ ?_
 · intro j v c2 cenv L2 γ2 m6 own ρ nw2 s hj hE hm6 hv hC hM B Qx hK; have hj6 : j < rd.length := by rw [← hrl]; exact hj
   obtain ⟨T, tj, z, rfl, hz, hT⟩ := hv; obtain ⟨y, ty, hy, rfl⟩ := j3 hri (by simpa using hz); have hym := av hy; have hyd : rd.getD j aj = y := by rw [ab, hy]; rfl
   have hpj : (jV rd).getD j aj = if (rd.take j).any (· == aI y) then aa ")" else aa "(" := by
     unfold jV; rw [ab, ar, bX hj6, fK, dW, hyd]
   refine kE B hR'.handled hT rfl rfl ?_; clear B; intro s B; refine ak (af ?_); walk_at "st"; refine ak (af ?_); walk_at "st"; refine aL ?_; walk_at "sts"; refine iD (hsw y hym) ?_; replace B := B.tk s.drawn (s.toks + 1); walk_at "sts"; refine kC B (B.ato (jQ hm6 hro)) .none (.int _ _) ?_ (by rw [hrl]; exact szl (a242 hr6)); clear B; intro sl m7 s hm7 hk7 B; rw [fx] at hk7; have hst := qw j hri; walk_at "sts"; refine in_list_strs (B.kn hk7).list hst ?_; walk_at "sts"; refine ky (fun hb => ?_) (fun hb => ?_)
   · walk_at "sts"; walk_at "qs"; exact hK.go (by walk_at "tn") B hm7 fun _ _ => ⟨_, by rw [hpj, if_pos hb]⟩
   walk_at "sts"; walk_at "qs"; exact hK.go (by walk_at "tn") B hm7 fun _ _ => ⟨_, by rw [hpj, hb, if_neg ax]⟩
 intro γ3 m3 xs r1 s hm3 hk3 hxs B; have hxi : cg xs (jV rd) := by
   have := B.strs hxs; rw [show (ae rvs.length).map (fun j => (jV rd).getD j aj) = jV rd from (jI (l := jV rd) (d := aj) (f := fun x => x) (n := rvs.length) (by unfold jV; rw [al, dQ]; exact hrl.symm)).trans (cZ _)] at this
   walk_at "qs"; exact this
 have hrow := row_len hr6; walk_at "sts"; refine mP (ys := jV rd) B (B.kn hk3) hxi ?_ ?_
 · have h0 : (aa "").length = 0 := by decide +kernel
   rw [← lX, h0]; show (oA rd).length + _ ≤ _
   rw [hrow]; exact a241
 clear B; intro tr1 s B; rw [show dC (aa "") (jV rd) = oA rd from rfl]
 generalize hrw : oA rd = row at *
 walk_at "sts"; refine jH B [⟨"row", some (L + 8), some (.str row tr1)⟩] (by walk_at "cs") rfl rfl (by decide +kernel) ?_; walk_at "sts"; refine x12 (hkp.up hm3) fun bs hbo hbs => ?_; have hbl := hbs.length; rw [al, hlk] at hbl; apply jJ B hR'.handled hbo; intro I s B T; refine mZ B T [⟨"row", some (L + 8), some (.str row tr1)⟩] ["one", "other"] (fun j => !chk (bk row (some (((lks.getD j (0, 0)).1 : Int) + 1)) (some ((lks.getD j (0, 0)).2 : Int)))) (fun j v _ => True) ⟨rfl, rfl, rfl, by walk_at "cs", rfl, rfl⟩ (by rw [al, hbl]; decide) ?_ ?_
 · intro j v c2 cenv L2 γ2 m6 own ρ nw2 s hj hE hm6 hv hC hM B Qt hK; rw [al, hbl] at hj; have hv : (bs.map d0)[j]? = some v := hv; rw [ar] at hv; obtain ⟨b, hb, rfl⟩ := bN.mp hv; refine x12 (hbs.get hb) fun pq hpq hkb => ?_; rw [ar] at hpq; obtain ⟨⟨p, q⟩, hlkj, rfl⟩ := bN.mp hpq; have hgd : lks.getD j (0, 0) = (p, q) := by rw [ab, hlkj]; rfl
   refine x12 (B.kn (hkb.up hm6)) fun us hu1 hu2 => ?_; obtain ⟨ta, tb, rfl⟩ : ∃ ta tb, us = [.int (p : Int) ta, .int (q : Int) tb] := by
     cases hu2 with
     | cons _ ta h2 =>
       cases h2 with
       | cons _ tb h3 =>
         cases h3 with
         | nil => exact ⟨ta, tb, rfl⟩
   refine as_list B hR'.handled hu1 rfl rfl ?_; clear B; intro s B; refine ak (af ?_); walk_at "st"; refine ak (af ?_); walk_at "st"; refine aL ?_; walk_at "sts"; refine lF B (.int _ _) (.int _ _) ?_ (by rw [hrow, aD]; decide); clear B; intro t2 s B; walk_at "sts"; refine rI ?_ (hR'.less (a230) (a229)) B.bef ?_
   · have := d8 row (some ((p : Int) + 1)) (some (q : Int)); exact a240 hrow this
   intro m7 s7 f7; replace B := B.aft f7; walk_at "sts"; refine hK.go (by simp only [hgd]) (by walk_at "tn") B f7.le fun hb Qx hK => ?_; walk_at "sts"; exact hK.go (by walk_at "tn") B f7.le fun _ _ => trivial
 intro γ4 m4 ys r2 s hm4 hk4 hys B; have hfl : ys.isEmpty = nc rd lks := by
   have hyl := hys.length; have := flat_is lks (fun p => chk (bk row (some ((p.1 : Int) + 1)) (some (p.2 : Int)))); rw [hlk] at this; rw [al, hbl] at hyl; unfold nc; rw [hrw, ← this]; rw [bF, dz, dz, ← dy, ← dy, hyl]
 walk_at "sts"; walk_at "nl"; intro nl m5 s hm5 hnl B; refine eq_empty hu (B.kn (hk4.up hm5)) (B.kn hnl) ?_; rw [hfl]; walk_at "sts"; refine ma B [] (by walk_at "cs") rfl rfl (by decide +kernel) (hE.kind (by rfl)) (by decide +kernel) ?_; walk_at "sts"; have l1 : (aa "\\").length = 1 := by decide +kernel
 have l2 : (aa "\"").length = 1 := by decide +kernel
 have l3 : (aa ")").length = 1 := by decide +kernel
 have l4 : (aa "(").length = 1 := by decide +kernel
 have l5 : (aa "\"(").length = 2 := by decide +kernel
 refine lN B (by rw [l1, hrow, aD]; decide) ?_; clear B; intro t2 s B; walk_at "sts"; refine lN B (by rw [l2, hrow, aD]; decide) ?_; clear B; intro t3 s B; walk_at "sts"; refine lF B (.int _ _) .none ?_ (by rw [hrow, aD]; decide); clear B; intro t4 s B; walk_at "sts"; refine i_neg B ?_; clear B; intro t5 s B; walk_at "sts"; refine lF B .none (.int _ _) ?_ (by rw [hrow, aD]; decide); clear B; intro t6 s B; walk_at "sts"; refine lN B (by rw [l3, hrow, aD]; decide) ?_; clear B; intro t7 s B; walk_at "sts"; refine lN B (by rw [jz, l3, l4, hrow, aD]; decide) ?_; clear B; intro t8 s B; walk_at "sts"; refine lN B (by rw [l5, hrow, aD]; decide) ?_; clear B; intro t9 s B; walk_at "sts"; walk_at "nt"; intro Tp m6 s hm6 hTp B; walk_at "sts"; generalize hsa : mO (jY o g d (jx i)) row = sas at hseen; have hsl : sas.length = 7 := by rw [← hsa]; rfl
 have hsz : ∀ y ∈ sas, y.length ≤ 1000 := by
   intro y hy; rw [← hsa] at hy; simp only [mO, b9, cH, or_false] at hy; rcases hy with rfl | rfl | rfl | rfl | rfl | rfl | rfl
   · walk_at "qs"; exact hxl
   · rw [jz, hrow, l1]; decide
   · rw [jz, hrow, l2]; decide
   · have := d8 row (some 1) none; exact a240 hrow this
   · have := d8 row none (some (-1)); exact a240 hrow this
   · rw [jz, jz, hrow, l3, l4]; decide
   rw [jz, hrow, l5]; decide
 obtain ⟨svs, hso, hsi⟩ : ∃ svs, (∃ ob, m6 Tp = some ob ∧ tJ svs ob) ∧ cg svs sas := ⟨_, B.ko hTp, by rw [← hsa]; exact .cons _ _ (.cons _ _ (.cons _ _ (.cons _ _ (.cons _ _ (.cons _ _ (.cons _ _ .nil))))))⟩; have hsvl := jE hsi; clear hTp; apply on B hR'.handled hso; intro I s B T; refine m0 (y := aa "seen") B T [] ["one"] (fun j v _ => ∃ t, v = .str ((fun y => truth (chk y)) (sas.getD j aj)) t) ⟨rfl, rfl, rfl, by walk_at "cs", rfl, rfl⟩ (by rw [hsvl, hsl]; decide) (by walk_at "has") ?_ ?_
 · intro j v c2 cenv L2 γ2 m7 own ρ nw2 s hj hE hm7 hv hC hM B Qx hK; obtain ⟨y, ty, hy, rfl⟩ := j3 hsi hv; have hyd : sas.getD j aj = y := by rw [ab, hy]; rfl
   refine af ?_; walk_at "sts"; refine rI (hsz y (av hy)) (hR'.less (a230) (a229)) B.bef ?_; intro m8 s8 f8; replace B := B.aft f8; walk_at "sts"; refine P.repr_of_bool ?_; replace B := B.tk s8.drawn (s8.toks + 1); walk_at "qs"; exact hK.go (by walk_at "tn") B f8.le fun _ _ => ⟨_, by rw [hyd]; rfl⟩
 intro γ5 m7 zs sn ρ s hm7 hk7 hzs hV B; rw [hsvl] at hzs; have hzi := B.strs hzs; rw [jI (l := sas) (d := aj) (f := fun y => truth (chk y)) rfl] at hzi; rw [show (sas.map fun y => truth (chk y)) = [aa "True", aa "True", aa "True", aa "False", aa "False", aa "False", aa "False"] from by
   have := congrArg (List.map truth) hseen; rw [aT] at this; walk_at "qs"; exact this] at hzi
 walk_at "sts"; walk_at "nl"; intro tl m8 s hm8 htl B; walk_at "sts"; refine pZ hu (B.kn (P := LS sn _) (Kn.map (hk7.up hm8) fun h x => ⟨zs, x, hzi⟩)) (B.kn (P := LS tl [aa "True", aa "True", aa "True", aa "False", aa "False", aa "False", aa "False"]) (htl.map fun h x => ⟨_, x, .cons _ _ (.cons _ _ (.cons _ _ (.cons _ _ (.cons _ _ (.cons _ _ (.cons _ _ .nil))))))⟩)) ?_; walk_at "sts"; refine j6 rfl ?_; walk_at "sts"; have hle8 := (((hm3.trans hm4).trans hm5).trans hm6).trans (hm7.trans hm8); walk_at "nl"; intro ta m9 s hm9 hta B; walk_at "sts"; have hrd1 : rd.length ≤ 1000 := a239 hr6
 refine sz hrd1 hsw false 5 [tr] hnd (by decide) hok (by show 1 + 5 ≤ 20; decide) (hR'.less (a238) (a237)) B.bef ⟨[tv], B.ko hta, .cons (hkt.up (hle8.trans hm9)) .nil⟩ (hrd.up (hle8.trans hm9)) ?_
 intro mA sA fA; replace B := B.aft fA; walk_at "sts"; refine eq_bool ?_; rw [hp1, beq_self_eq_true]; walk_at "sts"; refine lb rfl ?_; walk_at "sts"; have hle9 := (hle8.trans hm9).trans fA.le; walk_at "nl"; intro tb mB s hmB htb B; walk_at "sts"; refine sz hrd1 hsw true 5 [tr] hnd (by decide) hok (by show 1 + 5 ≤ 20; decide) (hR'.less (a238) (a237)) B.bef ⟨[tv], B.ko htb, .cons (hkt.up (hle9.trans hmB)) .nil⟩ (hrd.up (hle9.trans hmB)) ?_
 intro mC sC fC; replace B := B.aft fC; walk_at "sts"; rw [hp2]; refine ky (fun hb => ?_) (fun hb => ?_)
 · walk_at "sts"; refine eq_bool ?_; rw [hb, i5, beq_self_eq_true]; walk_at "qs"; exact h _ _ mC sC ((hle9.trans hmB).trans fC.le) B
 refine eq_bool ?_; rw [hb, cP, beq_self_eq_true]; walk_at "qs"; exact h _ _ mC sC ((hle9.trans hmB).trans fC.le) B
end
end
section
section
variable {w : World} {c : Cx} {γ : Array aE} {m : Mp} {env : Env} {s : Shared} {A : au} {E : VP} {Q : Flow → Shared → Prop} {L : Addr} {own : List Addr} {ρ : List VE}
structure Facts (w : World) (f i o g d : Nat) (tr : Tr) (rd : List Str) (lks : List (Nat × Nat)) : Prop where
 parse : Parse (jY o g d (jx i)) [] tr rd
 tlen : (jY o g d (jx i)).length ≤ 1000
 rd6 : rd.length = 6
 dep : tr.dep ≤ 6
 so : ∀ y ∈ rd, jN w true y
 ls6 : (mJ o d).length = 6
 last : rd = (mJ o d).map fun y => dp y (-1)
 lens : ∀ y ∈ mJ o d, 1 ≤ y.length ∧ y.length ≤ 100
 bares : ∀ y ∈ mJ o d, (gq y (aa "\"(\"") (aa "")).length ≤ 100 ∧ (bare y).length ≤ 100
 wr : kR (jY o g d (jx i)) = kQ ((mJ o d).map bare) tr
 fits : tr.fits 6
 size : tr.size ≤ 100
 low : ∀ p ∈ kd f rd, nk p.1
 lk3 : lks.length = 3
 all : ∀ j p q, lks[j]? = some (p, q) → p < 6 ∧ q < 6 ∧ allOf (kd f rd) ⟨#[abc.cps.getD j 0]⟩ = [nz p, nz q]
 rng : ∀ ch, ch < 2 ^ (jG (jx i)).length → ∀ p ∈ (lks.map fun p => ((p.1 : Int), (p.2 : Int))) ++ ties (chosen (jx i) ch) tr, 0 ≤ p.1 ∧ p.1 < 11 ∧ 0 ≤ p.2 ∧ p.2 < 11
 get : ∀ ch, ch < 2 ^ (jG (jx i)).length → ∀ (j : Nat) (y : Str), (mh f (jx i) ch)[j]? = some y → ∃ z : Nat, (chosen (jx i) ch)[j]? = some (z : Int) ∧ z < 10 ∧ nb (kd f rd) (aI y) (aa "9") = nz z ∧ jN w true (aQ (aI y)) ∧ nk (aI y) ∧ bw (aI y).length = false
 sw : ∀ x ∈ rd, bw (aI x).length = false
 nodes : jK [tr] ≤ 5
 seen : (mO (jY o g d (jx i)) (oA rd)).map chk = [true, true, true, false, false, false, false]
 p1 : prv rd false 5 [tr] = ke lks tr (jx i) (2 ^ (jG (jx i)).length)
 p2 : prv rd true 5 [tr] = (ke lks tr (jx i) (2 ^ (jG (jx i)).length) && nc rd lks)
theorem fits_mono {n k : Nat} (h : n ≤ k) (t : Tr) (x : t.fits n) : t.fits k := by
 induction t with
 | leaf i => exact ao x h
 | node sg l r mid ihl ihr => exact ⟨x.1, ihl x.2.1, ihr x.2.2.1, ao x.2.2.2 h⟩
theorem law_all (facts : ∀ f i o g d : Nat, f < 24 → i < 12 → o < 720 → g < 120 → d < 46656 → ∃ tr rd lks, Facts w f i o g d tr rd lks) (W : LawE A env L) {sa : Addr} {ns : List Int} (hns : ns.length ≤ 1000) (hsa : Kn m (LI sa ns)) (B : Bd w c γ m env own ρ [] s) (r_script : (⟨"script", none, some (.ref sa)⟩ : VE) ∈ ρ) (r_sums : Hn (aa "sums") none ρ) (r_first : Hn (aa "first") (some (L + 1)) ρ) (o_first : L + 1 ∈ own) (r_words : Hn (aa "words") (some (L + 2)) ρ) (o_words : L + 2 ∈ own) (r_mask : Hn (aa "mask") (some (L + 3)) ρ) (o_mask : L + 3 ∈ own) (r_due : Hn (aa "due") none ρ) (r_octets : Hn (aa "octets") none ρ) (r_numbers : Hn (aa "numbers") none ρ) (r_shown : Hn (aa "shown") none ρ) (r_pars : Hn (aa "pars") (some (L + 4)) ρ) (o_pars : L + 4 ∈ own) (r_text : Hn (aa "text") none ρ) (r_leaves : Hn (aa "leaves") none ρ) (r_table : Hn (aa "table") (some (L + 5)) ρ) (o_table : L + 5 ∈ own) (r_read : Hn (aa "read") (some (L + 6)) ρ) (o_read : L + 6 ∈ own) (r_tree : Hn (aa "tree") none ρ) (r_name : Hn (aa "name") none ρ) (r_place : Hn (aa "place") none ρ) (r_links : Hn (aa "links") none ρ) (r_net : Hn (aa "net") none ρ) (r_choice : Hn (aa "choice") (some (L + 7)) ρ) (o_choice : L + 7 ∈ own) (r_told : Hn (aa "told") none ρ) (r_found : Hn (aa "found") none ρ) (r_row : Hn (aa "row") (some (L + 8)) ρ) (o_row : L + 8 ∈ own) (r_flat : Hn (aa "flat") none ρ) (r_seen : Hn (aa "seen") none ρ)
   (h : ∀ ρ γ m' s', m.le m' → Bd w c γ m' env own ρ [] s' → Q (.ret (.bool true)) s') : wpAny (model PG w) A (execs (lawBody.drop 0) env) Q E s := by
 refine law_1 W hns hsa B (by walk_at "mem") (by walk_at "has") (by walk_at "has") (by walk_at "mem") (by walk_at "has") (by walk_at "mem") (by walk_at "has") (by walk_at "mem") (by walk_at "has") ?_; intro f i o g d sums words due tf tm ρ1 γ1 m1 s1 hf hi ho hg hd l1 htk1 hws hdue w1 n1 n2 n3 n4 B1; obtain ⟨tr, rd, lks, F⟩ := facts f i o g d hf hi ho hg hd; refine law_2 W htk1 hf hi ho hg hd hws hdue B1 (by walk_at "mem") (by walk_at "mem") (by walk_at "has") (by walk_at "has") ?_; intro oc nm ρ2 γ2 m2 s2 l2 htk2 hnm w2 n5 B2; refine law_3 W htk2 hf hi (hws.up l2) (hdue.up l2) hnm B2 (by walk_at "mem") (by walk_at "mem") (by walk_at "mem") (by walk_at "mem") (by walk_at "mem") (by walk_at "has") ?_; intro sh ρ3 γ3 m3 s3 l3 htk3 hsh w3 n6 B3; refine law_4 W htk3 hf hi (hws.up (l2.trans l3)) (hnm.up l3) hsh B3 (by walk_at "mem") (by walk_at "mem") (by walk_at "mem") (by walk_at "has") (by walk_at "mem") (by walk_at "has") (by walk_at "has") ?_; intro pa lv tt ρ4 γ4 m4 s4 l4 htk4 hpa hlv w4 n7 n8 n9 B4; refine law_5 W htk4 F.parse F.tlen (by rw [F.rd6]; decide) F.dep B4 (by walk_at "mem") (by walk_at "has") (by walk_at "mem") (by walk_at "has") (by walk_at "mem") (by walk_at "has") ?_; intro x lst ra tv ρ5 γ5 m5 s5 l5 htk5 hx hrd hkt w5 n10 n11 n12 B5; have hws5 := hws.up (((l2.trans l3).trans l4).trans l5); refine law_6 W htk5 hf hws5 hx hrd F.rd6 F.so B5 (by walk_at "mem") (by walk_at "mem") (by walk_at "mem") (by walk_at "has") (by walk_at "has") ?_; intro ρ6 γ6 m6 s6 l6 htk6 hl w6 B6; have hel : (kd f rd).length = 11 := by
   unfold kd nP; simp [F.rd6]
 have hes : (kd f rd).map (·.1) = j7 f ++ rd := by
   unfold kd nP j7; rw [aT, aM, aT, aT]; congr 1
   have := jI (l := rd) (d := aj) (f := fun y => y) (n := rd.length) rfl; rw [cZ] at this; exact this
 refine law_7 W htk6 hf (hws5.up l6) (hlv.up (l5.trans l6)) F.ls6 (hx.up l6) hl (hrd.up l6) F.rd6 (hkt.up l6) F.fits F.size F.dep F.tlen F.last F.lens F.bares F.wr (by rw [hel]; decide) hes B6 (by walk_at "mem") (by walk_at "mem") (by walk_at "mem") (by walk_at "mem") (by walk_at "mem") (by walk_at "mem") ?_; intro γ7 m7 s7 l7 B7; have l67 := l6.trans l7; refine law_8 W (hx.up l67) (hl.up l7) F.low (by rw [hel]; decide) F.lk3 F.all B7 (by walk_at "mem") (by walk_at "has") (by walk_at "has") ?_; intro lk ρ8 γ8 m8 s8 l8 hkp w8 n13 n14 B8; have l68 := l67.trans l8; refine law_9 W hf hi (hpa.up (l5.trans l68)) (hx.up l68) (hl.up (l7.trans l8)) F.low (by rw [hel]; decide) hkp F.lk3 (hkt.up l68) (fits_mono (by decide) tr F.fits) F.size F.dep F.rng F.get B8 (by walk_at "mem") (by walk_at "mem") (by walk_at "mem") (by walk_at "mem") (by walk_at "mem") (by walk_at "mem") (by walk_at "has") (by walk_at "mem") (by walk_at "has") (by walk_at "has") ?_; intro ρ9 γ9 m9 s9 l9 w9 n15 B9; have l69 := l68.trans l9; refine law_10 W (hrd.up l69) F.rd6 F.sw (hkp.up l9) F.lk3 (fun p hp => ?_) (hkt.up l69) F.nodes (fun t ht => by rw [cm.mp ht, F.rd6]; exact ⟨F.fits, F.size, F.dep⟩) F.tlen F.seen F.p1 F.p2 B9 (by walk_at "mem") (by walk_at "mem") (by walk_at "mem") (by walk_at "mem") (by walk_at "mem") (by walk_at "has") (by walk_at "mem") (by walk_at "has") (by walk_at "has") ?_
 · obtain ⟨j, hj⟩ := List.mem_iff_getElem?.mp hp; obtain ⟨h1, h2, _⟩ := F.all j p.1 p.2 hj; exact ⟨h1, h2⟩
 intro ρ γA mA sA lA BA; exact h ρ γA mA sA ((l1.trans (l2.trans (l3.trans (l4.trans (l5.trans l69))))).trans lA) BA
end
end
section
open PySem.W.Fast in
noncomputable def tLeft (w : World) (b : Bool) :=
 ((tw10274390034422433532 tw14364793385576792824 (opening P0) w 4112 (tw1435165496053646825 (opening P0)).1 (tw1435165496053646825 (opening P0)).2).bind (tw14289696077712309145 P0)).map fun s₀ =>
   (match s₀.heap.isNs bS && s₀.gens.size == 0 with
     | true => (tw14082659384304107361 tw14364793385576792824 P0 (w.withFollow "special-get-raises" b) s₀.heap.objs.size (s₀.heap.nsMap bS "__annotations__") 4112 s₀ (topStub P0)).bind fun s₁ => match staticsOk (tw5923862056798008813 P0.main.body) s₀.heap s₁.heap && namesBound P0 s₁.heap && gensDone s₁ && laidKept s₀.heap s₁.heap with
         | true => some s₁
         | false => none
     | false => none : Option Shared).map fun s => (tw4187177175401517315 qq lo (tw5923862056798008813 P0.main.body) (fun s => xlAt qq [] s && recOk [] s) true s, KA.map s.heap.get?)
theorem left_f (w : World) : tLeft w false = some (some (openGood qq lo, (KH w.params).map fun p => some p.2)) := by kernel_rfl
theorem left_t (w : World) : tLeft w true = some (some (openGood qq lo, (KH w.params).map fun p => some p.2)) := by kernel_rfl
noncomputable abbrev seenK (s : Shared) := (openSeen qq lo (importedModules P0.main.body) (fun s => xlAt qq [] s && recOk [] s) true s, KA.map s.heap.get?)
noncomputable abbrev goodK (w : World) := (openGood qq lo, (KH w.params).map fun p => some p.2)
theorem tLeft_is (w : World) (b : Bool) : tLeft w b = (fencedOpening treeTable P0 w 4112).map fun s₀ => (topFrom treeTable P0 (w.withFollow "special-get-raises" b) 4112 s₀).map seenK := by
 unfold tLeft; rw [← PySem.W.Fast.te10274390034422433532, ← PySem.W.Fast.te14364793385576792824, ← PySem.W.Fast.te1435165496053646825, ← PySem.W.Fast.te14289696077712309145, ← PySem.W.Fast.te14082659384304107361, ← PySem.W.Fast.te5923862056798008813, ← PySem.W.Fast.te4187177175401517315]; rfl
theorem left : LeftO P0 qq lo (fun s => xlAt qq [] s && recOk [] s) (fun s => KA.map s.heap.get?) (fun w => (KH w.params).map fun p => some p.2) 4112 := by
 refine LeftO.of_split "special-get-raises" fun w => ?_; have a := left_f w; have b := left_t w; rw [tLeft_is] at a b; refine x12 (bN.mp a) fun s₀ h1 h2 => ?_; rw [h1] at b ⊢; have b := cK b; show some (_, _) = _
 rw [show (topFrom treeTable P0 (w.withFollow "special-get-raises" false) 4112 s₀).map seenK = some (goodK w) from h2, show (topFrom treeTable P0 (w.withFollow "special-get-raises" true) 4112 s₀).map seenK = some (goodK w) from b]
 rfl
end
section
theorem said : PySem.Challenge.rw_kl0125_01.wellSaid = true := (congrFun PySem.W.Fast.te9446332074065402090 _).trans (by kernel_rfl)
theorem looks : (chainsOk qq && opensWell PySem.Challenge.rw_kl0125_01.row.prog && (frees PySem.Challenge.rw_kl0125_01.row.toRowW && PySem.Challenge.rw_kl0125_01.row.within.isEmpty)) = true := by decide +kernel
theorem bare0 : PySem.Challenge.rw_kl0125_01.row.prog.bare := ⟨rfl, rfl, rfl, rfl, rfl, by decide +kernel⟩
theorem wit : PySem.Challenge.rw_kl0125_01.row.toRowW.promised := by w_witness2
theorem the_head {d : DefRec} {kwd : List (Str × Expr)} (hdef : defOf qq PySem.Challenge.rw_kl0125_01.row.name = some (d, kwd)) (hp : PySem.Challenge.rw_kl0125_01.row.prog.theDef PySem.Challenge.rw_kl0125_01.row.name = some (d.params, d.body, d.scope)) (hk : kwWritten? d.params.kwonlyargs d.params.kw_defaults = some kwd)
   (walk : WalkO qq lo (XL qq []) (InK KH) PySem.Challenge.rw_kl0125_01.row.toRowW d kwd fun f vs => PySem.call f vs) : PySem.Challenge.rw_kl0125_01.Holds :=
 holds_law said fun k1 => PySem.W.holds_open (q := qq) (loose := lo) (Xt := fun s => xlAt qq [] s && recOk [] s) (XP := XL qq []) (Yf := fun s : Shared => KA.map s.heap.get?) (Ya := fun w => (KH w.params).map fun p : Addr × Obj => some p.2) (YP := InK KH) (N := 4112) left (InK.of (fun _ => rfl)) InK.keeps
   (fun s e => xl_of s (aU.mp e).1) XL.keeps hdef hp hk (fun s e => recFacts_of (aU.mp e).2) rfl k1 looks bare0 wit walk
end
section
theorem ints_has {R : WRecords} : ∀ {xs : List WData}, hO R xs .int = true → ∀ x ∈ xs, ∃ n, x = .int n := by
 intro xs; induction xs with
 | nil => intro _ x hx; cases hx
 | cons y r ih =>
   intro h x hx; have h : (WShape.has R y .int && hO R r .int) = true := h; obtain ⟨h1, h2⟩ := aU.mp h; rcases b9.mp hx with rfl | hx
   · cases x with
     | int n => exact ⟨n, rfl⟩
     | _ => exact (ax h1).elim
   exact ih h2 x hx
theorem args_of {args : List WData} (h : PySem.Challenge.rw_kl0125_01.row.claim.pre args = true) : ∃ xs, args = [.list xs] ∧ (∀ x ∈ xs, ∃ n, x = .int n) ∧ xs.length ≤ 63 := by
 have h : (WShape.hasAll [] args [.list .int] && (PySem.Challenge.rw_kl0125_01.pre).holds [] { args := args }) = true := h; obtain ⟨h1, h2⟩ := aU.mp h; match args, h1, h2 with
 | [a], h1, h2 =>
   have h1 : (WShape.has [] a (.list .int) && true) = true := h1; rw [Bool.and_true] at h1; cases a with
   | list xs =>
     have h3 : ((hO [] xs .int) || false) = true := h1; rw [Bool.or_false] at h3; refine ⟨xs, rfl, ints_has h3, ?_⟩; rcases Nat.lt_or_ge 63 xs.length with q | q
     · exfalso
       have e : PySem.W.less? (.int 63) (.int (xs.length : Nat)) = some true := by
         show some (decide ((63 : Int) < (xs.length : Nat))) = some true
         rw [decide_eq_true (a262 q)]
       have h5 : (PySem.Challenge.rw_kl0125_01.pre).value [] { args := [.list xs] } = some (.bool false) := by
         show (match (match (PySem.W.less? (.int 63) (.int (xs.length : Nat))).map WData.bool with | some (.bool b) => some (WData.bool (!b)) | _ => none) with | some (.bool false) => some (WData.bool false) | some (.bool true) => some (.bool true) | _ => none) = _
         rw [e]; rfl
       unfold WTm.holds at h2; rw [h5] at h2; cases h2
     exact q
   | _ => exact (ax h1).elim
 | a :: b :: r, h1, h2 =>
   have h1 : (WShape.has [] a (.list .int) && false) = true := h1; rw [cQ] at h1; cases h1
theorem qM {P : Params} {h : Heap} : ∀ {vs : List Value} {xs : List WData}, WellAll P h vs xs → (∀ x ∈ xs, ∃ n, x = .int n) → ∃ ns, d6 vs ns ∧ ns.length = xs.length := by
 intro vs; induction vs with
 | nil => intro xs hr _; cases hr; exact ⟨[], .nil, rfl⟩
 | cons v r ih =>
   intro xs hr hx; cases hr with
   | cons h1 h2 =>
     obtain ⟨n, rfl⟩ := hx _ (.head _); obtain ⟨ns, h3, h4⟩ := ih h2 fun x hx' => hx x (.tail _ hx'); cases h1
     exact ⟨n :: ns, .cons _ _ h3, by simp [h4]⟩
theorem the_law (facts : ∀ (w : World) (f i o g d : Nat), f < 24 → i < 12 → o < 720 → g < 120 → d < 46656 → ∃ tr rd lks, Facts w f i o g d tr rd lks) : PySem.Challenge.rw_kl0125_01.Holds := by
 refine the_head (by rfl) (by rfl) (by rfl) ?_; intro w s0 s1 mg mb G Y fa o pm cd doc dV kV ho hd2 hcd hD hmg hg args vals as hpre hlay hrd hwl hlo; have KX : (KH w.params).In s1.heap := Y; clear hd2 hcd hD; have hfa : fa = 322 := by
   have h1 : mg (aa "law") = some (.ref 322) := mg_of KX G.T.g (by rfl); have h2 : mg (aa "law") = some (.ref fa) := hmg; rw [h1] at h2; cases h2; rfl
 subst hfa; clear hmg; obtain ⟨xs, rfl, hxi, hxl⟩ := args_of hpre; obtain ⟨v, vs', rfl, hw1, hw2⟩ := wellAll_cons_inv hwl; cases hw2
 obtain ⟨a, us, rfl, hau, hus⟩ : ∃ a us, v = .ref a ∧ s1.heap.get? a = some { cls := .type "list", data := .seq us.toArray } ∧ WellAll w.params s1.heap us xs := by
   cases hw1 with
   | list h1 h2 => exact ⟨_, _, rfl, h1, h2⟩
 obtain ⟨ns, hui, hnl⟩ := qM hus hxi; have G' : Grd w s1.heap := ⟨KX, ⟨mg, G.T.g, fun x v e => by
   cases v with
   | none => exact mg_none_of KX G.T.g e
   | some v => exact mg_of KX G.T.g e⟩, ⟨mb, G.T.b, G.T.builtins⟩, G.T.nolimit, G.T.nodigits⟩
 have b : Bef w (Mp.of s1.heap []) s1 := ⟨fun a o e => (Mp.of_get e).1, fun h ok => G'.keeps fun b o e => ok b o (Mp.get_of e (by simp)), by rw [hg]; intro i hx; simp at hx⟩; have hsa : Kn (Mp.of s1.heap []) (LI a ns) := fun h ok => ⟨us, ⟨_, ok _ _ (Mp.get_of hau (by simp)), _, rfl⟩, hui⟩; have hRm : Rm callerA 61 303 := ⟨rfl, by decide, by decide⟩; show wpAny (model PG w) callerA (call (.ref 322) [.ref a]) _ _ s1
 refine enterCF (d := 60) (u := 300) (nw := []) (ns := ["script", "sums", "due", "octets", "place", "numbers", "shown", "leaves", "text", "tree", "name", "links", "net", "told", "found", "flat", "seen"]) (cn := ["first", "words", "mask", "pars", "table", "read", "choice", "row"]) (ρ₀ := fun L => [⟨"script", none, some (.ref a)⟩, ⟨"sums", none, none⟩, ⟨"due", none, none⟩, ⟨"octets", none, none⟩, ⟨"place", none, none⟩, ⟨"numbers", none, none⟩, ⟨"shown", none, none⟩, ⟨"leaves", none, none⟩, ⟨"text", none, none⟩, ⟨"tree", none, none⟩, ⟨"name", none, none⟩, ⟨"links", none, none⟩, ⟨"net", none, none⟩, ⟨"told", none, none⟩, ⟨"found", none, none⟩, ⟨"flat", none, none⟩, ⟨"seen", none, none⟩, ⟨"first", some (L + 1), none⟩, ⟨"words", some (L + 2), none⟩, ⟨"mask", some (L + 3), none⟩, ⟨"pars", some (L + 4), none⟩, ⟨"table", some (L + 5), none⟩, ⟨"read", some (L + 6), none⟩, ⟨"choice", some (L + 7), none⟩, ⟨"row", some (L + 8), none⟩]) (own₀ := fun L => [L, L + 1, L + 2, L + 3, L + 4, L + 5, L + 6, L + 7, L + 8]) hRm b .nil rfl rfl rfl rfl rfl rfl rfl rfl rfl rfl (by rfl) (by decide +kernel) (by decide +kernel) (by decide +kernel) (fun L => rfl) (fun L => rfl) (fun L => rfl) ?_; intro A' env L c s' hA hfm hE hR' hc B hL; have W : LawE A' env L := ⟨hE, hR', by rw [hA]; exact fY rfl, hfm⟩; walk_at "opq"; refine law_all (facts w) W (a261 hxl hnl) hsa B (by walk_at "mem") (by walk_at "has") (by walk_at "has") (by walk_at "mem") (by walk_at "has") (by walk_at "mem") (by walk_at "has") (by walk_at "mem") (by walk_at "has") (by walk_at "has") (by walk_at "has") (by walk_at "has") (by walk_at "has") (by walk_at "mem") (by walk_at "has") (by walk_at "has") (by walk_at "has") (by walk_at "mem") (by walk_at "has") (by walk_at "mem") (by walk_at "has") (by walk_at "has") (by walk_at "has") (by walk_at "has") (by walk_at "has") (by walk_at "has") (by walk_at "mem") (by walk_at "has") (by walk_at "has") (by walk_at "has") (by walk_at "mem") (by walk_at "has") (by walk_at "has") ?_; intro ρ γ m' s2 l B2; have f := B2.done hc .nil jC; refine ⟨.inl ⟨.bool true, .bool true, [], rfl, fun cls => rfl, .bool true, by kernel_rfl, fun _ => ⟨.nil, fun a ha => by cases ha⟩⟩, OldK.of_keep fun b o e => f.keep b o e (by simp), f.os, f.bare⟩
end
section
inductive Tk where
 | ch (c : Nat)
 | lf (i : Nat)
 deriving DecidableEq, Inhabited
noncomputable def ex1 (ls : List Str) : Tk → List Nat
 | .ch c => [c]
 | .lf i => (ls.getD i aj).cps.toList
noncomputable def ex (ls : List Str) (l : List Tk) : List Nat := l.flatMap (ex1 ls)
theorem pG (ls : List Str) (a b : List Tk) : ex ls (a ++ b) = ex ls a ++ ex ls b := by unfold ex; rw [fe]
theorem rB (ls : List Str) (t : Tk) (l : List Tk) : ex ls (t :: l) = ex1 ls t ++ ex ls l := rfl
theorem ex_nil (ls : List Str) : ex ls [] = [] := rfl
noncomputable def glueT (x y : List Tk) : List Tk := [.ch 40] ++ x ++ [.ch 63] ++ y ++ [.ch 41]
noncomputable def kH (st : Nat × List (List Tk)) (size : Nat) : Nat × List (List Tk) :=
 (st.1 / size, st.2.take (st.1 % size) ++ [glueT (st.2.getD (st.1 % size) []) (st.2.getD (st.1 % size + 1) [])] ++ st.2.drop (st.1 % size + 2))
noncomputable def mV (merging : Nat) (l : List (List Tk)) : Nat × List (List Tk) := [5, 4, 3, 2, 1].foldl kH (merging, l)
theorem lr (x y : Str) : (x ++ y).cps.toList = x.cps.toList ++ y.cps.toList := by
 show (x.cps ++ y.cps).toList = _
 simp
theorem glue_ex (ls : List Str) (a b : Str) (x y : List Tk) (ha : a.cps.toList = ex ls x) (hb : b.cps.toList = ex ls y) : (ru a b).cps.toList = ex ls (glueT x y) := by
 unfold ru glueT; simp only [lr, pG, ha, hb]; have h1 : (aa "(").cps.toList = [40] := by decide +kernel
 have h2 : (aa "?").cps.toList = [63] := by decide +kernel
 have h3 : (aa ")").cps.toList = [41] := by decide +kernel
 rw [h1, h2, h3]; rfl
theorem oM {α β γ : Type} {f : α → γ} {h : β → γ} {l : List α} {k : List β} (e : l.map f = k.map h) (i : Nat) (a : α) (b : β) (hd : f a = h b) : f (l.getD i a) = h (k.getD i b) := by
 have := congrArg (fun z => z.getD i (f a)) e; simp only [ab, ar] at this; rw [ab, ab]; cases h1 : l[i]? with
 | none =>
   cases h2 : k[i]? with
   | none => exact hd
   | some y =>
     have hl := iW.mp h1; have hk := (aC.mp h2).1; have := congrArg List.length e; simp only [al] at this; (first | lia | omega)
 | some x =>
   cases h2 : k[i]? with
   | none =>
     have hk := iW.mp h2; have hl := (aC.mp h1).1; have := congrArg List.length e; simp only [al] at this; (first | lia | omega)
   | some y =>
     rw [h1, h2] at this; exact this
theorem kO (ls : List Str) (st : Nat × List Str) (tt : Nat × List (List Tk)) (size : Nat) (h1 : st.1 = tt.1) (h2 : st.2.map (fun s => s.cps.toList) = tt.2.map (ex ls)) :
   (k6 st size).1 = (kH tt size).1 ∧ (k6 st size).2.map (fun s => s.cps.toList) = (kH tt size).2.map (ex ls) := by
 unfold k6 kH; refine ⟨by rw [h1], ?_⟩; simp only [aM, i4, gG, ag, b6, h1, h2]; congr 2
 congr 1
 exact glue_ex ls _ _ _ _ (oM (f := fun s : Str => s.cps.toList) (h := ex ls) h2 _ _ _ rfl) (oM (f := fun s : Str => s.cps.toList) (h := ex ls) h2 _ _ _ rfl)
noncomputable def leavesT : List (List Tk) := [[.lf 0], [.lf 1], [.lf 2], [.lf 3], [.lf 4], [.lf 5]]
theorem leaves_ex {ls : List Str} (h : ls.length = 6) : ls.map (fun s => s.cps.toList) = leavesT.map (ex ls) := by
 revert h; generalize ls = l; revert l
 exact len6 fun a b c d e f => by simp [leavesT, ex, ex1]
theorem rj (ls : List Str) (h : ls.length = 6) (g : Nat) : (j4 g ls 5).2.map (fun s => s.cps.toList) = (mV g leavesT).2.map (ex ls) := by
 have := kO ls (g, ls) (g, leavesT) 5 rfl (leaves_ex h); have := kO ls _ _ 4 this.1 this.2; have := kO ls _ _ 3 this.1 this.2; have := kO ls _ _ 2 this.1 this.2; have := kO ls _ _ 1 this.1 this.2; exact this.2
end
section
noncomputable def qV : List Tk → List Tk → List (List Tk)
 | acc, [] => [acc]
 | acc, t :: r => if t = .ch 63 then acc :: qV [] r else qV (acc ++ [t]) r
theorem oq (c : Nat) : ∀ (w acc rest : List Nat), c ∉ w → kZ c acc (w ++ rest) = kZ c (acc ++ w) rest
 | [], acc, rest, h => by simp
 | a :: w, acc, rest, h => by
   have ha : a ≠ c := fun e => h (e ▸ .head _); rw [aY]; show (if a = c then _ else _) = _
   rw [if_neg ha, oq c w (acc ++ [a]) rest fun hx => h (.tail _ hx)]; simp
theorem rO (ls : List Str) (hls : ∀ i, (63 : Nat) ∉ (ls.getD i aj).cps.toList) : ∀ (l acc : List Tk), kZ 63 (ex ls acc) (ex ls l) = (qV acc l).map (ex ls)
 | [], acc => rfl
 | .ch c :: r, acc => by
   rw [rB]; show (if c = 63 then _ else _) = _
   unfold qV; by_cases h : c = 63
   · rw [if_pos h, if_pos (by rw [h]), ag]; congr 1
     exact rO ls hls r []
   rw [if_neg h, if_neg (by intro e; injection e with e; exact h e)]
   have := rO ls hls r (acc ++ [.ch c]); rw [pG] at this; exact this
 | .lf i :: r, acc => by
   rw [rB]; unfold qV; rw [if_neg (by intro e; injection e)]; have := rO ls hls r (acc ++ [.lf i]); rw [pG] at this; rw [← this]; rw [oq 63 _ _ _ (show 63 ∉ ex1 ls (.lf i) from hls i)]
   congr 2
   show _ = ex1 ls (.lf i) ++ []
   simp
noncomputable def lY (l : List Tk) (signs : List Nat) : List Tk := ((qV [] l).getD 0 []) ++ (cY (fun c p => .ch c :: p) signs ((qV [] l).drop 1)).flatten
theorem pF (ls : List Str) : ∀ l : List (List Tk), ex ls l.flatten = (l.map (ex ls)).flatten
 | [] => rfl
 | x :: r => by rw [cu, pG, pF ls r, ag, cu]
theorem zip_ex (ls : List Str) : ∀ (signs : List Nat) (ps : List (List Tk)), (cY (· ++ ·) (signs.map fun c => (⟨#[c]⟩ : Str)) (ps.map fun p => (⟨(ex ls p).toArray⟩ : Str))).map (fun s => s.cps.toList) = (cY (fun c p => Tk.ch c :: p) signs ps).map (ex ls)
 | [], _ => rfl
 | _ :: _, [] => rfl
 | c :: cs, p :: ps => by
   simp only [ag, fO]; rw [zip_ex ls cs ps]; congr 1
   rw [lr, rB]; rfl
theorem signs_ex (ls : List Str) (hls : ∀ i, (63 : Nat) ∉ (ls.getD i aj).cps.toList) (x : Str) (l : List Tk) (signs : List Nat) (hx : x.cps.toList = ex ls l) :
   (lP x (signs.map fun c => (⟨#[c]⟩ : Str))).cps.toList = ex ls (lY l signs) := by
 have hq : aa "?" = ⟨#[63]⟩ := by decide +kernel
 have hsp : cz x (aa "?") = (qV [] l).map fun p => (⟨(ex ls p).toArray⟩ : Str) := by
   rw [hq, pb x 63 (by decide), hx]; have := rO ls hls l []; rw [ex_nil] at this; rw [this, aT]; rfl
 unfold lP lY; rw [hsp, lr, pG, p9, pF, ← gG, zip_ex]; congr 1
 rw [ab, ab, ar]; cases (qV [] l)[0]? with
 | none => rfl
 | some p => rfl
noncomputable def sgn (k : Nat) : List Nat := (ae 5).map fun j => if k.testBit j then 43 else 42
theorem sgn_is (k : Nat) : pP k = (sgn k).map fun c => (⟨#[c]⟩ : Str) := by
 unfold pP sgn; rw [aT]; refine bW fun j _ => ?_; have h1 : aa "+" = ⟨#[43]⟩ := by decide +kernel
 have h2 : aa "*" = ⟨#[42]⟩ := by decide +kernel
 simp only [Function.comp_apply]; split <;> simp_all
noncomputable def rM (g k : Nat) : List Tk := lY ((mV g leavesT).2.getD 0 []) (sgn k)
theorem text_ex {o g d k : Nat} (h6 : (mJ o d).length = 6) (hq : ∀ i, (63 : Nat) ∉ ((mJ o d).getD i aj).cps.toList) : (jY o g d k).cps.toList = ex (mJ o d) (rM g k) := by
 unfold jY rM; rw [sgn_is]; exact signs_ex _ hq _ _ _ (oM (f := fun s : Str => s.cps.toList) (h := ex (mJ o d)) (rj _ h6 g) 0 _ _ rfl)
end
section
noncomputable def ltsOf (o : Nat) : List Str := (jO o 0 6).2.2.2
noncomputable def dsOf (d : Nat) : List Nat := [d % 6, d / 6 % 6, d / 6 / 6 % 6, d / 6 / 6 / 6 % 6, d / 6 / 6 / 6 / 6 % 6, d / 6 / 6 / 6 / 6 / 6 % 6]
theorem om {x y : Str} (h : x.cps.toList = y.cps.toList) : x = y := by
 cases x with
 | mk x => cases y with
   | mk y => exact congrArg Str.mk (dw.mp h)
theorem lc (x : Str) : aa "" ++ x = x := om (by
 rw [lr]; have : (aa "").cps.toList = [] := by decide +kernel
 rw [this]; rfl)
theorem ls_is (o d : Nat) : mJ o d = cY (fun k x => dressL.getD k aj ++ x) (dsOf d) (ltsOf o) := by
 have h0 : ∀ x : Str, dressL.getD (0 % 6) aj ++ x = x := fun x => lc x; have h1 : ∀ x : Str, dressL.getD (0 / 6 % 6) aj ++ x = x := fun x => lc x; have h2 : ∀ x : Str, dressL.getD (0 / 6 / 6 % 6) aj ++ x = x := fun x => lc x; have h3 : ∀ x : Str, dressL.getD (0 / 6 / 6 / 6 % 6) aj ++ x = x := fun x => lc x; have h4 : ∀ x : Str, dressL.getD (0 / 6 / 6 / 6 / 6 % 6) aj ++ x = x := fun x => lc x; have h5 : ∀ x : Str, dressL.getD (0 / 6 / 6 / 6 / 6 / 6 % 6) aj ++ x = x := fun x => lc x; unfold mJ ltsOf jO dsOf; simp only [gB, List.take_zero, aR, dY, lm, bi, aY, h0, h1, h2, h3, h4, h5, fO, List.zipWith_nil_left]
noncomputable def mQ (st : Nat × List Nat × List Nat) (size : Nat) : Nat × List Nat × List Nat := (st.1 / size, st.2.1.eraseIdx (st.1 % size), st.2.2 ++ [st.2.1.getD (st.1 % size) 6])
noncomputable def jP (o : Nat) : List Nat := ([6, 5, 4, 3, 2, 1].foldl mQ (o, [0, 1, 2, 3, 4, 5], [])).2.2
noncomputable def km (j : Nat) : Str := poolL.getD j aj
theorem ng {α β : Type} (f : α → β) : ∀ (l : List α) (i : Nat), (l.map f).eraseIdx i = (l.eraseIdx i).map f
 | [], _ => by simp
 | x :: l, 0 => by simp
 | x :: l, i + 1 => by simp [ng f l i]
theorem sZ (l : List Nat) (i : Nat) : (l.map km).getD i aj = km (l.getD i 6) := by
 rw [ab, ab, ar]; cases l[i]? <;> rfl
theorem r6 (o : Nat) : ltsOf o = (jP o).map km := by
 have step : ∀ (st : Nat × Nat × List Str × List Str) (tt : Nat × List Nat × List Nat) (size : Nat), st.1 = tt.1 → st.2.1 = 0 → st.2.2.1 = tt.2.1.map km → st.2.2.2 = tt.2.2.map km →
     (lm st size).1 = (mQ tt size).1 ∧ (lm st size).2.1 = 0 ∧ (lm st size).2.2.1 = (mQ tt size).2.1.map km ∧ (lm st size).2.2.2 = (mQ tt size).2.2.map km := by
   intro st tt size h1 h2 h3 h4; unfold lm mQ; refine ⟨by rw [h1], by rw [h2], ?_, ?_⟩
   · show st.2.2.1.eraseIdx (st.1 % size) = _
     rw [h1, h3, ng]
   show st.2.2.2 ++ [dressL.getD (st.2.1 % 6) aj ++ st.2.2.1.getD (st.1 % size) aj] = _
   rw [h1, h2, h3, h4, sZ, show dressL.getD (0 % 6) aj = aa "" from rfl, lc]
   simp
 refine x04 (step (o, 0, poolL, []) (o, [0, 1, 2, 3, 4, 5], []) 6 rfl rfl rfl rfl) fun a1 a2 a3 a4 => ?_; refine x04 (step _ _ 5 a1 a2 a3 a4) fun a1 a2 a3 a4 => ?_; refine x04 (step _ _ 4 a1 a2 a3 a4) fun a1 a2 a3 a4 => ?_; refine x04 (step _ _ 3 a1 a2 a3 a4) fun a1 a2 a3 a4 => ?_; refine x04 (step _ _ 2 a1 a2 a3 a4) fun a1 a2 a3 a4 => ?_; refine x04 (step _ _ 1 a1 a2 a3 a4) fun a1 a2 a3 a4 => ?_; exact a4
theorem perm_ok : ∀ o : Fin 720, (jP o.val).length = 6 ∧ (jP o.val).all (fun x => dJ x 6) = true ∧ [0, 1, 2, 3, 4, 5].all (fun x => (jP o.val).contains x) = true := by decide +kernel
end
section
inductive Ck where
 | pl (c : Nat)
 | es (c : Nat)
 | qu (c : Nat)
 deriving DecidableEq, Inhabited
noncomputable def Ck.chars : Ck → List Nat
 | .pl c => [c]
 | .es c => [92, c]
 | .qu c => [34, c, 34]
noncomputable def Ck.ok : Ck → Prop
 | .pl c => c ≠ 34 ∧ c ≠ 92
 | .es _ => True
 | .qu c => c ≠ 34 ∧ c ≠ 92
noncomputable def Ck.open : Ck → Bool
 | .qu _ => false
 | _ => true
noncomputable def cks (l : List Ck) : List Nat := l.flatMap Ck.chars
theorem kj (x : Ck) (l : List Ck) : cks (x :: l) = x.chars ++ cks l := rfl
theorem nG (a b : List Ck) : cks (a ++ b) = cks a ++ cks b := by unfold cks; rw [fe]
noncomputable def Ck.items (p : Nat) : Ck → List (Nat × List Nat)
 | .pl c => [(p, [c])]
 | .es c => [(p + 1, [92, c])]
 | .qu c => [(p, [34]), (p + 1, [c]), (p + 2, [34])]
noncomputable def lz : Nat → List Ck → List (Nat × List Nat)
 | _, [] => []
 | p, x :: r => x.items p ++ lz (p + x.chars.length) r
theorem nf : ∀ (l : List Ck) (p q : Nat), (∀ x ∈ l, x.ok) → no (cks l) p false q = lz p l
 | [], p, q, h => rfl
 | .pl c :: r, p, q, h => by
   have hc := h _ (.head _); have ih := fun q => nf r (p + 1) q fun x hx => h x (.tail _ hx); rw [kj]; show (if false = true then _ else if c = 92 then _ else _) = _
   rw [if_neg ax, if_neg hc.2]; show _ :: no (cks r) (p + 1) false p = _
   rw [ih]; rfl
 | .es c :: r, p, q, h => by
   have ih := fun q => nf r (p + 2) q fun x hx => h x (.tail _ hx); rw [kj]; show (if false = true then _ else if 92 = 92 then no (c :: cks r) (p + 1) true p else _) = _
   rw [if_neg ax, if_pos rfl]; show (if true = true then (p + 1, [92, c]) :: no (cks r) (p + 1 + 1) false (p + 1) else _) = _
   rw [if_pos rfl, ih]; rfl
 | .qu c :: r, p, q, h => by
   have hc := h _ (.head _); have ih := fun q => nf r (p + 3) q fun x hx => h x (.tail _ hx); rw [kj]; show (if false = true then _ else if 34 = 92 then _ else (p, [34]) :: no (c :: 34 :: cks r) (p + 1) false p) = _
   rw [if_neg ax, if_neg (by decide)]; show _ :: (if false = true then _ else if c = 92 then _ else (p + 1, [c]) :: no (34 :: cks r) (p + 1 + 1) false (p + 1)) = _
   rw [if_neg ax, if_neg hc.2]; show _ :: _ :: (if false = true then _ else if 34 = 92 then _ else (p + 2, [34]) :: no (cks r) (p + 2 + 1) false (p + 2)) = _
   rw [if_neg ax, if_neg (by decide), ih]; rfl
end
section
theorem qA {x : Str} {i j : Nat} (h1 : i ≤ j) (h2 : j ≤ x.cps.toList.length) : (bk x (some (i : Int)) (some (j : Int))).cps.toList = (x.cps.toList.drop i).take (j - i) := by
 rw [bT (PyProof.Rows.slice_closes (x := x) (i := i) (j := j) ⟨by exact a12, by exact a494 h1, by exact a494 h2⟩)]; simp only [bf]; rw [show ((j : Int) - (i : Int)).toNat = j - i from by exact a493]
theorem rP {x : Str} {j : Nat} (h2 : j ≤ x.cps.toList.length) : (bk x none (some (j : Int))).cps.toList = x.cps.toList.take j := by
 rw [bT (PyProof.Rows.slice_closes_to (x := x) (j := j) ⟨by exact a12, by exact a494 h2⟩)]; simp
theorem pg {x : Str} {i : Nat} (h2 : i ≤ x.cps.toList.length) : (bk x (some (i : Int)) none).cps.toList = x.cps.toList.drop i := by
 rw [bT (PyProof.Rows.slice_closes_from (x := x) (i := i) ⟨by exact a12, by exact a494 h2⟩)]; simp only [bf]; rw [show ((x.cps.toList.length : Int) - (i : Int)).toNat = x.cps.toList.length - i from by exact a493]
 rw [bt (by simp)]
end
section
noncomputable def mH (l : List Str) : List Nat := (l.map fun s => s.cps.toList).flatten
theorem oS (a b : List Str) : mH (a ++ b) = mH a ++ mH b := by unfold mH; simp
theorem qi {α : Type} {a b : List α} {n : Nat} (h : n ≤ a.length) : (a ++ b).drop n = a.drop n ++ b := cO h
theorem lZ (z : Str) : ∀ (r : List Ck) (pre : List Nat) (st : Nat) (acc : List Str) (done : List Nat), (∀ x ∈ r, x.ok) → z.cps.toList = pre ++ cks r → st ≤ pre.length → mH acc ++ pre.drop st = done →
   ∃ st' acc', (lz pre.length r).foldl (jU z) (st, none, acc) = (st', none, acc') ∧ st' ≤ z.cps.toList.length ∧ mH acc' ++ z.cps.toList.drop st' = done ++ cks (r.filter Ck.open)
 | [], pre, st, acc, done, hok, hz, hst, hd => by
   have hz' : z.cps.toList = pre := by rw [hz]; simp [cks]
   refine ⟨st, acc, rfl, by rw [hz']; exact hst, ?_⟩; rw [hz', hd]; simp [cks]
 | .pl c :: r, pre, st, acc, done, hok, hz, hst, hd => by
   have hc := hok _ (.head _); have := lZ z r (pre ++ [c]) st acc (done ++ [c]) (fun x hx => hok x (.tail _ hx)) (by rw [hz, kj]; simp [Ck.chars]) (by simp; exact a0 hst) (by rw [qi hst, ← hd]; simp); refine x23 this fun st' acc' h1 h2 h3 => ?_; refine ⟨st', acc', ?_, h2, ?_⟩
   · rw [← h1]; show (lz (pre.length + 1) r).foldl (jU z) (jU z (st, none, acc) (pre.length, [c])) = _
     have e : jU z (st, none, acc) (pre.length, [c]) = (st, none, acc) := by
       unfold jU; rw [if_neg (by intro e; injection e with e; exact hc.1 e)]
     rw [e, aw]; rfl
   rw [h3]; rw [bH, if_pos (show Ck.open _ = true from rfl), kj]; simp [Ck.chars]
 | .es c :: r, pre, st, acc, done, hok, hz, hst, hd => by
   have := lZ z r (pre ++ [92, c]) st acc (done ++ [92, c]) (fun x hx => hok x (.tail _ hx)) (by rw [hz, kj]; simp [Ck.chars]) (by simp; exact a496 hst) (by rw [qi hst, ← hd]; simp); refine x23 this fun st' acc' h1 h2 h3 => ?_; refine ⟨st', acc', ?_, h2, ?_⟩
   · rw [← h1]; show (lz (pre.length + 2) r).foldl (jU z) (jU z (st, none, acc) (pre.length + 1, [92, c])) = _
     have e : jU z (st, none, acc) (pre.length + 1, [92, c]) = (st, none, acc) := by
       unfold jU; rw [if_neg (by intro e; injection e with e; exact absurd e (by decide))]
     rw [e, aw]; rfl
   rw [h3]; rw [bH, if_pos (show Ck.open _ = true from rfl), kj]; simp [Ck.chars]
 | .qu c :: r, pre, st, acc, done, hok, hz, hst, hd => by
   have hc := hok _ (.head _); have hpl : pre.length ≤ z.cps.toList.length := by rw [hz]; simp
   have hsl : (bk z (some (st : Int)) (some (pre.length : Int))).cps.toList = pre.drop st := by
     rw [qA hst hpl, hz, qi hst, eO (by simp), bt (by simp)]
   have := lZ z r (pre ++ [34, c, 34]) (pre.length + 3) (if st ≠ pre.length then acc ++ [bk z (some (st : Int)) (some (pre.length : Int))] else acc) done (fun x hx => hok x (.tail _ hx)) (by rw [hz, kj]; simp [Ck.chars]) (by simp) (by
     rw [show (pre ++ [34, c, 34]).drop (pre.length + 3) = [] from by rw [List.drop_eq_nil_iff]; simp, bE, ← hd]
     split
     · rw [oS]; congr 1
       show [_].flatten = _
       simp [hsl]
     rename_i h
     have : st = pre.length := a495 h
     rw [this]; simp)
   refine x23 this fun st' acc' h1 h2 h3 => ?_; refine ⟨st', acc', ?_, h2, ?_⟩
   · rw [← h1]; show (lz (pre.length + 3) r).foldl (jU z) (jU z (jU z (jU z (st, none, acc) (pre.length, [34])) (pre.length + 1, [c])) (pre.length + 2, [34])) = _
     have e1 : jU z (st, none, acc) (pre.length, [34]) = (st, some pre.length, acc) := rfl; have e2 : jU z (st, some pre.length, acc) (pre.length + 1, [c]) = (st, some pre.length, acc) := by
       unfold jU; rw [if_neg (by intro e; injection e with e; exact hc.1 e)]
     rw [e1, e2, aw]; rfl
   rw [h3]; rw [bH, if_neg (by exact ax)]
end
section
theorem mo {c : Nat} : ∀ (l : List Nat) (k : Nat), jL c l k = [] ↔ c ∉ l
 | [], k => by simp [jL]
 | a :: r, k => by
   rw [lU]; by_cases h : a = c
   · rw [if_pos h]; simp [h]
   rw [if_neg h, mo r (k + 1)]; simp only [b9, not_or]; exact ⟨fun x => ⟨fun e => h e.symm, x⟩, fun x => x.2⟩
theorem hasQ_is (z : Str) : hasQ z = true ↔ 34 ∈ z.cps.toList := by
 unfold hasQ; have hq : aa "\"" = ⟨#[34]⟩ := by decide +kernel
 rw [hq, pX]; rw [ez, ← dB, dz, jl]; simp only [Nat.one_ne_zero, false_or]; rw [mo]; exact Decidable.not_not
theorem rV : ∀ (l : List Ck), 34 ∉ cks l → l.filter Ck.open = l
 | [], _ => rfl
 | x :: r, h => by
   rw [kj, an, not_or] at h; have ih := rV r h.2; cases x with
   | qu c => exact absurd (List.mem_cons_self) h.1
   | pl c => rw [bH, if_pos (show Ck.open _ = true from rfl), ih]
   | es c => rw [bH, if_pos (show Ck.open _ = true from rfl), ih]
theorem oj {z : Str} {l : List Ck} (hok : ∀ x ∈ l, x.ok) (hz : z.cps.toList = cks l) : (kR z).cps.toList = cks (l.filter Ck.open) := by
 unfold kR; by_cases h : hasQ z = true
 · rw [if_pos h]; unfold mN kx; rw [hz, nf l 0 0 hok]; refine x23 (lZ z l [] 0 [] [] hok (by rw [hz]; rfl) (ap _) rfl) fun st acc h1 h2 h3 => ?_; have h1 : (lz 0 l).foldl (jU z) (0, none, []) = (st, none, acc) := h1; rw [h1, p9]; rw [bi] at h3; rw [← h3]; split
   · rw [show ((acc ++ [bk z (some (st : Int)) none]).map fun y => y.cps.toList).flatten = mH (acc ++ [bk z (some (st : Int)) none]) from rfl, oS]
     congr 1
     show [_].flatten = _
     simp [pg h2]
   rename_i hn
   have : st = z.cps.toList.length := by
     have := kP z; have hn : ¬ st < z.length := hn; exact a497 h2 (by assumption) this
   rw [this, eJ, bE]; rfl
 rw [if_neg h, hz, rV l (fun e => h ((hasQ_is z).mpr (by rw [hz]; exact e)))]
end
section
noncomputable def ly (st : Option Int) : Ck → Option Int
 | .pl c => match st with
   | none => none
   | some n => if c = 40 then some (n + 1) else if c = 41 then (if n - 1 < 0 then none else some (n - 1)) else some n
 | _ => st
noncomputable def chkC (l : List Ck) : Bool := match l.foldl ly (some 0) with | none => false | some n => n == 0
theorem mF : ∀ (l : List Ck) (p : Nat) (st : Option Int), (∀ x ∈ l, x.open = true) → (lz p l).foldl lL st = l.foldl ly st
 | [], p, st, h => rfl
 | .qu c :: r, p, st, h => absurd (h _ (.head _)) ax
 | .es c :: r, p, st, h => by
   have ih := fun st => mF r (p + 2) st fun x hx => h x (.tail _ hx); show (lz (p + 2) r).foldl lL (lL st (p + 1, [92, c])) = r.foldl ly st
   rw [← ih]; congr 1
   cases st with
   | none => rfl
   | some n =>
     unfold lL; simp
 | .pl c :: r, p, st, h => by
   have ih := fun st => mF r (p + 1) st fun x hx => h x (.tail _ hx); show (lz (p + 1) r).foldl lL (lL st (p, [c])) = r.foldl ly (ly st (.pl c))
   rw [← ih]; congr 1
   cases st with
   | none => rfl
   | some n =>
     unfold lL ly; simp
theorem chk_cks {z : Str} {l : List Ck} (hok : ∀ x ∈ l, x.ok) (hz : z.cps.toList = cks l) : chk z = chkC (l.filter Ck.open) := by
 unfold chk chkC kx; rw [oj hok hz, nf _ 0 0 (fun x hx => hok x (bl.mp hx).1), mF _ _ _ fun x hx => (bl.mp hx).2]; all_goals (cases (l.filter Ck.open).foldl ly (some 0) <;> rfl)
end
section
noncomputable def nF (k : Nat) : List Ck := [[], [.es 41], [.es 92, .qu 40], [.es 34], [.qu 41], [.qu 40]].getD k []
noncomputable def pT (j : Nat) : Nat := [97, 65, 98, 66, 99, 67].getD j 0
theorem dress_cks : ∀ k, k < 6 → (dressL.getD k aj).cps.toList = cks (nF k) := by decide +kernel
theorem pool_cks : ∀ j, j < 6 → (km j).cps.toList = [pT j] := by decide +kernel
noncomputable def mY (o d i : Nat) : List Ck := nF ((dsOf d).getD i 0) ++ [.pl (pT ((jP o).getD i 6))]
noncomputable def ckT (o d : Nat) : Tk → List Ck
 | .ch c => [.pl c]
 | .lf i => mY o d i
theorem lj {o : Nat} (ho : o < 720) : (jP o).length = 6 := (perm_ok ⟨o, ho⟩).1
theorem kB {o : Nat} (ho : o < 720) {i : Nat} (hi : i < 6) : (jP o).getD i 6 < 6 := by
 have h := (perm_ok ⟨o, ho⟩).2.1; have hl : i < (jP o).length := by rw [lj ho]; exact hi
 rw [ab, ac hl]; exact ei.mp (aA.mp h _ (bG hl))
theorem th (d : Nat) {i : Nat} (hi : i < 6) : (dsOf d).getD i 0 < 6 := by
 have h := fun a => bR a (show 6 > 0 by decide)
 revert hi; generalize i = j; revert j
 exact lt6 (h _) (h _) (h _) (h _) (h _) (h _)
theorem ls_get {o d i : Nat} (ho : o < 720) (hi : i < 6) : (mJ o d)[i]? = some (dressL.getD ((dsOf d).getD i 0) aj ++ km ((jP o).getD i 6)) := by
 have hl : i < (jP o).length := by rw [lj ho]; exact hi
 have hd : i < (dsOf d).length := hi; rw [ls_is, r6, jj, ar, ac hl, ac hd]; simp only [fK, ab, ac hl, ac hd, dW]
theorem leaf_cks {o d i : Nat} (ho : o < 720) (hi : i < 6) : ((mJ o d).getD i aj).cps.toList = cks (mY o d i) := by
 rw [ab, ls_get ho hi, dW, lr, dress_cks _ (th d hi), pool_cks _ (kB ho hi)]; unfold mY; rw [nG]; rfl
theorem r7 {o d : Nat} (ho : o < 720) : (mJ o d).length = 6 := by
 rw [ls_is, r6, gC, al, lj ho]; rfl
end
section
noncomputable def Tr.lastLeaf : Tr → Nat
 | .leaf i => i
 | .node _ _ r _ => r.lastLeaf
noncomputable def sgC (b : Bool) : Nat := if b then 43 else 42
noncomputable def sgS (b : Bool) : Str := ⟨#[sgC b]⟩
noncomputable def Tr.setSg (k : Nat) : Tr → Tr
 | .leaf i => .leaf i
 | .node _ l r mid => .node (sgS (k.testBit mid)) (l.setSg k) (r.setSg k) mid
noncomputable def nodeR (l r : Tr) : Tr := .node (sgS false) l r l.lastLeaf
noncomputable def kb (st : Nat × List Tr) (size : Nat) : Nat × List Tr :=
 (st.1 / size, st.2.take (st.1 % size) ++ [nodeR (st.2.getD (st.1 % size) (.leaf 6)) (st.2.getD (st.1 % size + 1) (.leaf 6))] ++ st.2.drop (st.1 % size + 2))
noncomputable def nD : List Tr := [.leaf 0, .leaf 1, .leaf 2, .leaf 3, .leaf 4, .leaf 5]
noncomputable def j8 (g : Nat) : Tr := ([5, 4, 3, 2, 1].foldl kb (g, nD)).2.getD 0 (.leaf 6)
noncomputable def jX (g k : Nat) : Tr := (j8 g).setSg k
noncomputable def Tr.toks : Tr → List Tk
 | .leaf i => [.lf i]
 | .node sg l r _ => .ch 40 :: (l.toks ++ .ch (sg.cps.getD 0 0) :: (r.toks ++ [.ch 41]))
noncomputable def Tr.toksQ : Tr → List Tk
 | .leaf i => [.lf i]
 | .node _ l r _ => .ch 40 :: (l.toksQ ++ .ch 63 :: (r.toksQ ++ [.ch 41]))
noncomputable def Tr.io : Tr → Nat → Nat → Prop
 | .leaf i, a, b => i = a ∧ i = b
 | .node _ l r mid, a, b => l.io a mid ∧ r.io (mid + 1) b
noncomputable def Tr.ioB : Tr → Nat → Nat → Bool
 | .leaf i, a, b => cj i a && cj i b
 | .node _ l r mid, a, b => l.ioB a mid && r.ioB (mid + 1) b
theorem rr : ∀ {t : Tr} {a b : Nat}, t.ioB a b = true → t.io a b
 | .leaf i, a, b, h => by
   obtain ⟨h1, h2⟩ := aU.mp h; exact ⟨bY h1, bY h2⟩
 | .node _ l r mid, a, b, h => by
   obtain ⟨h1, h2⟩ := aU.mp h; exact ⟨rr h1, rr h2⟩
theorem lT : (ae 120).all (fun g => (j8 g).ioB 0 5) = true := by decide +kernel
theorem jy {n : Nat} {p : Nat → Bool} (h : (ae n).all p = true) {i : Nat} (hi : i < n) : p i = true := aA.mp h i (az.mpr hi)
theorem na : ∀ {t : Tr} {a b : Nat}, t.io a b → a ≤ b
 | .leaf _, _, _, ⟨h1, h2⟩ => by exact a394 h1 h2
 | .node _ l r mid, _, _, ⟨h1, h2⟩ => by have := na h1; have := na h2; exact a393 (by assumption) this
theorem qb : ∀ {t : Tr} {a b : Nat}, t.io a b → t.nodes + a = b
 | .leaf _, _, _, ⟨h1, h2⟩ => by show 0 + _ = _; exact a392 h1 h2
 | .node _ l r mid, _, _, ⟨h1, h2⟩ => by
   have := qb h1; have := qb h2; show l.nodes + r.nodes + 1 + _ = _; exact a391 (by assumption) this
theorem oH : ∀ t : Tr, t.dep ≤ t.nodes
 | .leaf _ => ap _
 | .node _ l r _ => by
   have := oH l; have := oH r; show max l.dep r.dep + 1 ≤ l.nodes + r.nodes + 1; exact a390 (by assumption) this
theorem l0 : ∀ t : Tr, t.size = 2 * t.nodes + 1
 | .leaf _ => rfl
 | .node _ l r _ => by
   have := l0 l; have := l0 r; show l.size + r.size + 1 = 2 * (l.nodes + r.nodes + 1) + 1; exact a389 (by assumption) this
theorem rt (k : Nat) {n : Nat} : ∀ {t : Tr} {a b : Nat}, t.io a b → b < n → (t.setSg k).fits n
 | .leaf i, _, _, ⟨h1, h2⟩, hb => by show i < n; exact a388 h2 hb
 | .node _ l r mid, a, b, ⟨h1, h2⟩, hb => by
   have := na h2; refine ⟨?_, rt k h1 (a387 hb this), rt k h2 hb, by exact a387 hb this⟩; unfold sgS; rfl
noncomputable def qW : List Nat → List Tk → List Tk
 | _, [] => []
 | [], t :: r => if t = .ch 63 then [] else t :: qW [] r
 | s :: ss, t :: r => if t = .ch 63 then .ch s :: qW ss r else t :: qW (s :: ss) r
theorem splT_ne (acc l : List Tk) : qV acc l ≠ [] := by
 cases l with
 | nil => simp [qV]
 | cons t r =>
   unfold qV; split
   · simp
   exact splT_ne _ r
theorem q6 : ∀ (l acc : List Tk) (ss : List Nat), ((qV acc l).getD 0 []) ++ (cY (fun c p => .ch c :: p) ss ((qV acc l).drop 1)).flatten = acc ++ qW ss l
 | [], acc, ss => by
   cases ss <;> simp [qV, qW]
 | t :: r, acc, ss => by
   unfold qV; by_cases h : t = .ch 63
   · rw [if_pos h]; cases ss with
     | nil => simp [qW, h]
     | cons s ss =>
       have ih := q6 r [] ss; refine x21 (List.exists_cons_of_ne_nil (splT_ne [] r)) fun x ys e => ?_; rw [e] at ih ⊢; simp only [jn, ff, iK, bi] at ih; simp only [jn, ff, iK, fO, cu, aY]; rw [ih]; simp [qW, h]
   rw [if_neg h, q6 r (acc ++ [t]) ss]; cases ss <;> simp [qW, h]
theorem q8 {t : Tk} (h : t ≠ .ch 63) (ss : List Nat) (r : List Tk) : qW ss (t :: r) = t :: qW ss r := by
 cases ss <;> simp [qW, h]
theorem sgn_drop {k i : Nat} (hi : i < 5) : (sgn k).drop i = sgC (k.testBit i) :: (sgn k).drop (i + 1) := by
 revert hi; generalize i = j; revert j
 exact lt5 rfl rfl rfl rfl rfl
theorem pS (k : Nat) : ∀ {t : Tr} {a b : Nat} (rest : List Tk), t.io a b → b ≤ 5 → qW ((sgn k).drop a) (t.toksQ ++ rest) = (t.setSg k).toks ++ qW ((sgn k).drop b) rest
 | .leaf i, a, b, rest, ⟨h1, h2⟩, hb => by
   have : a = b := a386 h1 h2
   subst this; exact q8 (by intro e; cases e) _ _
 | .node _ l r mid, a, b, rest, ⟨h1, h2⟩, hb => by
   have := na h2; show qW _ (.ch 40 :: ((l.toksQ ++ .ch 63 :: (r.toksQ ++ [.ch 41])) ++ rest)) = (.ch 40 :: ((l.setSg k).toks ++ .ch (sgC (k.testBit mid)) :: ((r.setSg k).toks ++ [.ch 41]))) ++ _
   rw [q8 (by decide), dn, pS k _ h1 (qv hb this), sgn_drop (show mid < 5 by exact a384 hb this)]
   rw [aY, qW, if_pos rfl, dn, pS k _ h2 hb]; rw [aY, q8 (by decide)]; simp
theorem glueT_is (l r : Tr) : glueT l.toksQ r.toksQ = (nodeR l r).toksQ := by
 show [Tk.ch 40] ++ l.toksQ ++ [.ch 63] ++ r.toksQ ++ [.ch 41] = .ch 40 :: (l.toksQ ++ .ch 63 :: (r.toksQ ++ [.ch 41]))
 simp
theorem k5 (st : Nat × List (List Tk)) (tt : Nat × List Tr) (size : Nat) (h1 : st.1 = tt.1) (h2 : st.2 = tt.2.map Tr.toksQ) (h3 : tt.1 % size + 1 < tt.2.length) :
   (kH st size).1 = (kb tt size).1 ∧ (kH st size).2 = (kb tt size).2.map Tr.toksQ := by
 unfold kH kb; refine ⟨by rw [h1], ?_⟩; have hh : ∀ i, i < tt.2.length → (tt.2.map Tr.toksQ).getD i [] = (tt.2.getD i (.leaf 6)).toksQ := fun i hi => by
   rw [ab, ab, ar, ac hi]; rfl
 simp only [aM, i4, gG, ag, b6, h1, h2]; rw [hh _ (a148 h3), hh _ h3, glueT_is]
theorem kh {st : Nat × List Tr} {size : Nat} (h : st.2.length = size + 1) (h0 : 0 < size) : (kb st size).2.length = size := by
 have := bR st.1 h0; unfold kb; simp [h]; exact a383 this
theorem sR (g : Nat) : (mV g leavesT).2 = ([5, 4, 3, 2, 1].foldl kb (g, nD)).2.map Tr.toksQ ∧ ([5, 4, 3, 2, 1].foldl kb (g, nD)).2.length = 1 := by
 have lt : ∀ (st : Nat × List Tr) (size : Nat), st.2.length = size + 1 → 0 < size → st.1 % size + 1 < st.2.length := fun st size h h0 => by
   have := bR st.1 h0; exact a382 h this
 have l6 : ((g, nD) : Nat × List Tr).2.length = 5 + 1 := rfl; have s5 := k5 (g, leavesT) (g, nD) 5 rfl rfl (lt _ 5 l6 (by decide)); have l5 := kh l6 (by decide); have s4 := k5 _ _ 4 s5.1 s5.2 (lt _ 4 l5 (by decide)); have l4 := kh l5 (by decide); have s3 := k5 _ _ 3 s4.1 s4.2 (lt _ 3 l4 (by decide)); have l3 := kh l4 (by decide); have s2 := k5 _ _ 2 s3.1 s3.2 (lt _ 2 l3 (by decide)); have l2 := kh l3 (by decide); have s1 := k5 _ _ 1 s2.1 s2.2 (lt _ 1 l2 (by decide)); exact ⟨s1.2, kh l2 (by decide)⟩
theorem qZ {g : Nat} (hg : g < 120) (k : Nat) : rM g k = (jX g k).toks := by
 unfold rM lY; rw [q6, bi]; obtain ⟨h1, h2⟩ := sR g; have e : (mV g leavesT).2.getD 0 [] = (j8 g).toksQ := by
   rw [h1]; unfold j8; match ([5, 4, 3, 2, 1].foldl kb (g, nD)).2, h2 with
   | [x], _ => rfl
 rw [e]; have := pS k (t := j8 g) [] (rr (jy lT hg)) (ap _); rw [iK, bE] at this; rw [this]; have e2 : qW ((sgn k).drop 5) [] = [] := by cases (sgn k).drop 5 <;> rfl
 rw [e2, bE]; rfl
end
section
noncomputable def Ck.fine : Ck → Bool
 | .pl c => c != 34 && c != 92
 | .es c => c != 42 && c != 43
 | .qu c => c != 42 && c != 43 && c != 34 && c != 92
noncomputable def Ck.still : Ck → Bool
 | .pl c => c != 40 && c != 41 && c != 42 && c != 43
 | _ => true
theorem rx {x : Ck} (h : x.fine = true) : x.ok := by
 cases x with
 | pl c => simpa [Ck.fine, Ck.ok] using h
 | es c => trivial
 | qu c =>
   simp [Ck.fine] at h
   exact ⟨h.1.2, h.2⟩
theorem sK {x : Ck} (h : x.still = true) (st : Option Int) : ly st x = st := by
 cases x with
 | pl c =>
   simp [Ck.still] at h
   cases st with
   | none => rfl
   | some n => simp [ly, h.1.1.1, h.1.1.2]
 | es c => rfl
 | qu c => rfl
theorem oY : ∀ {l : List Ck}, (∀ x ∈ l, x.still = true) → ∀ st, l.foldl ly st = st
 | [], _, st => rfl
 | x :: r, h, st => by
   rw [aR, sK (h _ (.head _))]; exact oY (fun y hy => h y (.tail _ hy)) st
theorem mS : ∀ (l : List Ck) (st : Option Int), (l.filter Ck.open).foldl ly st = l.foldl ly st
 | [], st => rfl
 | .pl c :: r, st => by rw [bH, if_pos (show Ck.open _ = true from rfl), aR, aR, mS r]
 | .es c :: r, st => by rw [bH, if_pos (show Ck.open _ = true from rfl), aR, aR, mS r]
 | .qu c :: r, st => by rw [bH, if_neg (by exact ax), aR, mS r]; rfl
theorem qm {z : Str} {l : List Ck} (hok : ∀ x ∈ l, x.fine = true) (hz : z.cps.toList = cks l) : chk z = match l.foldl ly (some 0) with | none => false | some n => n == 0 := by
 rw [chk_cks (fun x hx => rx (hok x hx)) hz]; unfold chkC; rw [mS]; all_goals (cases l.foldl ly (some 0) <;> rfl)
noncomputable def Deep (st : Option Int) (l : List Ck) : Prop := ∀ pre c post, l = pre ++ .pl c :: post → (c = 42 ∨ c = 43) → ∃ n : Int, 1 ≤ n ∧ pre.foldl ly st = some n
theorem nX {st : Option Int} : ∀ {a b : List Ck}, Deep st a → Deep (a.foldl ly st) b → Deep st (a ++ b) := by
 intro a b ha hb pre c post e hc; rcases List.append_eq_append_iff.mp e with ⟨w, h1, h2⟩ | ⟨w, h1, h2⟩
 · refine x12 (hb w c post h2 hc) fun n hn hf => ?_; refine ⟨n, hn, ?_⟩; rw [h1, ct]; exact hf
 cases w with
 | nil =>
   rw [bE] at h1; refine x12 (hb [] c post h2.symm hc) fun n hn hf => ?_; exact ⟨n, hn, by rw [← h1]; exact hf⟩
 | cons y w =>
   rw [aY] at h2; injection h2 with h2 h3
   subst h2; exact ha pre c w h1 hc
theorem sv {st : Option Int} {x : Ck} (h : ∀ c, x = .pl c → ¬ (c = 42 ∨ c = 43)) : Deep st [x] := by
 intro pre c post e hc; cases pre with
 | nil => injection e with e _; exact absurd hc (h c e)
 | cons y pre => injection e with _ e; simp at e
theorem deep_sign {n : Int} (hn : 1 ≤ n) (c : Nat) : Deep (some n) [.pl c] := by
 intro pre c' post e hc; cases pre with
 | nil => exact ⟨n, hn, rfl⟩
 | cons y pre => injection e with _ e; simp at e
theorem tA : ∀ {l : List Ck} (st : Option Int), (∀ x ∈ l, x.still = true) → Deep st l := by
 intro l st h pre c post e hc; have := h (.pl c) (by rw [e]; simp); simp [Ck.still] at this
 rcases hc with rfl | rfl
 · exact absurd rfl this.1.2
 exact absurd rfl this.2
noncomputable def Tr.ck (o d : Nat) : Tr → List Ck
 | .leaf i => mY o d i
 | .node sg l r _ => [.pl 40] ++ (l.ck o d ++ ([.pl (sg.cps.getD 0 0)] ++ (r.ck o d ++ [.pl 41])))
theorem tu : ∀ k, k < 6 → (nF k).all (fun x => x.fine && x.still) = true := by decide +kernel
theorem pool_fine : ∀ j, j < 6 → ((Ck.pl (pT j)).fine && (Ck.pl (pT j)).still) = true := by decide +kernel
theorem mX {o d i : Nat} (ho : o < 720) (hi : i < 6) : ∀ x ∈ mY o d i, x.fine = true ∧ x.still = true := by
 intro x hx; rcases mAp hx with h | h
 · exact aU.mp (aA.mp (tu _ (th d hi)) x h)
 rw [mSg h]; exact aU.mp (pool_fine _ (kB ho hi))
theorem sgC_is (b : Bool) : sgC b = 42 ∨ sgC b = 43 := by cases b <;> simp [sgC]
theorem mG (o d k : Nat) (sg : Str) (l r : Tr) (mid : Nat) : (Tr.setSg k (.node sg l r mid)).ck o d = [.pl 40] ++ ((l.setSg k).ck o d ++ ([.pl (sgC (k.testBit mid))] ++ ((r.setSg k).ck o d ++ [.pl 41]))) := rfl
theorem lR {o d : Nat} (ho : o < 720) (k : Nat) : ∀ {t : Tr} {a b : Nat}, t.io a b → b ≤ 5 → ∀ x ∈ (t.setSg k).ck o d, x.fine = true
 | .leaf i, a, b, ⟨h1, h2⟩, hb, x, hx => (mX ho (a404 h2 hb) x hx).1
 | .node sg l r mid, a, b, ⟨h1, h2⟩, hb, x, hx => by
   have := na h2; rw [mG] at hx; simp only [an, cm] at hx; rcases hx with h | h | h | h | h
   · rw [h]; rfl
   · exact lR ho k h1 (qv hb this) x h
   · rw [h]; rcases sgC_is (k.testBit mid) with e | e <;> rw [e] <;> rfl
   · exact lR ho k h2 hb x h
   rw [h]; rfl
theorem qz (n : Int) : ly (some n) (.pl 40) = some (n + 1) := rfl
theorem sL {n : Int} (h : 0 ≤ n) : ly (some (n + 1)) (.pl 41) = some n := by
 have h1 : ¬ n + 1 - 1 < 0 := a406 h
 simp only [ly]; rw [if_neg (by decide), if_pos trivial, if_neg h1, show n + 1 - 1 = n from by exact a405]
theorem qy (n : Int) (b : Bool) : ly (some n) (.pl (sgC b)) = some n := by cases b <;> rfl
theorem lQ {o d : Nat} (ho : o < 720) (k : Nat) : ∀ {t : Tr} {a b : Nat}, t.io a b → b ≤ 5 → ∀ {n : Int}, 0 ≤ n → ((t.setSg k).ck o d).foldl ly (some n) = some n
 | .leaf i, a, b, ⟨h1, h2⟩, hb, n, hn => oY (fun x hx => (mX ho (a404 h2 hb) x hx).2) _
 | .node sg l r mid, a, b, ⟨h1, h2⟩, hb, n, hn => by
   have := na h2; rw [mG]; simp only [ct, aR, dY]; rw [qz, lQ ho k h1 (qv hb this) (a401 hn), qy, lQ ho k h2 hb (a401 hn), sL hn]
theorem nZ {o d : Nat} (ho : o < 720) (k : Nat) : ∀ {t : Tr} {a b : Nat}, t.io a b → b ≤ 5 → ∀ {n : Int}, 0 ≤ n → Deep (some n) ((t.setSg k).ck o d)
 | .leaf i, a, b, ⟨h1, h2⟩, hb, n, hn => tA _ (fun x hx => (mX ho (a404 h2 hb) x hx).2)
 | .node sg l r mid, a, b, ⟨h1, h2⟩, hb, n, hn => by
   have := na h2; rw [mG]; refine nX (sv (by intro c e; injection e with e; exact a403 e)) ?_
   rw [aR, dY, qz]; refine nX (nZ ho k h1 (qv hb this) (a401 hn)) ?_; rw [lQ ho k h1 (qv hb this) (a401 hn)]; refine nX (deep_sign (a402 hn) _) ?_; rw [aR, dY, qy]; refine nX (nZ ho k h2 hb (a401 hn)) ?_; exact sv (by intro c e; injection e with e; exact a400 e)
theorem sign_at : ∀ {l : List Ck} {q c : Nat}, (∀ x ∈ l, x.fine = true) → (cks l)[q]? = some c → (c = 42 ∨ c = 43) → ∃ pre post, l = pre ++ .pl c :: post ∧ cks pre = (cks l).take q
 | [], q, c, hf, hq, hc => by simp [cks] at hq
 | x :: r, q, c, hf, hq, hc => by
   rw [kj] at hq; by_cases hl : q < x.chars.length
   · rw [dj hl] at hq; have hx := hf _ (.head _); cases x with
     | pl c' =>
       have : q = 0 := by simp [Ck.chars] at hl; exact hl
       subst this; simp [Ck.chars] at hq
       subst hq; exact ⟨[], r, rfl, rfl⟩
     | es c' =>
       exfalso
       have : c ∈ Ck.chars (.es c') := av hq; simp [Ck.chars] at this
       simp [Ck.fine] at hx
       exact a399 hc this hx
     | qu c' =>
       exfalso
       have : c ∈ Ck.chars (.qu c') := av hq; simp [Ck.chars] at this
       simp [Ck.fine] at hx
       exact a398 hc this hx
   rw [bb (a349 hl)] at hq; refine x22 (sign_at (fun y hy => hf y (.tail _ hy)) hq hc) fun pre post h1 h2 => ?_; refine ⟨x :: pre, post, by rw [h1]; rfl, ?_⟩; rw [kj, kj, h2, hU, bt (l := x.chars) (a349 hl)]
theorem pB {x : Str} {c : Nat} {r : List Nat} (h : x.cps.toList = c :: r) : dp x 0 = ⟨#[c]⟩ := by
 have e : x = ⟨(c :: r).toArray⟩ ++ ⟨#[]⟩ := om (by rw [lr, h]; simp); rw [e]; exact PyProof.Rows.item_zero_left c r _
theorem item_last {x : Str} {c : Nat} {r : List Nat} (h : x.cps.toList = r ++ [c]) : dp x (-1) = ⟨#[c]⟩ := by
 have e : x = ⟨r.toArray⟩ ++ ⟨([] ++ [c]).toArray⟩ := om (by rw [lr, h]; show _ = r.toArray.toList ++ ([] ++ [c]).toArray.toList; simp)
 rw [e]; exact PyProof.Rows.item_last_right _ [] c
theorem inside_is {x : Str} {c e : Nat} {m : List Nat} (h : x.cps.toList = c :: (m ++ [e])) : (inside x).cps.toList = m := by
 have hl : x.length = m.length + 2 := by rw [kP, h]; simp
 unfold inside; have e1 : bk x (some 1) (some (-1)) = bk x (some 1) (some (-1 + x.length)) := StrLaws.sliceText_neg_hi x (some 1) (by decide) (a397 hl); rw [e1, show (-1 + (x.length : Int)) = ((m.length + 1 : Nat) : Int) from by exact a396 hl]
 have := qA (x := x) (i := 1) (j := m.length + 1) (a395) (by rw [h]; simp); have hc : ((1 : Nat) : Int) = 1 := rfl; rw [hc] at this; rw [this, h]; simp
theorem isOp_is (c : Nat) : isOp ⟨#[c]⟩ = true ↔ (c = 42 ∨ c = 43) := by
 have hq : (aa "*+").cps.toList = [42, 43] := by decide +kernel
 unfold isOp; rw [pX, ez, ← dB, dz, jl]; simp only [Nat.one_ne_zero, false_or]; rw [mo, hq]; simp only [b9, cH, or_false]; exact Decidable.not_not
theorem sgAt_is {x : Str} {q c : Nat} (h : x.cps.toList[q]? = some c) : sgAt x q = ⟨#[c]⟩ := by
 unfold sgAt; have : x.cps.getD q 0 = c := by
   rw [dM] at h; rw [fg, h]; rfl
 rw [this]
end
section
theorem rE (c : Nat) : cks [.pl c] = [c] := rfl
theorem q3 {o d : Nat} (ho : o < 720) (k : Nat) : ∀ {t : Tr} {a b : Nat}, t.io a b → b ≤ 5 → ex (mJ o d) (t.setSg k).toks = cks ((t.setSg k).ck o d)
 | .leaf i, a, b, ⟨h1, h2⟩, hb => by
   show ex1 (mJ o d) (.lf i) ++ [] = cks (mY o d i)
   rw [bE]; exact leaf_cks ho (a404 h2 hb)
 | .node sg l r mid, a, b, ⟨h1, h2⟩, hb => by
   have := na h2; rw [mG]; show ex (mJ o d) ([.ch 40] ++ ((l.setSg k).toks ++ ([.ch (sgC (k.testBit mid))] ++ ((r.setSg k).toks ++ [.ch 41])))) = _
   simp only [pG, nG, q3 ho k h1 (show mid ≤ 5 by exact qv hb this), q3 ho k h2 hb]
   rfl
noncomputable def Tr.rdT (o : Nat) : Tr → List Str
 | .leaf i => [km ((jP o).getD i 6)]
 | .node _ l r _ => l.rdT o ++ r.rdT o
theorem q9 (o : Nat) : ∀ {t : Tr} {a b : Nat}, t.io a b → (t.rdT o).length + a = b + 1
 | .leaf i, a, b, ⟨h1, h2⟩ => by show 1 + a = b + 1; exact a422 h1 h2
 | .node sg l r mid, a, b, ⟨h1, h2⟩ => by
   have := q9 o h1; have := q9 o h2; show (l.rdT o ++ r.rdT o).length + a = b + 1
   rw [aw]; exact a421 (by assumption) this
theorem rdT_is (o : Nat) : ∀ {t : Tr} {a b : Nat}, t.io a b → t.rdT o = (bC a (b + 1 - a)).map fun i => km ((jP o).getD i 6)
 | .leaf i, a, b, ⟨h1, h2⟩ => by
   have : b + 1 - a = 1 := a420 h1 h2
   rw [this, ← h1]; rfl
 | .node sg l r mid, a, b, ⟨h1, h2⟩ => by
   have := na h1; have := na h2; show l.rdT o ++ r.rdT o = _
   rw [rdT_is o h1, rdT_is o h2, ← aM]; congr 1
   have e : b + 1 - a = (mid + 1 - a) + (b + 1 - (mid + 1)) := by exact a419 (by assumption) this
   rw [e, ← gi]; congr 2
   exact a418 (by assumption)
theorem nT : ∀ j, j < 6 → km j = ⟨#[pT j]⟩ := by decide +kernel
theorem sU : ∀ k, k < 6 → ∀ j, j < 6 → (match cks (nF k ++ [.pl (pT j)]) with | [] => false | c :: _ => c != 40) = true := by decide +kernel
theorem pW : aa "(" = ⟨#[40]⟩ := by decide +kernel
theorem not_paren {c : Nat} (h : c ≠ 40) : ((⟨#[c]⟩ : Str) == aa "(") = false := by
 rw [pW]; refine beq_eq_false_iff_ne.mpr fun e => h ?_; injection e with e
 have := congrArg gV e; injection this
theorem nx {o d : Nat} (ho : o < 720) (k : Nat) : ∀ {t : Tr} {a b : Nat}, t.io a b → b ≤ 5 → ∀ {x : Str} {rd : List Str}, x.cps.toList = cks ((t.setSg k).ck o d) → rd.length = a → Parse x rd (t.setSg k) (rd ++ t.rdT o)
 | .leaf i, a, b, ⟨h1, h2⟩, hb, x, rd, hx, hr => by
   have hi : i < 6 := a404 h2 hb
   have hx : x.cps.toList = cks (mY o d i) := hx; have hf := sU _ (th d hi) _ (kB ho hi); have hok := fun y hy => rx (mX (d := d) ho hi y hy).1; have hs := oj hok hx; unfold mY at hs hx; rw [cI, nG] at hs; have hs : (kR x).cps.toList = _ ++ [pT ((jP o).getD i 6)] := hs; rw [← hx] at hf; have e : dp (kR x) (-1) = km ((jP o).getD i 6) := by rw [item_last hs, nT _ (kB ho hi)]
   have er : i = rd.length := a417 h1 hr
   show Parse x rd (.leaf i) (rd ++ [km ((jP o).getD i 6)])
   rw [← e, er]; match hh : x.cps.toList, hf with
   | c :: m, hf =>
     refine .leaf (by rw [kP, hh]; simp) (by rw [kP, hs]; simp) ?_; rw [pB hh]; exact not_paren (bne_iff_ne.mp hf)
 | .node sg l r mid, a, b, ⟨h1, h2⟩, hb, x, rd, hx, hr => by
   have hm := na h2; have hm1 := na h1; rw [mG] at hx; generalize hL : (l.setSg k).ck o d = L at hx; generalize hRr : (r.setSg k).ck o d = R at hx; have hLf : ∀ y ∈ L, y.fine = true := by rw [← hL]; exact lR ho k h1 (qv hb hm)
   have hx' : x.cps.toList = 40 :: ((cks L ++ (sgC (k.testBit mid) :: cks R)) ++ [41]) := by
     rw [hx]; simp only [nG, rE]; simp
   have hin := inside_is hx'; have hlen : (inside x).length = (cks L).length + ((cks R).length + 1) := by rw [kP, hin]; simp
   have hsg : (inside x).cps.toList[(cks L).length]? = some (sgC (k.testBit mid)) := by
     rw [hin, bb (ap _), Nat.sub_self]; rfl
   have hsgS : sgAt (inside x) (cks L).length = sgS (k.testBit mid) := sgAt_is hsg; have hpl : (bk (inside x) none (some ((cks L).length : Int))).cps.toList = cks L := by
     rw [rP (by rw [← kP, hlen]; exact a327), hin, List.take_left]
   have hpr : (bk (inside x) (some (((cks L).length : Int) + 1)) none).cps.toList = cks R := by
     have := pg (x := inside x) (i := (cks L).length + 1) (by rw [← kP, hlen]; exact a416); rw [show (((cks L).length + 1 : Nat) : Int) = ((cks L).length : Int) + 1 from by exact a415] at this
     rw [this, hin, List.drop_append, jc (a414), show (cks L).length + 1 - (cks L).length = 1 from by exact a413]; rfl
   have hl := nx (d := d) ho k h1 (qv hb hm) (rd := rd) (by rw [hpl, hL]) hr; have hrl : (rd ++ l.rdT o).length = mid + 1 := by
     have := q9 o h1; rw [aw]; exact a412 hr this
   have hr2 := nx (d := d) ho k h2 hb (rd := rd ++ l.rdT o) (by rw [hpr, hRr]) hrl; show Parse x rd (.node (sgS (k.testBit mid)) (l.setSg k) (r.setSg k) mid) (rd ++ (l.rdT o ++ r.rdT o))
   rw [← dn, ← hsgS, show mid = (rd ++ l.rdT o).length - 1 from by exact a411 hrl]
   refine .node (cks L).length (by rw [kP, hx']; simp) ?_ (a410 hlen) ?_ ?_ ?_ hl hr2 (a258 hrl)
   · rw [pB hx', pW]; exact beq_self_eq_true _
   · intro q hq hop; have hq1 : q < (cks L).length := hq; have hc : (cks L)[q]? = some ((cks L)[q]) := ac hq1; have hc2 : (inside x).cps.toList[q]? = some ((cks L)[q]) := by rw [hin, dj hq1]; exact hc
     rw [sgAt_is hc2, isOp_is] at hop; refine x22 (sign_at hLf hc hop) fun pre post e1 e2 => ?_; refine x12 ((hL ▸ nZ (d := d) ho k h1 (qv hb hm) (Int.le_refl 0)) pre _ post e1 hop) fun n hn hfd => ?_; have hs : (bk (inside x) none (some (q : Int))).cps.toList = cks pre := by
       rw [rP (by rw [← kP, hlen]; exact a409 hq), hin, e2, eO (a408 hq)]
     rw [qm (fun y hy => hLf y (by rw [e1]; exact eQ _ hy)) hs, hfd]; show (n == 0) = false
     exact beq_eq_false_iff_ne.mpr (a407 hn)
   · rw [hsgS, sgS, isOp_is]; exact sgC_is _
   rw [qm hLf hpl, ← hL, lQ ho k h1 (qv hb hm) (Int.le_refl 0)]; rfl
end
section
noncomputable def oU (k j : Nat) : Str := dressL.getD k aj ++ km j
theorem ls_at {o d i : Nat} (ho : o < 720) (hi : i < 6) : (mJ o d)[i]? = some (oU ((dsOf d).getD i 0) ((jP o).getD i 6)) := ls_get ho hi
theorem ls_mem {o d : Nat} (ho : o < 720) {P : Str → Prop} (h : ∀ k, k < 6 → ∀ j, j < 6 → P (oU k j)) : ∀ y ∈ mJ o d, P y := by
 intro y hy; obtain ⟨i, hi, rfl⟩ := bn.mp hy; have hi' : i < 6 := by rw [r7 ho] at hi; exact hi
 have := ls_at (d := d) ho hi'; rw [ac hi] at this; injection this with this
 rw [this]; exact h _ (th d hi') _ (kB ho hi')
noncomputable def mj (o : Nat) : List Str := (jP o).map km
theorem nJ {o : Nat} (ho : o < 720) : (mj o).length = 6 := by unfold mj; rw [al, lj ho]
theorem list6 {l : List Nat} (h : l.length = 6) : (bC 0 6).map (fun i => l.getD i 6) = l :=
 len6 (P := fun l => (bC 0 6).map (fun i => l.getD i 6) = l) (fun _ _ _ _ _ _ => rfl) l h
theorem tree_rd {g o : Nat} (hg : g < 120) (ho : o < 720) : (j8 g).rdT o = mj o := by
 rw [rdT_is o (rr (jy lT hg))]; unfold mj; have := congrArg (List.map km) (list6 (lj ho)); rw [aT] at this; exact this
theorem text_is {o g d k : Nat} (ho : o < 720) (hg : g < 120) (hq : ∀ i, (63 : Nat) ∉ ((mJ o d).getD i aj).cps.toList) : (jY o g d k).cps.toList = cks ((jX g k).ck o d) := by
 rw [text_ex (r7 ho) hq, qZ hg]; exact q3 ho k (rr (jy lT hg)) (ap _)
theorem leaf_noq : ∀ k, k < 6 → ∀ j, j < 6 → (oU k j).cps.toList.contains 63 = false := by decide +kernel
theorem ls_noq {o d : Nat} (ho : o < 720) (i : Nat) : (63 : Nat) ∉ ((mJ o d).getD i aj).cps.toList := by
 rw [ab]; cases h : (mJ o d)[i]? with
 | none => exact fun e => by cases e
 | some y =>
   have := ls_mem (d := d) ho (P := fun y => y.cps.toList.contains 63 = false) leaf_noq y (av h); intro e; have h2 := da.mpr e; rw [dW, this] at h2; cases h2
theorem nS {o g d : Nat} (ho : o < 720) (hg : g < 120) (k : Nat) : (jY o g d k).cps.toList = cks ((jX g k).ck o d) := text_is ho hg (ls_noq ho)
theorem f_parse {o g d : Nat} (ho : o < 720) (hg : g < 120) (k : Nat) : Parse (jY o g d k) [] (jX g k) (mj o) := by
 have := nx (d := d) ho k (rr (jy lT hg)) (ap _) (nS ho hg k) (rd := []) rfl; rw [tree_rd hg ho] at this; exact this
theorem rp : ∀ k, k < 6 → ∀ j, j < 6 → (cks (nF k ++ [.pl (pT j)])).length ≤ 10 := by decide +kernel
theorem ck_len {o d : Nat} (ho : o < 720) (k : Nat) : ∀ {t : Tr} {a b : Nat}, t.io a b → b ≤ 5 → (cks ((t.setSg k).ck o d)).length ≤ 10 * t.size
 | .leaf i, a, b, ⟨h1, h2⟩, hb => rp _ (th d (a404 h2 hb)) _ (kB ho (a404 h2 hb))
 | .node sg l r mid, a, b, ⟨h1, h2⟩, hb => by
   have := na h2; have x1 := ck_len (d := d) ho k h1 (show mid ≤ 5 by exact qv hb this)
   have x2 := ck_len (d := d) ho k h2 hb; rw [mG]; simp only [nG, aw, rE, ji]; show _ ≤ 10 * (l.size + r.size + 1)
   exact a426 x1 x2
theorem kS {g : Nat} (hg : g < 120) : (j8 g).io 0 5 := rr (jy lT hg)
theorem ot {g : Nat} (hg : g < 120) : (j8 g).nodes = 5 := qb (kS hg)
theorem ox (k : Nat) : ∀ t : Tr, (t.setSg k).nodes = t.nodes
 | .leaf _ => rfl
 | .node _ l r _ => by
   show (l.setSg k).nodes + (r.setSg k).nodes + 1 = l.nodes + r.nodes + 1
   rw [ox k l, ox k r]
theorem ry {g : Nat} (hg : g < 120) (k : Nat) : (jX g k).nodes = 5 := by unfold jX; rw [ox, ot hg]
theorem f_size {g : Nat} (hg : g < 120) (k : Nat) : (jX g k).size = 11 := by rw [l0, ry hg]
theorem f_dep {g : Nat} (hg : g < 120) (k : Nat) : (jX g k).dep ≤ 6 := by have := oH (jX g k); rw [ry hg] at this; exact a425 this
theorem f_fits {g : Nat} (hg : g < 120) (k : Nat) : (jX g k).fits 6 := rt k (kS hg) (by decide)
theorem f_tlen {o g d : Nat} (ho : o < 720) (hg : g < 120) (k : Nat) : (jY o g d k).length ≤ 1000 := by
 have := ck_len (d := d) ho k (kS hg) (ap _); have h2 : (j8 g).size = 11 := by rw [l0, ot hg]
 rw [kP, nS ho hg]; unfold jX; exact a424 this h2
theorem pool_mem : ∀ j, j < 6 → km j ∈ poolL := by decide +kernel
theorem rd_mem {o : Nat} (ho : o < 720) {P : Str → Prop} (h : ∀ j, j < 6 → P (km j)) : ∀ y ∈ mj o, P y := by
 intro y hy; obtain ⟨j, hj, rfl⟩ := mMa hy; obtain ⟨i, hi, rfl⟩ := bn.mp hj; have hi' : i < 6 := by rw [lj ho] at hi; exact hi
 have := kB ho hi'; rw [ab, ac hi] at this; exact h _ this
theorem f_so (w : World) {o : Nat} (ho : o < 720) : ∀ y ∈ mj o, jN w true y := rd_mem ho fun j hj => so_pool w _ (pool_mem j hj)
theorem leaf_last {k j : Nat} (hj : j < 6) : dp (oU k j) (-1) = km j := by
 unfold oU; rw [nT j hj]; exact PyProof.Rows.item_last_right1 _ _
theorem f_last {o d : Nat} (ho : o < 720) : mj o = (mJ o d).map fun y => dp y (-1) := by
 refine List.ext_getElem? fun i => ?_; by_cases hi : i < 6
 · have hl : i < (jP o).length := by rw [lj ho]; exact hi
   rw [ar, ls_at ho hi, fK, leaf_last (kB ho hi)]; unfold mj; rw [ar, ac hl, fK, ab, ac hl, dW]
 rw [eH (by rw [nJ ho]; exact a423 hi), eH (by rw [al, r7 ho]; exact a423 hi)]
theorem leaf_lens : ∀ k, k < 6 → ∀ j, j < 6 → 1 ≤ (oU k j).length ∧ (oU k j).length ≤ 100 := by decide +kernel
theorem sV : ∀ k, k < 6 → ∀ j, j < 6 → (gq (oU k j) (aa "\"(\"") (aa "")).length ≤ 100 ∧ (bare (oU k j)).length ≤ 100 := by decide +kernel
theorem leaf_bare : ∀ k, k < 6 → ∀ j, j < 6 → (bare (oU k j)).cps.toList = cks ((nF k ++ [Ck.pl (pT j)]).filter Ck.open) := by decide +kernel
theorem np {o d : Nat} (ho : o < 720) (k : Nat) : ∀ {t : Tr} {a b : Nat}, t.io a b → b ≤ 5 → (kQ ((mJ o d).map bare) (t.setSg k)).cps.toList = cks (((t.setSg k).ck o d).filter Ck.open)
 | .leaf i, a, b, ⟨h1, h2⟩, hb => by
   have hi : i < 6 := a404 h2 hb
   show (((mJ o d).map bare).getD i aj).cps.toList = cks ((mY o d i).filter Ck.open)
   rw [ab, ar, ls_at ho hi]; exact leaf_bare _ (th d hi) _ (kB ho hi)
 | .node sg l r mid, a, b, ⟨h1, h2⟩, hb => by
   have := na h2; have x1 := np (d := d) ho k h1 (show mid ≤ 5 by exact qv hb this)
   have x2 := np (d := d) ho k h2 hb; rw [mG]; show (aa "(" ++ kQ ((mJ o d).map bare) (l.setSg k) ++ sgS (k.testBit mid) ++ kQ ((mJ o d).map bare) (r.setSg k) ++ aa ")").cps.toList = _
   have p2 : (aa ")").cps.toList = [41] := by decide +kernel
   have e : ∀ c, [Ck.pl c].filter Ck.open = [Ck.pl c] := fun c => rfl; simp only [lr, x1, x2, cI, nG, e, rE, p2, pW]; show ([40] ++ _ ++ [sgC (k.testBit mid)] ++ _) ++ [41] = _
   simp
theorem f_wr {o g d : Nat} (ho : o < 720) (hg : g < 120) (k : Nat) : kR (jY o g d k) = kQ ((mJ o d).map bare) (jX g k) := by
 refine om ?_; rw [oj (fun y hy => rx (lR (d := d) ho k (kS hg) (ap _) y hy)) (nS ho hg k)]; exact (np ho k (kS hg) (ap _)).symm
theorem f_chk {o g d : Nat} (ho : o < 720) (hg : g < 120) (k : Nat) : chk (jY o g d k) = true := by
 rw [qm (lR (d := d) ho k (kS hg) (ap _)) (nS ho hg k)]; rw [lQ ho k (kS hg) (ap _) (Int.le_refl 0)]; rfl
end
section
inductive BT where
 | lf (i : Nat)
 | nd (mid : Nat) (l r : BT)
 deriving Inhabited
noncomputable def Tr.toB : Tr → BT
 | .leaf i => .lf i
 | .node _ l r mid => .nd mid l.toB r.toB
noncomputable def BT.toTr (k : Nat) : BT → Tr
 | .lf i => .leaf i
 | .nd mid l r => .node (sgS (k.testBit mid)) (l.toTr k) (r.toTr k) mid
theorem nR (k : Nat) : ∀ t : Tr, t.toB.toTr k = t.setSg k
 | .leaf _ => rfl
 | .node _ l r mid => by
   show Tr.node _ (l.toB.toTr k) (r.toB.toTr k) mid = .node _ (l.setSg k) (r.setSg k) mid
   rw [nR k l, nR k r]
noncomputable def ku (k i : Nat) : Bool := cj (cR (eD k i) 1) 1
theorem jW (k i : Nat) : ku k i = k.testBit i := by
 have e : cR (eD k i) 1 = (k >>> i) % 2 := Nat.and_one_is_mod _; unfold ku Nat.testBit; rw [e, Nat.one_and_eq_mod_two]; rcases iU (k >>> i) with h | h <;> rw [h] <;> rfl
noncomputable def BT.ms : BT → Nat
 | .lf i => Nat.shiftLeft 1 i
 | .nd _ l r => eE l.ms r.ms
noncomputable def mskL : List BT → Nat
 | [] => 0
 | t :: r => eE t.ms (mskL r)
noncomputable def closedT : Nat := 9745016608018303582909810704535779829920048987438408311223746709269325784400050255102055737732509982894666435545130138854494872309924366828142226459499451759219703439401578480067840195593749480544224999941572636489808721824336827179117759310341188025094351114903998501420375101029778227199
noncomputable def baseT : Nat := 244746713862359630969433919284979259986739738776154813750109744654410630707442443518597205919415485655712092871706135520119223279071862156847102602281975808
noncomputable def goodM (S : Nat) : Nat := cR (eD closedT (gz 15 S)) 32767
noncomputable def qT : List BT → Nat
 | [.lf i, .lf j] => cR (eD baseT (gz 15 (Nat.add (gz 6 i) j))) 32767
 | _ => 0
noncomputable def kr (k : Nat) : List BT → Option (List BT)
 | [] => none
 | .lf i :: r => match kr k r with
   | none => none
   | some r' => some (.lf i :: r')
 | .nd mid a b :: r => match ku k mid with
   | true => some (a :: b :: r)
   | false => match kr k r with
     | none => none
     | some r' => some (.nd mid a b :: r')
noncomputable def andM : Nat → Nat → Nat
 | 0, _ => 0
 | x + 1, y => cR (x + 1) y
noncomputable def oo (g : List BT → List BT → Nat) : List BT → List BT → List BT → Nat
 | [], a, b => g a b
 | x :: r, a, b => eE (oo g r (a ++ [x]) b) (oo g r a (b ++ [x]))
noncomputable def pe (g : List BT → List BT → Nat) : List BT → List BT → Nat
 | [], a => g a []
 | x :: r, a => eE (g a (x :: r)) (pe g r (a ++ [x]))
noncomputable def tryM (f : List BT → Nat) (l r : BT) (a b : List BT) : Nat := andM (goodM (mskL (r :: a))) (andM (f (r :: a)) (f (b ++ [l])))
noncomputable def sG (rg : Bool) (f : List BT → Nat) : List BT → List BT → Nat
 | _, [] => 0
 | pre, .lf i :: post => sG rg f (pre ++ [.lf i]) post
 | pre, .nd mid l r :: post => eE (match rg with | true => pe (tryM f l r) (post ++ pre) [] | false => oo (tryM f l r) (post ++ pre) [] []) (sG rg f (pre ++ [.nd mid l r]) post)
noncomputable def prvM (k : Nat) (rg : Bool) : Nat → List BT → Nat
 | 0, ts => qT ts
 | n + 1, ts => match kr k ts with
   | some ts' => prvM k rg n ts'
   | none => eE (sG rg (prvM k rg n) [] ts) (qT ts)
noncomputable def mateT : List (List Nat) := [[1, 0, 3, 2, 5, 4], [1, 0, 4, 5, 2, 3], [1, 0, 5, 4, 3, 2], [2, 3, 0, 1, 5, 4], [2, 4, 0, 5, 1, 3], [2, 5, 0, 4, 3, 1], [3, 2, 1, 0, 5, 4], [3, 4, 5, 0, 1, 2], [3, 5, 4, 0, 2, 1], [4, 2, 1, 5, 0, 3], [4, 3, 5, 1, 0, 2], [4, 5, 3, 2, 0, 1], [5, 2, 1, 4, 3, 0], [5, 3, 4, 1, 2, 0], [5, 4, 3, 2, 1, 0]]
noncomputable def mt (u i : Nat) : Nat := (mateT.getD u []).getD i 6
theorem closed_is : (ae 64).all (fun S => (ae 15).all fun u => ku (goodM S) u == (ae 6).all fun i => !ku S i || ku S (mt u i)) = true := by decide +kernel
theorem base_is : (ae 6).all (fun i => (ae 6).all fun j => (ae 15).all fun u => ku (qT [.lf i, .lf j]) u == cj i (mt u j)) = true := by decide +kernel
theorem mt_lt : (ae 15).all (fun u => (ae 6).all fun i => dJ (mt u i) 6) = true := by decide +kernel
end
section
theorem nC (x y i : Nat) : (eE x y).testBit i = (x.testBit i || y.testBit i) := Nat.testBit_or x y i
theorem lI (x y i : Nat) : (cR x y).testBit i = (x.testBit i && y.testBit i) := iE x y i
theorem sD (x y i : Nat) : (andM x y).testBit i = (x.testBit i && y.testBit i) := by
 cases x with
 | zero => rw [bI]; exact bI i
 | succ x => exact lI (x + 1) y i
noncomputable def BT.lv : BT → List Nat
 | .lf i => [i]
 | .nd _ l r => l.lv ++ r.lv
noncomputable def lvL (ts : List BT) : List Nat := ts.flatMap BT.lv
theorem ms_bit (i : Nat) : ∀ t : BT, t.ms.testBit i = true ↔ i ∈ t.lv
 | .lf j => by
   show (1 <<< j).testBit i = true ↔ i ∈ [j]
   rw [Nat.one_shiftLeft, gF, decide_eq_true_iff, cm]; exact ⟨fun h => h.symm, fun h => h.symm⟩
 | .nd _ l r => by
   show (eE l.ms r.ms).testBit i = true ↔ i ∈ l.lv ++ r.lv
   rw [nC, cA, ms_bit i l, ms_bit i r, an]
theorem nA (i : Nat) : ∀ ts : List BT, (mskL ts).testBit i = true ↔ i ∈ lvL ts
 | [] => by
   show (0 : Nat).testBit i = true ↔ _
   rw [bI]; simp [lvL]
 | t :: r => by
   show (eE t.ms (mskL r)).testBit i = true ↔ _
   rw [nC, cA, ms_bit i t, nA i r]; simp [lvL]
theorem msk_lt {ts : List BT} (h : ∀ i ∈ lvL ts, i < 6) : mskL ts < 64 := by
 refine Nat.lt_pow_two_of_testBit (n := 6) _ fun i hi => ?_; rw [← dB, nA]; intro hm; have := h i hm; exact a433 hi this
noncomputable def Tie (rd : List Str) (u : Nat) : Prop := ∀ i, i < 6 → ∀ j, j < 6 → (rd.getD j aj == aI (rd.getD i aj)) = cj j (mt u i)
theorem lets_B (rd : List Str) (k : Nat) : ∀ t : BT, (t.toTr k).lets rd = t.lv.map fun i => rd.getD i aj
 | .lf i => rfl
 | .nd mid l r => by
   show (l.toTr k).lets rd ++ (r.toTr k).lets rd = (l.lv ++ r.lv).map _
   rw [lets_B rd k l, lets_B rd k r, aM]
theorem qJ (rd : List Str) (k : Nat) : ∀ ts : List BT, letters rd (ts.map (BT.toTr k)) = (lvL ts).map fun i => rd.getD i aj
 | [] => rfl
 | t :: r => by
   have := qJ rd k r; unfold letters lvL at *
   rw [ag, ew, ew, aM, this, lets_B]
theorem mt_six {u i : Nat} (hu : u < 15) (hi : i < 6) : mt u i < 6 := ei.mp (jy (jy mt_lt hu) hi)
theorem good_bit {rd : List Str} {u : Nat} (hu : u < 15) (T : Tie rd u) (k : Nat) {ts : List BT} (h : ∀ i ∈ lvL ts, i < 6) : (goodM (mskL ts)).testBit u = oV rd (ts.map (BT.toTr k)) := by
 have hS := msk_lt h; have hc := jy (jy closed_is hS) hu; rw [beq_iff_eq, jW] at hc; rw [hc]; unfold oV; rw [qJ, bF, aA, aA]; constructor
 · intro hh x hx; obtain ⟨i, hi, rfl⟩ := mMa hx; have hi6 := h i hi; have := hh i (az.mpr hi6); rw [jW, jW, (nA i ts).mpr hi] at this; have hm := (nA _ ts).mp (by simpa using this); refine c5.mpr ⟨_, fo.mpr ⟨_, hm, rfl⟩, ?_⟩; rw [T i hi6 _ (h _ hm)]; exact Nat.beq_refl _
 intro hh i hi; have hi6 := az.mp hi; rw [jW, jW]; by_cases hb : (mskL ts).testBit i = true
 · have hi' := (nA i ts).mp hb; refine x12 (c5.mp (hh _ (fo.mpr ⟨i, hi', rfl⟩))) fun y hy hye => ?_; obtain ⟨j, hj, rfl⟩ := mMa hy; rw [T i hi6 j (h j hj)] at hye; rw [hb, ← bY hye, (nA j ts).mpr hj]; rfl
 rw [dB] at hb; rw [hb]; rfl
theorem sB {rd : List Str} {u : Nat} (hu : u < 15) (T : Tie rd u) (k : Nat) {ts : List BT} (h : ∀ i ∈ lvL ts, i < 6) : (qT ts).testBit u = nQ rd (ts.map (BT.toTr k)) := by
 match ts, h with
 | [], _ => exact bI u
 | [.lf i], _ => exact bI u
 | [.nd _ _ _], _ => exact bI u
 | [.lf i, .nd _ _ _], _ => exact bI u
 | [.nd _ _ _, .lf _], _ => exact bI u
 | [.nd _ _ _, .nd _ _ _], _ => exact bI u
 | a :: b :: c :: r, _ =>
   have e1 : qT (a :: b :: c :: r) = 0 := by unfold qT; cases a <;> cases b <;> rfl
   have e2 : nQ rd ((a :: b :: c :: r).map (BT.toTr k)) = false := by
     show nQ rd (a.toTr k :: b.toTr k :: c.toTr k :: r.map (BT.toTr k)) = false
     unfold nQ; cases a <;> cases b <;> rfl
   rw [e1, e2]; exact bI u
 | [.lf i, .lf j], h =>
   have hi : i < 6 := h i (by simp [lvL, BT.lv]); have hj : j < 6 := h j (by simp [lvL, BT.lv]); have hb := jy (jy (jy base_is hi) hj) hu; rw [beq_iff_eq, jW] at hb; rw [hb]; show _ = (rd.getD i aj == aI (rd.getD j aj))
   rw [T j hj i hi]
noncomputable def pk {α : Type} : List α → Nat → Bool → List α
 | [], _, _ => []
 | x :: r, ch, b => if (ch.testBit 0 == b) = true then x :: pk r (ch / 2) b else pk r (ch / 2) b
theorem oF : ∀ (rest : List Tr) (ch : Nat) (b : Bool), lg rest ch b = pk rest ch b
 | [], ch, b => rfl
 | x :: r, ch, b => by
   have ih := oF r (ch / 2) b; unfold lg at *
   rw [ay, fP, bH, ir]; have e : ((fun j => ch.testBit j == b) ∘ Nat.succ) = fun j => (ch / 2).testBit j == b := by
     funext j
     show (ch.testBit (j + 1) == b) = _
     rw [Nat.testBit_succ]
   rw [e]; unfold pk; split
   · rw [ag, aT, ← ih]; rfl
   rw [aT, ← ih]; rfl
theorem rS {α β : Type} (f : α → β) : ∀ (l : List α) (ch : Nat) (b : Bool), pk (l.map f) ch b = (pk l ch b).map f
 | [], _, _ => rfl
 | x :: r, ch, b => by
   rw [ag]; unfold pk; split
   · rw [ag, rS f r]
   rw [rS f r]
theorem pk_zero {α : Type} : ∀ l : List α, pk l 0 true = [] ∧ pk l 0 false = l
 | [] => ⟨rfl, rfl⟩
 | x :: r => by
   have := pk_zero r; refine ⟨?_, ?_⟩
   · unfold pk; rw [if_neg (by decide)]; exact this.1
   unfold pk; rw [if_pos (by decide)]; exact congrArg _ this.2
theorem pk_pow {α : Type} : ∀ (l : List α) (s : Nat), s ≤ l.length → pk l (2 ^ s - 1) true = l.take s ∧ pk l (2 ^ s - 1) false = l.drop s
 | l, 0, _ => pk_zero l
 | [], s + 1, h => by simp at h
 | x :: r, s + 1, h => by
   have ih := pk_pow r s (by simpa using h); have h0 : (2 ^ (s + 1) - 1).testBit 0 = true := by rw [Nat.testBit_two_pow_sub_one]; simp
   have h1 : (2 ^ (s + 1) - 1) / 2 = 2 ^ s - 1 := by rw [d9]; exact a432
   refine ⟨?_, ?_⟩
   · unfold pk; rw [h0, h1, if_pos (by rfl), ih.1]; rfl
   unfold pk; rw [h0, h1, if_neg (by decide), ih.2]; rfl
theorem nq (u : Nat) (g : List BT → List BT → Nat) : ∀ (rest a b : List BT), (oo g rest a b).testBit u = true ↔ ∃ ch, ch < 2 ^ rest.length ∧ (g (a ++ pk rest ch true) (b ++ pk rest ch false)).testBit u = true
 | [], a, b => by
   show (g a b).testBit u = true ↔ _
   constructor
   · intro h; exact ⟨0, by simp, by simpa [pk] using h⟩
   rintro ⟨ch, _, h⟩; simpa [pk] using h
 | x :: r, a, b => by
   show (eE _ _).testBit u = true ↔ _
   rw [nC, cA, nq u g r, nq u g r]; constructor
   · rintro (⟨ch, h1, h2⟩ | ⟨ch, h1, h2⟩)
     · refine ⟨2 * ch + 1, by rw [ay, d9]; exact a431 h1, ?_⟩; have t0 : (2 * ch + 1).testBit 0 = true := by simp
       have td : (2 * ch + 1) / 2 = ch := a430
       unfold pk; rw [t0, td, if_pos (by rfl), if_neg (by decide)]; simpa using h2
     refine ⟨2 * ch, by rw [ay, d9]; exact a429 h1, ?_⟩; have t0 : (2 * ch).testBit 0 = false := by simp
     have td : (2 * ch) / 2 = ch := a428
     unfold pk; rw [t0, td, if_neg (by decide), if_pos (by rfl)]; simpa using h2
   rintro ⟨ch, h1, h2⟩; rw [ay, d9] at h1; unfold pk at h2; cases t0 : ch.testBit 0 with
   | true =>
     rw [t0, if_pos (by rfl), if_neg (by decide)] at h2; exact .inl ⟨ch / 2, by exact a427 h1, by simpa using h2⟩
   | false =>
     rw [t0, if_neg (by decide), if_pos (by rfl)] at h2; exact .inr ⟨ch / 2, by exact a427 h1, by simpa using h2⟩
theorem pd (u : Nat) (g : List BT → List BT → Nat) : ∀ (rest a : List BT), (pe g rest a).testBit u = true ↔ ∃ s, s ≤ rest.length ∧ (g (a ++ rest.take s) (rest.drop s)).testBit u = true
 | [], a => by
   show (g a []).testBit u = true ↔ _
   constructor
   · intro h; exact ⟨0, by simp, by simpa using h⟩
   rintro ⟨s, _, h⟩; simpa using h
 | x :: r, a => by
   show (eE _ _).testBit u = true ↔ _
   rw [nC, cA, pd u g r]; constructor
   · rintro (h | ⟨s, h1, h2⟩)
     · exact ⟨0, by simp, by simpa using h⟩
     exact ⟨s + 1, by simp; exact h1, by simpa using h2⟩
   rintro ⟨s, h1, h2⟩; cases s with
   | zero => exact .inl (by simpa using h2)
   | succ s => exact .inr ⟨s, by simpa using h1, by simpa using h2⟩
theorem plus_is (b : Bool) : (sgS b == aa "+") = b := by cases b <;> decide +kernel
theorem mE (k : Nat) : ∀ ts : List BT, kr k ts = none → (ts.map (BT.toTr k)).findIdx? Tr.isPlus = none
 | [], _ => rfl
 | .lf i :: r, h => by
   have ih := mE k r; unfold kr at h; cases hr : kr k r with
   | some r' => rw [hr] at h; cases h
   | none =>
     rw [ag, ef, if_neg (by exact ax), ih hr]; rfl
 | .nd mid a b :: r, h => by
   have ih := mE k r; unfold kr at h; cases hb : ku k mid with
   | true => rw [hb] at h; cases h
   | false =>
     rw [hb] at h; cases hr : kr k r with
     | some r' => rw [hr] at h; cases h
     | none =>
       have : Tr.isPlus ((BT.nd mid a b).toTr k) = false := by
         show (sgS (k.testBit mid) == aa "+") = false
         rw [plus_is, ← jW, hb]
       rw [ag, ef, this, if_neg ax, ih hr]; rfl
theorem mD (k : Nat) : ∀ {ts ts' : List BT}, kr k ts = some ts' → (∃ x, (ts.map (BT.toTr k)).findIdx? Tr.isPlus = some x ∧ (ts.map (BT.toTr k)).take x ++ ((ts.map (BT.toTr k)).getD x cD).kids ++ (ts.map (BT.toTr k)).drop (x + 1) = ts'.map (BT.toTr k)) ∧ lvL ts' = lvL ts
 | .lf i :: r, ts', h => by
   unfold kr at h; cases hr : kr k r with
   | none => rw [hr] at h; cases h
   | some r' =>
     rw [hr] at h; cases h
     obtain ⟨⟨x, h1, h2⟩, h3⟩ := mD k hr; refine ⟨⟨x + 1, ?_, ?_⟩, ?_⟩
     · rw [ag, ef, if_neg (by exact ax), h1]; rfl
     · simp only [ag, gB, ff, jo, aY]; rw [h2]
     show _ ++ lvL r' = _ ++ lvL r
     rw [h3]
 | .nd mid a b :: r, ts', h => by
   unfold kr at h; have hp : Tr.isPlus ((BT.nd mid a b).toTr k) = ku k mid := by
     show (sgS (k.testBit mid) == aa "+") = _
     rw [plus_is, ← jW]
   cases hb : ku k mid with
   | true =>
     rw [hb] at h; cases h
     refine ⟨⟨0, ?_, rfl⟩, ?_⟩
     · rw [ag, ef, hp, hb]; rfl
     simp [lvL, BT.lv]
   | false =>
     rw [hb] at h; cases hr : kr k r with
     | none => rw [hr] at h; cases h
     | some r' =>
       rw [hr] at h; cases h
       obtain ⟨⟨x, h1, h2⟩, h3⟩ := mD k hr; refine ⟨⟨x + 1, ?_, ?_⟩, ?_⟩
       · rw [ag, ef, hp, hb, if_neg ax, h1]; rfl
       · simp only [ag, gB, ff, jo, aY]; rw [h2]
       show _ ++ lvL r' = _ ++ lvL r
       rw [h3]
end
section
noncomputable def six (ts : List BT) : Prop := ∀ i ∈ lvL ts, i < 6
theorem lvL_app (a b : List BT) : lvL (a ++ b) = lvL a ++ lvL b := by unfold lvL; rw [fe]
theorem six_app {a b : List BT} : six (a ++ b) ↔ six a ∧ six b := by
 unfold six; rw [lvL_app]; constructor
 · exact fun h => ⟨fun i hi => h i (eQ _ hi), fun i hi => h i (fV _ hi)⟩
 rintro ⟨h1, h2⟩ i hi; rcases mAp hi with h | h
 · exact h1 i h
 exact h2 i h
theorem six_cons {a : BT} {b : List BT} : six (a :: b) ↔ six [a] ∧ six b := six_app (a := [a])
theorem six_nd {mid : Nat} {l r : BT} : six [.nd mid l r] ↔ six [l] ∧ six [r] := by
 have e : lvL [.nd mid l r] = lvL ([l] ++ [r]) := by simp [lvL, BT.lv]
 rw [← six_app]; unfold six; rw [e]
theorem six_sub {a b : List BT} (h : ∀ t ∈ a, t ∈ b) (hb : six b) : six a := by
 intro i hi; refine x12 (hY.mp hi) fun t ht hit => ?_; exact hb i (hY.mpr ⟨t, h t ht, hit⟩)
theorem rR {α : Type} : ∀ {l : List α} {ch : Nat} {b : Bool} {x : α}, x ∈ pk l ch b → x ∈ l
 | [], _, _, _, h => by cases h
 | y :: r, ch, b, x, h => by
   unfold pk at h; split at h
   · rcases mCo h with rfl | h
     · exact .head _
     exact .tail _ (rR h)
   exact .tail _ (rR h)
section
variable (rd : List Str) (rg : Bool) (F : List Tr → Bool)
noncomputable def body (L : List Tr) (x : Nat) : Bool := match L.getD x cD with
 | .leaf _ => false
 | .node _ l r _ => (jS rg (L.length - 1)).any fun ch => oV rd (r :: lg (L.drop (x + 1) ++ L.take x) ch true) && F (r :: lg (L.drop (x + 1) ++ L.take x) ch true) && F (lg (L.drop (x + 1) ++ L.take x) ch false ++ [l])
end
theorem rL (p : Nat → Bool) (n : Nat) : (jS true n).any p = true ↔ ∃ s, s ≤ n ∧ p (2 ^ s - 1) = true := by
 unfold jS; rw [if_pos rfl, List.any_map, c5]; constructor
 · rintro ⟨s, h1, h2⟩; exact ⟨s, by have := az.mp h1; exact a436 this, h2⟩
 rintro ⟨s, h1, h2⟩; exact ⟨s, az.mpr (a435 h1), h2⟩
theorem qU (p : Nat → Bool) (n : Nat) : (jS false n).any p = true ↔ ∃ ch, ch < 2 ^ n ∧ p ch = true := by
 unfold jS; rw [if_neg ax, c5]; constructor
 · rintro ⟨s, h1, h2⟩; exact ⟨s, az.mp h1, h2⟩
 rintro ⟨s, h1, h2⟩; exact ⟨s, az.mpr h1, h2⟩
section
variable {rd : List Str} {u : Nat} (hu : u < 15) (T : Tie rd u) (k : Nat) (rg : Bool) {f : List BT → Nat} {F : List Tr → Bool} (hf : ∀ ts, six ts → (f ts).testBit u = F (ts.map (BT.toTr k)))
include hu T hf
theorem try_bit {l r : BT} {a b : List BT} (h1 : six (r :: a)) (h2 : six (b ++ [l])) :
   (tryM f l r a b).testBit u = (oV rd ((r :: a).map (BT.toTr k)) && F ((r :: a).map (BT.toTr k)) && F ((b ++ [l]).map (BT.toTr k))) := by
 unfold tryM; rw [sD, sD, good_bit hu T k h1, hf _ h1, hf _ h2, Bool.and_assoc]
theorem split_bit {l r : BT} {rest : List BT} (hl : six [l]) (hr : six [r]) (hrest : six rest) :
   (match rg with | true => pe (tryM f l r) rest [] | false => oo (tryM f l r) rest [] []).testBit u =
     ((jS rg rest.length).any fun ch => oV rd (r.toTr k :: lg (rest.map (BT.toTr k)) ch true) && F (r.toTr k :: lg (rest.map (BT.toTr k)) ch true) && F (lg (rest.map (BT.toTr k)) ch false ++ [l.toTr k])) := by
 have hsub : ∀ {a : List BT}, (∀ t ∈ a, t ∈ rest) → six (r :: a) ∧ six (a ++ [l]) := fun h => ⟨six_cons.mpr ⟨hr, six_sub h hrest⟩, six_app.mpr ⟨six_sub h hrest, hl⟩⟩; rw [bF]; cases rg with
 | true =>
   rw [rL]; show (pe (tryM f l r) rest []).testBit u = true ↔ _
   rw [pd]; refine exists_congr fun s => and_congr_right fun hs => ?_; have hp := pk_pow (rest.map (BT.toTr k)) s (by rw [al]; exact hs); rw [oF, oF, hp.1, hp.2, ← i4, ← gG]; rw [bi, try_bit hu T k hf (hsub fun t ht => eP ht).1 (hsub fun t ht => dX ht).2]; rw [ag, aM]; rfl
 | false =>
   rw [qU]; show (oo (tryM f l r) rest [] []).testBit u = true ↔ _
   rw [nq]; refine exists_congr fun s => and_congr_right fun hs => ?_; rw [oF, oF, rS, rS]; rw [bi, bi, try_bit hu T k hf (hsub fun t ht => rR ht).1 (hsub fun t ht => rR ht).2]; rw [ag, aM]; rfl
theorem rN : ∀ (ts pre : List BT), six (pre ++ ts) → (sG rg f pre ts).testBit u = (ae ts.length).any fun y => body rd rg F ((pre ++ ts).map (BT.toTr k)) (pre.length + y)
 | [], pre, h => bI u
 | x :: post, pre, h => by
   have ih := rN post (pre ++ [x]) (by rw [dn]; exact h); have hx := six_cons.mp (six_app.mp h).2; rw [dn, aw, ji] at ih; rw [ay, fP, List.any_cons, List.any_map]; have e : ((fun y => body rd rg F ((pre ++ x :: post).map (BT.toTr k)) (pre.length + y)) ∘ Nat.succ) = fun y => body rd rg F ((pre ++ ([x] ++ post)).map (BT.toTr k)) (pre.length + 1 + y) := by
     funext y
     show body _ _ _ _ (pre.length + (y + 1)) = _
     rw [show pre.length + (y + 1) = pre.length + 1 + y from by exact a90]; rfl
   rw [e, ← ih, fS]; have hget : ((pre ++ x :: post).map (BT.toTr k)).getD pre.length cD = x.toTr k := by
     rw [ab, ar, bb (ap _), Nat.sub_self]; rfl
   cases x with
   | lf i =>
     have : body rd rg F ((pre ++ BT.lf i :: post).map (BT.toTr k)) pre.length = false := by
       unfold body; rw [hget]; rfl
     rw [this, i6]; rfl
   | nd mid l r =>
     have hlr := six_nd.mp hx.1; have hrest : six (post ++ pre) := six_app.mpr ⟨hx.2, (six_app.mp h).1⟩; have hd : ((pre ++ BT.nd mid l r :: post).map (BT.toTr k)).drop (pre.length + 1) ++ ((pre ++ BT.nd mid l r :: post).map (BT.toTr k)).take pre.length = (post ++ pre).map (BT.toTr k) := by
       rw [aM, aM, ag, List.take_left' (by rw [al]), List.drop_append, jc (by rw [al]; exact a414), al, show pre.length + 1 - pre.length = 1 from by exact a413]; rfl
     have hlen : ((pre ++ BT.nd mid l r :: post).map (BT.toTr k)).length - 1 = (post ++ pre).length := by simp; exact a434
     have : body rd rg F ((pre ++ BT.nd mid l r :: post).map (BT.toTr k)) pre.length = (match rg with | true => pe (tryM f l r) (post ++ pre) [] | false => oo (tryM f l r) (post ++ pre) [] []).testBit u := by
       rw [split_bit hu T k rg hf hlr.1 hlr.2 hrest]; unfold body; rw [hget, hd, hlen]; rfl
     rw [this]; exact nC _ _ _
end
theorem rb {rd : List Str} {u : Nat} (hu : u < 15) (T : Tie rd u) (k : Nat) (rg : Bool) : ∀ (n : Nat) (ts : List BT), six ts → (prvM k rg n ts).testBit u = prv rd rg n (ts.map (BT.toTr k))
 | 0, ts, h => sB hu T k h
 | n + 1, ts, h => by
   have ih := rb hu T k rg n; show (match kr k ts with | some ts' => prvM k rg n ts' | none => eE (sG rg (prvM k rg n) [] ts) (qT ts)).testBit u = lG rd rg (prv rd rg n) (ts.map (BT.toTr k))
   unfold lG; cases he : kr k ts with
   | some ts' =>
     obtain ⟨⟨x, h1, h2⟩, h3⟩ := mD k he; rw [h1]; show (prvM k rg n ts').testBit u = prv rd rg n _
     rw [h2]; exact ih ts' (by unfold six; rw [h3]; exact h)
   | none =>
     rw [mE k ts he]; show (eE (sG rg (prvM k rg n) [] ts) (qT ts)).testBit u = _
     rw [nC, sB hu T k h, rN hu T k rg ih ts [] h, al]; congr 2
     funext y
     show body rd rg (prv rd rg n) (ts.map (BT.toTr k)) (0 + y) = _
     rw [Nat.zero_add]; unfold body; rw [al]; all_goals rfl
end
section
noncomputable abbrev IP := Int × Int
noncomputable def rl (ms : List Int) (p : IP) : List Int := ms.map fun k => if k == ms.getD p.1.toNat 0 then ms.getD p.2.toNat 0 else k
noncomputable def cnt (ms : List Int) : Nat := ((jF 11).filter fun c => ms.contains c).length
noncomputable def tin (p : IP) : Prop := p.1.toNat < 11 ∧ p.2.toNat < 11
noncomputable def Ms (ms : List Int) : Prop := ms.length = 11 ∧ ∀ c ∈ ms, c ∈ jF 11
theorem getD_mapI {ms : List Int} {f : Int → Int} {i : Nat} (h : i < ms.length) : (ms.map f).getD i 0 = f (ms.getD i 0) := by
 rw [ab, ab, ar, ac h]; rfl
theorem rl_ms {ms : List Int} {p : IP} (h : Ms ms) (hp : tin p) : Ms (rl ms p) := by
 refine ⟨by unfold rl; rw [al, h.1], fun c hc => ?_⟩; obtain ⟨k, hk, rfl⟩ := mMa hc; show (if k == ms.getD p.1.toNat 0 then ms.getD p.2.toNat 0 else k) ∈ _
 split
 · exact h.2 _ (kM (by rw [h.1]; exact hp.2))
 exact h.2 _ hk
theorem pj {ms : List Int} {p : IP} (h : Ms ms) {u : Nat} (hu : u < 11) : (rl ms p).getD u 0 = if ms.getD u 0 == ms.getD p.1.toNat 0 then ms.getD p.2.toNat 0 else ms.getD u 0 := by
 unfold rl; rw [getD_mapI (by rw [h.1]; exact hu)]
theorem rl_same {ms : List Int} {p : IP} (e : ms.getD p.1.toNat 0 = ms.getD p.2.toNat 0) : rl ms p = ms := by
 unfold rl; rw [bW (g := id) (fun k _ => ?_), eR]; rw [e]; split
 · rename_i h; exact (bT h).symm
 rfl
theorem range_nodup : (jF 11).Nodup := by decide +kernel
theorem cnt_rl {ms : List Int} {p : IP} (h : Ms ms) (hp : tin p) (ne : ms.getD p.1.toNat 0 ≠ ms.getD p.2.toNat 0) : cnt (rl ms p) + 1 = cnt ms := by
 have ha : ms.getD p.1.toNat 0 ∈ ms := kM (by rw [h.1]; exact hp.1); have hb : ms.getD p.2.toNat 0 ∈ ms := kM (by rw [h.1]; exact hp.2); have hm : ∀ c, c ∈ rl ms p ↔ c ∈ ms ∧ c ≠ ms.getD p.1.toNat 0 := by
   intro c; unfold rl; rw [fo]; constructor
   · rintro ⟨k, hk, rfl⟩; split
     · exact ⟨hb, fun e => ne e.symm⟩
     rename_i hne
     exact ⟨hk, fun e => hne (by rw [e]; exact beq_self_eq_true _)⟩
   rintro ⟨h1, h2⟩; exact ⟨c, h1, if_neg (fun e => h2 (bT e))⟩
 have e : ((jF 11).filter fun c => (rl ms p).contains c) = (((jF 11).filter fun c => ms.contains c).erase (ms.getD p.1.toNat 0)) := by
   rw [fQ.erase_eq_filter (List.Pairwise.filter _ range_nodup), List.filter_filter]; refine fD fun c _ => ?_; rw [bF, da, hm c, co, da, bne_iff_ne]; exact and_comm
 have hin : ms.getD p.1.toNat 0 ∈ (jF 11).filter fun c => ms.contains c := bl.mpr ⟨h.2 _ ha, da.mpr ha⟩; unfold cnt; rw [e, List.length_erase_of_mem hin]; have := List.length_pos_of_mem hin; exact a441 this
noncomputable def fin (ms : List Int) (ps : List IP) : List Int := ps.foldl rl ms
theorem ostep_is (ms : List Int) (p : IP) : mu (some ms) p = if ms.getD p.1.toNat 0 == ms.getD p.2.toNat 0 then none else some (rl ms p) := rfl
theorem fin_ms : ∀ {ps : List IP} {ms : List Int}, Ms ms → (∀ p ∈ ps, tin p) → Ms (fin ms ps)
 | [], ms, h, _ => h
 | p :: r, ms, h, hp => fin_ms (ps := r) (rl_ms h (hp _ (.head _))) fun q hq => hp q (.tail _ hq)
theorem sr : ∀ {ps : List IP} {ms : List Int}, Ms ms → (∀ p ∈ ps, tin p) → ∀ {u v : Nat}, u < 11 → v < 11 → ms.getD u 0 = ms.getD v 0 → (fin ms ps).getD u 0 = (fin ms ps).getD v 0
 | [], ms, h, _, u, v, hu, hv, e => e
 | p :: r, ms, h, hp, u, v, hu, hv, e => by
   refine sr (ps := r) (rl_ms h (hp _ (.head _))) (fun q hq => hp q (.tail _ hq)) hu hv ?_; rw [pj h hu, pj h hv, e]
theorem sq : ∀ {ps : List IP} {ms : List Int}, Ms ms → (∀ p ∈ ps, tin p) → ∀ p ∈ ps, (fin ms ps).getD p.1.toNat 0 = (fin ms ps).getD p.2.toNat 0
 | q :: r, ms, h, hp, p, hm => by
   have hq := hp _ (.head _); have h' := rl_ms h hq; have hr : ∀ p ∈ r, tin p := fun q hq => hp q (.tail _ hq); rcases mCo hm with rfl | hm
   · refine sr (ps := r) h' hr hq.1 hq.2 ?_; rw [pj h hq.1, pj h hq.2, if_pos (beq_self_eq_true _)]; split <;> rfl
   exact sq (ps := r) h' hr p hm
theorem pE {S : Nat → Bool} : ∀ {ps : List IP} {ms : List Int}, Ms ms → (∀ p ∈ ps, tin p) → (∀ p ∈ ps, S p.1.toNat = S p.2.toNat) → (∀ u v, u < 11 → v < 11 → ms.getD u 0 = ms.getD v 0 → S u = S v) → ∀ u v, u < 11 → v < 11 → (fin ms ps).getD u 0 = (fin ms ps).getD v 0 → S u = S v
 | [], ms, h, _, _, hS => hS
 | p :: r, ms, h, hp, hc, hS => by
   have hq := hp _ (.head _); refine pE (ps := r) (rl_ms h hq) (fun q hq => hp q (.tail _ hq)) (fun q hq => hc q (.tail _ hq)) ?_; intro u v hu hv e; have hpp := hc _ (.head _); rw [pj h hu, pj h hv] at e; split at e
   · rename_i h1
     have s1 := hS u _ hu hq.1 (bT h1); split at e
     · rename_i h2
       rw [s1, hS v _ hv hq.1 (bT h2)]
     rw [s1, hpp, hS _ v hq.2 hv e]
   split at e
   · rename_i h2
     rw [hS u _ hu hq.2 e, ← hpp, hS v _ hv hq.1 (bT h2)]
   exact hS u v hu hv e
theorem sk : ∀ {ps : List IP} {ms : List Int}, Ms ms → (∀ p ∈ ps, tin p) → ((∃ m', ps.foldl mu (some ms) = some m') ∧ cnt (fin ms ps) + ps.length = cnt ms) ∨ (ps.foldl mu (some ms) = none ∧ cnt ms + 1 ≤ cnt (fin ms ps) + ps.length)
 | [], ms, h, _ => .inl ⟨⟨ms, rfl⟩, rfl⟩
 | p :: r, ms, h, hp => by
   have hq := hp _ (.head _); have hr : ∀ p ∈ r, tin p := fun q hq => hp q (.tail _ hq); have ih := sk (ps := r) (rl_ms h hq) hr; rw [aR, ostep_is, ay]; show (_ ∧ cnt (fin (rl ms p) r) + _ = _) ∨ (_ ∧ _ ≤ cnt (fin (rl ms p) r) + _)
   by_cases e : ms.getD p.1.toNat 0 = ms.getD p.2.toNat 0
   · right
     rw [if_pos (by rw [e]; exact beq_self_eq_true _), ny]; refine ⟨rfl, ?_⟩; rw [rl_same e] at ih ⊢; rcases ih with ⟨_, h2⟩ | ⟨_, h2⟩ <;> (first | lia | omega)
   rw [if_neg (fun x => e (bT x))]; have := cnt_rl h hq e; rcases ih with ⟨h1, h2⟩ | ⟨h1, h2⟩
   · exact .inl ⟨h1, by exact a440 this h2⟩
   exact .inr ⟨h1, by exact a439 this h2⟩
theorem ms0 : Ms (jF 11) := ⟨by decide +kernel, fun c hc => hc⟩
theorem ms0_inj : ∀ u, u < 11 → ∀ v, v < 11 → (jF 11).getD u 0 = (jF 11).getD v 0 → u = v := by decide +kernel
theorem cnt0 : cnt (jF 11) = 11 := by decide +kernel
noncomputable def Conn (ps : List IP) : Prop := ∀ S : Nat → Bool, (∀ p ∈ ps, S p.1.toNat = S p.2.toNat) → ∀ u v, u < 11 → v < 11 → S u = S v
theorem qF {ps : List IP} (h : ∀ p ∈ ps, tin p) : kG ps = true ↔ ps.length = 10 ∧ Conn ps := by
 have hf := sk ms0 h; rw [cnt0] at hf; have hms := fin_ms ms0 h; have e : kG ps = match ps.foldl mu (some (jF 11)) with | none => false | some _ => ps.length == 10 := rfl
 constructor
 · intro ht; rw [e] at ht; rcases hf with ⟨⟨m', h1⟩, h2⟩ | ⟨h1, _⟩
   · rw [h1] at ht; have h10 : ps.length = 10 := bT ht; refine ⟨h10, fun S hS u v hu hv => ?_⟩; refine pE ms0 h hS (fun u v hu hv e => by rw [ms0_inj u hu v hv e]) u v hu hv ?_; have h1 : cnt (fin (jF 11) ps) = 1 := a438 h2 h10
     unfold cnt at h1; obtain ⟨c, hc⟩ := List.length_eq_one_iff.mp h1; have hone : ∀ u, u < 11 → (fin (jF 11) ps).getD u 0 = c := fun u hu => by
       have hm := kM (zs := fin (jF 11) ps) (j := u) (d := 0) (by rw [hms.1]; exact hu); have : (fin (jF 11) ps).getD u 0 ∈ ((jF 11).filter fun c => (fin (jF 11) ps).contains c) := bl.mpr ⟨hms.2 _ hm, da.mpr hm⟩; rw [hc] at this; exact mSg this
     rw [hone u hu, hone v hv]
   rw [h1] at ht; cases ht
 rintro ⟨h10, hc⟩; rw [e]; rcases hf with ⟨⟨m', h1⟩, _⟩ | ⟨_, h2⟩
 · rw [h1]; show (ps.length == 10) = true
   rw [h10]; rfl
 exfalso
 have hcon : ∀ u v, u < 11 → v < 11 → (fin (jF 11) ps).getD u 0 = (fin (jF 11) ps).getD v 0 := fun u v hu hv => by
   have := hc (fun w => (fin (jF 11) ps).getD w 0 == (fin (jF 11) ps).getD u 0) (fun p hp => by
     show (_ == _) = (_ == _)
     rw [sq ms0 h p hp]) u v hu hv
   have this : ((fin (jF 11) ps).getD u 0 == (fin (jF 11) ps).getD u 0) = ((fin (jF 11) ps).getD v 0 == (fin (jF 11) ps).getD u 0) := this; rw [beq_self_eq_true] at this; exact (bT this.symm).symm
 have h3 : 2 ≤ ((jF 11).filter fun c => (fin (jF 11) ps).contains c).length := by
   have : cnt (fin (jF 11) ps) = ((jF 11).filter fun c => (fin (jF 11) ps).contains c).length := rfl; exact a437 h10 h2 this
 have hnd := range_nodup.filter fun c => (fin (jF 11) ps).contains c; have hmem : ∀ c ∈ ((jF 11).filter fun c => (fin (jF 11) ps).contains c), c = (fin (jF 11) ps).getD 0 0 := fun c hcm => by
   have := da.mp (bl.mp hcm).2; obtain ⟨i, hi, rfl⟩ := bn.mp this; have hi' : i < 11 := by rw [hms.1] at hi; exact hi
   rw [← hcon i 0 hi' (by decide), ab, ac hi]; rfl
 match hl : ((jF 11).filter fun c => (fin (jF 11) ps).contains c), h3, hnd, hmem with
 | a :: b :: r, _, hnd, hmem =>
   have h1 := hmem a (.head _); have h2 := hmem b (.tail _ (.head _)); have := (aB.mp hnd).1; exact this (by rw [h1, ← h2]; exact .head _)
 | [a], h3, _, _ => simp at h3
 | [], h3, _, _ => simp at h3
end
section
noncomputable def BT.io : BT → Nat → Nat → Prop
 | .lf i, a, b => i = a ∧ i = b
 | .nd mid l r, a, b => l.io a mid ∧ r.io (mid + 1) b
theorem sf : ∀ {t : Tr} {a b : Nat}, t.io a b → t.toB.io a b
 | .leaf _, _, _, h => h
 | .node _ l r _, _, _, ⟨h1, h2⟩ => ⟨sf h1, sf h2⟩
theorem lp : ∀ {t : BT} {a b : Nat}, t.io a b → a ≤ b
 | .lf _, _, _, ⟨h1, h2⟩ => by exact a394 h1 h2
 | .nd mid l r, _, _, ⟨h1, h2⟩ => by have := lp h1; have := lp h2; exact a393 (by assumption) this
noncomputable def rep (k sub : Nat) : BT → Nat
 | .lf i => i
 | .nd mid l r => match ku k mid with
   | false => rep k sub l
   | true => match ku sub mid with
     | true => rep k sub r
     | false => rep k sub l
noncomputable def eqs (k sub : Nat) : BT → List (Nat × Nat)
 | .lf _ => []
 | .nd mid l r => (match ku k mid with | true => [] | false => [(rep k sub l, rep k sub r)]) ++ (eqs k sub l ++ eqs k sub r)
theorem oB (k sub : Nat) : ∀ {t : BT} {a b : Nat}, t.io a b → rep k sub t ≤ b
 | .lf _, _, _, ⟨h1, h2⟩ => by show _ ≤ _; unfold rep; exact a334 h2
 | .nd mid l r, _, _, ⟨h1, h2⟩ => by
   have := oB k sub h1; have := oB k sub h2; have := lp h2; unfold rep; split
   · exact a393 (by assumption) this
   split <;> (first | lia | omega)
theorem eqs_lt (k sub : Nat) : ∀ {t : BT} {a b : Nat}, t.io a b → ∀ e ∈ eqs k sub t, e.1 ≤ b ∧ e.2 ≤ b
 | .lf _, _, _, _, e, he => by cases he
 | .nd mid l r, _, _, ⟨h1, h2⟩, e, he => by
   have := lp h2; have r1 := oB k sub h1; have r2 := oB k sub h2; unfold eqs at he; rcases mAp he with h | h
   · split at h
     · cases h
     rw [mSg h]; exact ⟨by show _ ≤ _; exact a464 this r1, by show _ ≤ _; exact r2⟩
   rcases mAp h with h | h
   · have := eqs_lt k sub h1 e h; exact a463 (by assumption) this
   exact eqs_lt k sub h2 e h
theorem star_is (b : Bool) : sgS b = aa "*" ↔ b = false := by cases b <;> decide +kernel
noncomputable def pw (k sub mid : Nat) (l r : Int) : List IP := match ku k mid with
 | false => [(6 + (mid : Int), l), (6 + (mid : Int), r)]
 | true => match ku sub mid with
   | true => [(6 + (mid : Int), r)]
   | false => [(6 + (mid : Int), l)]
section
variable {ch : List Int} {sub : Nat} (hch : ∀ mid : Nat, mid < 5 → ch.any (fun x => x == (mid : Int)) = ku sub mid) (k : Nat)
include hch
theorem oa {mid : Nat} (hm : mid < 5) (l r : BT) : ties ch ((BT.nd mid l r).toTr k) = pw k sub mid (l.toTr k).endOf (r.toTr k).endOf ++ (ties ch (l.toTr k) ++ ties ch (r.toTr k)) := by
 show (Tr.ends ch (.node (sgS (k.testBit mid)) (l.toTr k) (r.toTr k) mid)).map (fun e => ((6 + mid : Int), e)) ++ ties ch (l.toTr k) ++ ties ch (r.toTr k) = _
 rw [dn]; congr 1
 unfold Tr.ends pw; dsimp only
 rw [hch mid hm, ← jW]; cases hb : ku k mid with
 | false => rw [if_pos ((star_is _).mpr rfl)]; rfl
 | true =>
   rw [if_neg (fun e => by have := (star_is _).mp e; cases this)]
   cases ku sub mid <;> rfl
theorem og : ∀ {t : BT} {a b : Nat}, t.io a b → b ≤ 5 → (ties ch (t.toTr k)).length + a = b + ((bC a (b - a)).filter fun m => !ku k m).length
 | .lf _, a, b, ⟨h1, h2⟩, hb => by
   have : b - a = 0 := a462 h1 h2
   rw [this]; show 0 + a = b + 0
   exact a461 h1 h2
 | .nd mid l r, a, b, ⟨h1, h2⟩, hb => by
   have l1 := lp h1; have l2 := lp h2; have i1 := og h1 (show mid ≤ 5 by exact qv hb l2)
   have i2 := og h2 hb; have e : bC a (b - a) = bC a (mid - a) ++ (mid :: bC (mid + 1) (b - (mid + 1))) := by
     rw [show b - a = (mid - a) + ((b - (mid + 1)) + 1) from by exact a460 l1 l2, ← gi, show a + (mid - a) = mid from by exact a459 l1]
     rfl
   rw [oa hch k (a384 hb l2), e, cI, bH]; simp only [aw]; unfold pw; cases hb : ku k mid with
   | false =>
     rw [if_pos (by rfl)]; simp only [ay, bU]; exact a458 i1 i2
   | true =>
     rw [if_neg (by decide)]; cases ku sub mid <;> simp only [ay, bU] <;> exact a457 i1 i2
omit hch in
theorem end_lt : ∀ {t : BT} {a b : Nat}, t.io a b → b ≤ 5 → 0 ≤ (t.toTr k).endOf ∧ (t.toTr k).endOf < 11
 | .lf i, a, b, ⟨h1, h2⟩, hb => by show 0 ≤ (i : Int) ∧ (i : Int) < 11; exact a456 h2 hb
 | .nd mid l r, a, b, ⟨h1, h2⟩, hb => by
   have := lp h2; show 0 ≤ 6 + (mid : Int) ∧ 6 + (mid : Int) < 11; exact a455 hb this
theorem pM : ∀ {t : BT} {a b : Nat}, t.io a b → b ≤ 5 → ∀ p ∈ ties ch (t.toTr k), 0 ≤ p.1 ∧ p.1 < 11 ∧ 0 ≤ p.2 ∧ p.2 < 11
 | .lf _, _, _, _, _, p, hp => by cases hp
 | .nd mid l r, a, b, ⟨h1, h2⟩, hb, p, hp => by
   have l2 := lp h2; rw [oa hch k (a384 hb l2)] at hp; have e1 := end_lt k h1 (qv hb l2); have e2 := end_lt k h2 hb; rcases mAp hp with h | h
   · unfold pw at h; split at h
     · rcases mCo h with rfl | h
       · exact ⟨by show 0 ≤ 6 + (mid : Int); exact a454, by show 6 + (mid : Int) < 11; exact a453 hb l2, e1⟩
       rw [mSg h]; exact ⟨by show 0 ≤ 6 + (mid : Int); exact a454, by show 6 + (mid : Int) < 11; exact a453 hb l2, e2⟩
     split at h
     · rw [mSg h]; exact ⟨by show 0 ≤ 6 + (mid : Int); exact a454, by show 6 + (mid : Int) < 11; exact a453 hb l2, e2⟩
     rw [mSg h]; exact ⟨by show 0 ≤ 6 + (mid : Int); exact a454, by show 6 + (mid : Int) < 11; exact a453 hb l2, e1⟩
   rcases mAp h with h | h
   · exact pM h1 (qv hb l2) p h
   exact pM h2 hb p h
noncomputable def TOk (S : Nat → Bool) (ps : List IP) : Prop := ∀ p ∈ ps, S p.1.toNat = S p.2.toNat
omit hch in
theorem ok_app {S : Nat → Bool} {a b : List IP} : TOk S (a ++ b) ↔ TOk S a ∧ TOk S b :=
 ⟨fun h => ⟨fun p hp => h p (eQ _ hp), fun p hp => h p (fV _ hp)⟩, fun h p hp => (mAp hp).elim (h.1 p) (h.2 p)⟩
omit hch in
theorem mT (mid : Nat) : (6 + (mid : Int)).toNat = 6 + mid := a452
omit hch in
theorem qH {S : Nat → Bool} {mid : Nat} {l r : Int} : TOk S (pw k sub mid l r) ↔ (match ku k mid with | false => S (6 + mid) = S l.toNat ∧ S (6 + mid) = S r.toNat | true => match ku sub mid with | true => S (6 + mid) = S r.toNat | false => S (6 + mid) = S l.toNat) := by
 unfold TOk pw; cases ku k mid with
 | false =>
   simp only [b9, cH, or_false, forall_eq_or_imp, forall_eq, mT]
 | true =>
   cases ku sub mid <;> simp only [b9, cH, or_false, forall_eq, mT]
noncomputable def tL (s : Nat → Bool) (es : List (Nat × Nat)) : Prop := ∀ e ∈ es, s e.1 = s e.2
omit hch in
theorem eqok_app {s : Nat → Bool} {a b : List (Nat × Nat)} : tL s (a ++ b) ↔ tL s a ∧ tL s b :=
 ⟨fun h => ⟨fun p hp => h p (eQ _ hp), fun p hp => h p (fV _ hp)⟩, fun h p hp => (mAp hp).elim (h.1 p) (h.2 p)⟩
theorem up_A {S : Nat → Bool} : ∀ {t : BT} {a b : Nat}, t.io a b → b ≤ 5 → TOk S (ties ch (t.toTr k)) → S (t.toTr k).endOf.toNat = S (rep k sub t) ∧ tL S (eqs k sub t)
 | .lf i, a, b, _, _, h => ⟨rfl, fun e he => by cases he⟩
 | .nd mid l r, a, b, ⟨h1, h2⟩, hb, h => by
   have l2 := lp h2; rw [oa hch k (a384 hb l2), ok_app, ok_app, qH] at h; refine x03 h fun h0 hl hr => ?_; obtain ⟨a1, a2⟩ := up_A h1 (qv hb l2) hl; obtain ⟨b1, b2⟩ := up_A h2 hb hr; have e0 : ((BT.nd mid l r).toTr k).endOf.toNat = 6 + mid := mT mid; rw [e0]; unfold rep eqs; rw [eqok_app, eqok_app]; cases hbk : ku k mid with
   | false =>
     rw [hbk] at h0; obtain ⟨x, y⟩ := h0; refine ⟨by rw [x, a1], fun e he => ?_, a2, b2⟩; rw [mSg he]; show S (rep k sub l) = S (rep k sub r)
     rw [← a1, ← b1, ← x, ← y]
   | true =>
     rw [hbk] at h0; refine ⟨?_, fun e he => (by cases he), a2, b2⟩
     cases hbs : ku sub mid with
     | true => rw [hbs] at h0; show _ = S (rep k sub r); rw [← b1]; exact h0
     | false => rw [hbs] at h0; show _ = S (rep k sub l); rw [← a1]; exact h0
theorem up_all {S : Nat → Bool} {c : Bool} (hc : ∀ i, i < 6 → S i = c) : ∀ {t : BT} {a b : Nat}, t.io a b → b ≤ 5 → TOk S (ties ch (t.toTr k)) → ∀ m, a ≤ m → m < b → S (6 + m) = c
 | .lf i, a, b, ⟨h1, h2⟩, _, h, m, hm1, hm2 => by (first | lia | omega)
 | .nd mid l r, a, b, ⟨h1, h2⟩, hb, h, m, hm1, hm2 => by
   have l2 := lp h2; have hA := (up_A hch k (t := .nd mid l r) ⟨h1, h2⟩ hb h).1; have e0 : ((BT.nd mid l r).toTr k).endOf.toNat = 6 + mid := mT mid; rw [e0] at hA; have hlt := oB k sub (t := .nd mid l r) ⟨h1, h2⟩; rw [oa hch k (a384 hb l2), ok_app, ok_app] at h; rcases Nat.lt_trichotomy m mid with q | q | q
   · exact up_all hc h1 (qv hb l2) h.2.1 m hm1 q
   · rw [q, hA]; exact hc _ (a451 hb hlt)
   exact up_all hc h2 hb h.2.2 m (by exact q) hm2
end
noncomputable def oC (k sub : Nat) : BT → Nat → Nat
 | .lf i, _ => i
 | .nd mid l r, m => if m = mid then rep k sub (.nd mid l r) else if m < mid then oC k sub l m else oC k sub r m
section
variable {ch : List Int} {sub : Nat} (hch : ∀ mid : Nat, mid < 5 → ch.any (fun x => x == (mid : Int)) = ku sub mid) (k : Nat)
include hch
theorem down_B {S s : Nat → Bool} (hs : ∀ i, i < 6 → S i = s i) : ∀ {t : BT} {a b : Nat}, t.io a b → b ≤ 5 → (∀ m, a ≤ m → m < b → S (6 + m) = s (oC k sub t m)) → tL s (eqs k sub t) → TOk S (ties ch (t.toTr k)) ∧ S (t.toTr k).endOf.toNat = s (rep k sub t)
 | .lf i, a, b, ⟨h1, h2⟩, hb, _, _ => ⟨fun p hp => (by cases hp), hs i (a404 h2 hb)⟩
 | .nd mid l r, a, b, ⟨h1, h2⟩, hb, hm, he => by
   have l1 := lp h1; have l2 := lp h2; have he0 := he; unfold eqs at he; rw [eqok_app, eqok_app] at he; obtain ⟨x1, x2⟩ := down_B hs h1 (qv hb l2) (fun m q1 q2 => by
     have := hm m q1 (a450 l2 q2); unfold oC at this; rw [if_neg (a25 q2), if_pos q2] at this; exact this) he.2.1
   obtain ⟨y1, y2⟩ := down_B hs h2 hb (fun m q1 q2 => by
     have := hm m (a393 l1 q1) q2; unfold oC at this; rw [if_neg (a449 q1), if_neg (a448 q1)] at this; exact this) he.2.2
   have z := hm mid l1 (by exact l2); unfold oC at z; rw [if_pos rfl] at z; have e0 : ((BT.nd mid l r).toTr k).endOf.toNat = 6 + mid := mT mid; refine ⟨?_, by rw [e0]; exact z⟩; rw [oa hch k (a384 hb l2), ok_app, ok_app, qH]; refine ⟨?_, x1, y1⟩; unfold rep at z; have h0 := he.1; cases hbk : ku k mid with
   | false =>
     rw [hbk] at z h0; have z : S (6 + mid) = s (rep k sub l) := z; have q : s (rep k sub l) = s (rep k sub r) := h0 (rep k sub l, rep k sub r) (cm.mpr rfl); exact ⟨by rw [z, x2], by rw [z, y2, q]⟩
   | true =>
     rw [hbk] at z; cases hbs : ku sub mid with
     | true =>
       rw [hbs] at z; have z : S (6 + mid) = s (rep k sub r) := z; show S (6 + mid) = S (r.toTr k).endOf.toNat
       rw [z, y2]
     | false =>
       rw [hbs] at z; have z : S (6 + mid) = s (rep k sub l) := z; show S (6 + mid) = S (l.toTr k).endOf.toNat
       rw [z, x2]
end
noncomputable def LConn (es : List (Nat × Nat)) : Prop := ∀ s : Nat → Bool, tL s es → ∀ i j, i < 6 → j < 6 → s i = s j
noncomputable def qS (lks : List (Nat × Nat)) : List IP := lks.map fun p => ((p.1 : Int), (p.2 : Int))
theorem cast_ok {S : Nat → Bool} {lks : List (Nat × Nat)} : TOk S (qS lks) ↔ tL S lks := by
 unfold TOk tL qS; constructor
 · intro h e he; exact h _ (fo.mpr ⟨e, he, rfl⟩)
 intro h p hp; obtain ⟨e, he, rfl⟩ := mMa hp; exact h e he
theorem conn_leaf {ch : List Int} {sub : Nat} (hch : ∀ mid : Nat, mid < 5 → ch.any (fun x => x == (mid : Int)) = ku sub mid) (k : Nat) {t : BT} (ht : t.io 0 5) {lks : List (Nat × Nat)} (hl : ∀ p ∈ lks, p.1 < 6 ∧ p.2 < 6) :
   Conn (qS lks ++ ties ch (t.toTr k)) ↔ LConn (lks ++ eqs k sub t) := by
 constructor
 · intro h s hs i j hi hj; obtain ⟨h1, h2⟩ := eqok_app.mp hs; have hS : ∀ i, i < 6 → (fun v => if v < 6 then s v else s (oC k sub t (v - 6))) i = s i := fun i hi => if_pos hi
   have hd := down_B hch k (S := fun v => if v < 6 then s v else s (oC k sub t (v - 6))) hS ht (ap _) (fun m q1 q2 => by
     show (if 6 + m < 6 then _ else s (oC k sub t (6 + m - 6))) = _
     rw [if_neg (a447), show 6 + m - 6 = m from by exact a446]) h2
   have := h _ (ok_app.mpr ⟨cast_ok.mpr fun e he => by
     have := hl e he; show (if e.1 < 6 then _ else _) = (if e.2 < 6 then _ else _)
     rw [if_pos this.1, if_pos this.2]; exact h1 e he, hd.1⟩) i j (a445 hi) (a445 hj)
   have this : (if i < 6 then s i else s (oC k sub t (i - 6))) = if j < 6 then s j else s (oC k sub t (j - 6)) := this
   rw [if_pos hi, if_pos hj] at this; exact this
 intro h S hS u v hu hv; obtain ⟨h1, h2⟩ := ok_app.mp hS; have hA := (up_A hch k ht (ap _) h2).2; have hc := h S (eqok_app.mpr ⟨cast_ok.mp h1, hA⟩); have hall : ∀ u, u < 11 → S u = S 0 := fun u hu => by
   by_cases q : u < 6
   · exact hc u 0 q (by decide)
   have := up_all hch k (c := S 0) (fun i hi => hc i 0 hi (by decide)) ht (ap _) h2 (u - 6) (a444) (a443 hu); rw [show 6 + (u - 6) = u from by exact a442 q] at this
   exact this
 rw [hall u hu, hall v hv]
end
section
noncomputable def fullN : Nat := 18446744073709551615
noncomputable def oneN : Nat := 9223372036854775809
noncomputable def memT : Nat := 39402006187220484750454708497542934602463800840079829649605598604706014092498358646719762390947231045808697390049962
noncomputable def xaN (a : Nat) : Nat := cR (eD memT (gz 64 a)) fullN
noncomputable def eqN (a b : Nat) : Nat := Nat.xor (Nat.xor (xaN a) (xaN b)) fullN
noncomputable def FB (k sub : Nat) : BT → Nat
 | .lf _ => fullN
 | .nd mid l r => cR (match ku k mid with | true => fullN | false => eqN (rep k sub l) (rep k sub r)) (cR (FB k sub l) (FB k sub r))
noncomputable def GB : List (Nat × Nat) → Nat
 | [] => fullN
 | p :: r => cR (eqN p.1 p.2) (GB r)
theorem eqN_is : (ae 6).all (fun a => (ae 6).all fun b => (ae 64).all fun X => ku (eqN a b) X == (ku X a == ku X b)) = true := by decide +kernel
theorem full_is : (ae 64).all (fun X => ku fullN X) = true := by decide +kernel
theorem one_is : (ae 64).all (fun X => ku oneN X == (cj X 0 || cj X 63)) = true := by decide +kernel
theorem const_is : (ae 64).all (fun X => !((ae 6).all fun i => ku X i == ku X 0) || (cj X 0 || cj X 63)) = true := by decide +kernel
theorem zero_is : (ae 6).all (fun i => !ku 0 i && ku 63 i) = true := by decide +kernel
noncomputable def rn (a b c d e f : Bool) : Nat := a.toNat + 2 * b.toNat + 4 * c.toNat + 8 * d.toNat + 16 * e.toNat + 32 * f.toNat
theorem mark_of : ∀ a b c d e f : Bool, rn a b c d e f < 64 ∧ ku (rn a b c d e f) 0 = a ∧ ku (rn a b c d e f) 1 = b ∧ ku (rn a b c d e f) 2 = c ∧ ku (rn a b c d e f) 3 = d ∧ ku (rn a b c d e f) 4 = e ∧ ku (rn a b c d e f) 5 = f := by decide +kernel
theorem mark_ex (s : Nat → Bool) : ∃ X, X < 64 ∧ ∀ i, i < 6 → X.testBit i = s i := by
 refine x07 (mark_of (s 0) (s 1) (s 2) (s 3) (s 4) (s 5)) fun hX h0 h1 h2 h3 h4 h5 => ?_; refine ⟨_, hX, fun i hi => ?_⟩; rw [← jW]; match i, hi with
 | 0, _ => exact h0
 | 1, _ => exact h1
 | 2, _ => exact h2
 | 3, _ => exact h3
 | 4, _ => exact h4
 | 5, _ => exact h5
theorem eqN_bit {a b X : Nat} (ha : a < 6) (hb : b < 6) (hX : X < 64) : (eqN a b).testBit X = true ↔ X.testBit a = X.testBit b := by
 have := jy (jy (jy eqN_is ha) hb) hX; rw [beq_iff_eq, jW, jW, jW] at this; rw [this, beq_iff_eq]
theorem qe {X : Nat} (hX : X < 64) : fullN.testBit X = true := by rw [← jW]; exact jy full_is hX
theorem FB_bit (k sub : Nat) {X : Nat} (hX : X < 64) : ∀ {t : BT} {a b : Nat}, t.io a b → b ≤ 5 → ((FB k sub t).testBit X = true ↔ tL X.testBit (eqs k sub t))
 | .lf i, a, b, _, _ => ⟨fun _ e he => (by cases he), fun _ => qe hX⟩
 | .nd mid l r, a, b, ⟨h1, h2⟩, hb => by
   have l2 := lp h2; unfold FB eqs; rw [lI, lI, eqok_app, eqok_app, co, co, FB_bit k sub hX h1 (qv hb l2), FB_bit k sub hX h2 hb]; refine and_congr_left fun _ => ?_; cases ku k mid with
   | true => exact ⟨fun _ e he => (by cases he), fun _ => qe hX⟩
   | false =>
     have r1 := oB k sub h1; have r2 := oB k sub h2; show (eqN _ _).testBit X = true ↔ _
     rw [eqN_bit (a471 hb l2 r1) (a451 hb r2) hX]; constructor
     · intro h e he; rw [mSg he]; exact h
     intro h; exact h (rep k sub l, rep k sub r) (cm.mpr rfl)
theorem GB_bit {X : Nat} (hX : X < 64) : ∀ {lks : List (Nat × Nat)}, (∀ p ∈ lks, p.1 < 6 ∧ p.2 < 6) → ((GB lks).testBit X = true ↔ tL X.testBit lks)
 | [], _ => ⟨fun _ e he => (by cases he), fun _ => qe hX⟩
 | p :: r, h => by
   have hp := h p (.head _); show (cR (eqN p.1 p.2) (GB r)).testBit X = true ↔ _
   rw [lI, co, GB_bit hX (fun q hq => h q (.tail _ hq)), eqN_bit hp.1 hp.2 hX]; constructor
   · rintro ⟨h1, h2⟩ e he; rcases mCo he with rfl | he
     · exact h1
     exact h2 e he
   intro h; exact ⟨h p (.head _), fun e he => h e (.tail _ he)⟩
theorem full_lt : fullN < 2 ^ 64 := by decide +kernel
theorem one_lt : oneN < 2 ^ 64 := by decide +kernel
theorem GB_high {X : Nat} (hX : 64 ≤ X) : ∀ lks, (GB lks).testBit X = false
 | [] => eB (ao full_lt (b0 (by decide) hX))
 | p :: r => by
   show (cR (eqN p.1 p.2) (GB r)).testBit X = false
   rw [lI, GB_high hX r, cQ]
theorem leaf_conn (k sub : Nat) {t : BT} (ht : t.io 0 5) {lks : List (Nat × Nat)} (hl : ∀ p ∈ lks, p.1 < 6 ∧ p.2 < 6) : LConn (lks ++ eqs k sub t) ↔ cj (cR (FB k sub t) (GB lks)) oneN = true := by
 have hbit : ∀ X, X < 64 → ((cR (FB k sub t) (GB lks)).testBit X = true ↔ tL X.testBit (lks ++ eqs k sub t)) := fun X hX => by
   rw [lI, co, FB_bit k sub hX ht (ap _), GB_bit hX hl, eqok_app]; exact and_comm
 have hin : ∀ e ∈ lks ++ eqs k sub t, e.1 < 6 ∧ e.2 < 6 := fun e he => by
   rcases mAp he with h | h
   · exact hl e h
   have := eqs_lt k sub ht e h; exact a470 this
 have hone : ∀ X, X < 64 → (oneN.testBit X = true ↔ X = 0 ∨ X = 63) := fun X hX => by
   have := jy one_is hX; rw [beq_iff_eq, jW] at this; rw [this, cA, d5, d5]
 have h0 : ∀ X, (X = 0 ∨ X = 63) → ∀ i j, i < 6 → j < 6 → X.testBit i = X.testBit j := fun X hX i j hi hj => by
   have a := aU.mp (jy zero_is hi); have b := aU.mp (jy zero_is hj); rw [jW, jW] at a b; rcases hX with rfl | rfl
   · rw [ez] at a b; rw [a.1, b.1]
   rw [a.2, b.2]
 constructor
 · intro h; rw [d5]; refine gx fun X => ?_; by_cases hX : X < 64
   · rw [bF, hbit X hX, hone X hX]; constructor
     · intro hs; have hc := h _ hs; have := jy const_is hX; rw [cA, cA, d5, d5] at this; rcases this with q | q
       · exfalso
         rw [ez, ← dB] at q; refine q (aA.mpr fun i hi => ?_); rw [beq_iff_eq, jW, jW]; exact hc i 0 (az.mp hi) (by decide)
       exact q
     intro hx e he; have := hin e he; exact h0 X hx _ _ this.1 this.2
   rw [lI, GB_high (a469 hX), cQ]; exact (eB (ao one_lt (b0 (by decide) (a469 hX)))).symm
 intro h s hs i j hi hj; have h := bY h; refine x12 (mark_ex s) fun X hX hXs => ?_; have : tL X.testBit (lks ++ eqs k sub t) := fun e he => by
   have q := hin e he; rw [hXs _ q.1, hXs _ q.2]; exact hs e he
 have := (hbit X hX).mpr this; rw [h, hone X hX] at this; rw [← hXs i hi, ← hXs j hj]; exact h0 X this i j hi hj
noncomputable def subsT : List (List Nat) := [[0, 1, 2, 3, 4, 5, 6, 7], [0, 1, 2, 3, 8, 9, 10, 11], [0, 1, 4, 5, 8, 9, 12, 13], [0, 2, 4, 6, 8, 10, 12, 14], [0, 1, 2, 3, 16, 17, 18, 19], [0, 1, 4, 5, 16, 17, 20, 21], [0, 2, 4, 6, 16, 18, 20, 22], [0, 1, 8, 9, 16, 17, 24, 25], [0, 2, 8, 10, 16, 18, 24, 26], [0, 4, 8, 12, 16, 20, 24, 28], [0, 1, 2, 3], [0, 2, 4, 6, 8, 10, 12, 14, 16, 18, 20, 22, 24, 26, 28, 30]]
theorem subs_is : (ae 12).all (fun i => (ae (2 ^ (jG (jx i)).length)).map (kY (jx i)) == subsT.getD i []) = true := by decide +kernel
theorem qR : (ae 12).all (fun i => (ae (2 ^ (jG (jx i)).length)).all fun ch => (ae 5).all fun mid => ((chosen (jx i) ch).any fun x => x == (mid : Int)) == ku (kY (jx i) ch) mid) = true := by decide +kernel
theorem zeros_is : (ae 12).all (fun i => cj ((bC 0 5).filter fun m => !ku (jx i) m).length 2 == dJ i 10) = true := by decide +kernel
theorem pow_pos2 (n : Nat) : 0 < 2 ^ n := Nat.pow_pos (by decide)
theorem net_is {i : Nat} (hi : i < 12) {t : BT} (ht : t.io 0 5) {lks : List (Nat × Nat)} (hl3 : lks.length = 3) (hl : ∀ p ∈ lks, p.1 < 6 ∧ p.2 < 6) :
   ke lks (t.toTr (jx i)) (jx i) (2 ^ (jG (jx i)).length) = (dJ i 10 && (subsT.getD i []).all fun sub => cj (cR (FB (jx i) sub t) (GB lks)) oneN) := by
 have hs := bT (jy subs_is hi); rw [← hs, List.all_map]; unfold ke; have hone : ∀ ch, ch < 2 ^ (jG (jx i)).length → kG ((lks.map fun p => ((p.1 : Int), (p.2 : Int))) ++ ties (chosen (jx i) ch) (t.toTr (jx i))) = (dJ i 10 && cj (cR (FB (jx i) (kY (jx i) ch) t) (GB lks)) oneN) := fun ch hch => by
   have hc : ∀ mid : Nat, mid < 5 → (chosen (jx i) ch).any (fun x => x == (mid : Int)) = ku (kY (jx i) ch) mid := fun mid hm => bT (jy (jy (jy qR hi) hch) hm); have htin : ∀ p ∈ qS lks ++ ties (chosen (jx i) ch) (t.toTr (jx i)), tin p := fun p hp => by
     rcases mAp hp with h | h
     · obtain ⟨e, he, rfl⟩ := mMa h; have := hl e he; exact ⟨by show (e.1 : Int).toNat < 11; exact a468 this, by show (e.2 : Int).toNat < 11; exact a467 this⟩
     have := pM hc (jx i) ht (ap _) p h; exact ⟨by exact a466 this, by exact a465 this⟩
   have hlen := og hc (jx i) ht (ap _); have hz := bT (jy zeros_is hi); have hlen2 : (qS lks ++ ties (chosen (jx i) ch) (t.toTr (jx i))).length = 10 ↔ dJ i 10 = true := by
     rw [← hz, d5, aw, show (qS lks).length = 3 from by unfold qS; rw [al, hl3]]
     have e5 : 5 - 0 = 5 := rfl; rw [e5] at hlen; (first | lia | omega)
   show kG (qS lks ++ _) = _
   rw [bF, qF htin, hlen2, conn_leaf hc (jx i) ht hl, leaf_conn (jx i) _ ht hl, co]
 have e1 : ((ae (2 ^ (jG (jx i)).length)).all fun ch => kG ((lks.map fun p => ((p.1 : Int), (p.2 : Int))) ++ ties (chosen (jx i) ch) (t.toTr (jx i)))) = ((ae (2 ^ (jG (jx i)).length)).all fun ch => (dJ i 10 && cj (cR (FB (jx i) (kY (jx i) ch) t) (GB lks)) oneN)) := by
   rw [bF, aA, aA]; exact forall_congr' fun ch => forall_congr' fun h => by rw [hone ch (az.mp h)]
 rw [e1]; cases hb : dJ i 10 with
 | true => simp only [i5]; rfl
 | false =>
   rw [cP, ← dB, aA]; intro h; have := h 0 (az.mpr (pow_pos2 _)); simp at this
end
section
noncomputable def seqN {α : Type} (x : Nat) (f : Nat → α) : α := match x with
 | 0 => f 0
 | m + 1 => f (m + 1)
theorem q7 {α : Type} (x : Nat) (f : Nat → α) : seqN x f = f x := by cases x <;> rfl
noncomputable def pD {α : Type} : List Nat → (List Nat → α) → α
 | [], c => c []
 | x :: r, c => seqN x fun y => pD r fun s => c (y :: s)
theorem oO {α : Type} : ∀ (l : List Nat) (c : List Nat → α), pD l c = c l
 | [], c => rfl
 | x :: r, c => by
   unfold pD; rw [q7, oO r]
noncomputable def eqBT : BT → BT → Bool
 | .lf i, .lf j => cj i j
 | .nd m l r, .nd m' l' r' => cj m m' && eqBT l l' && eqBT r r'
 | _, _ => false
theorem rC : ∀ {a b : BT}, eqBT a b = true → a = b
 | .lf i, .lf j, h => by rw [bY h]
 | .nd m l r, .nd m' l' r', h => by
   obtain ⟨h1, h3⟩ := aU.mp h; obtain ⟨h1, h2⟩ := aU.mp h1; rw [bY h1, rC h2, rC h3]
noncomputable def shp : List BT := [
 .nd 4 (.nd 3 (.nd 2 (.nd 1 (.nd 0 (.lf 0) (.lf 1)) (.lf 2)) (.lf 3)) (.lf 4)) (.lf 5),
 .nd 4 (.nd 3 (.nd 2 (.nd 0 (.lf 0) (.nd 1 (.lf 1) (.lf 2))) (.lf 3)) (.lf 4)) (.lf 5),
 .nd 4 (.nd 3 (.nd 1 (.nd 0 (.lf 0) (.lf 1)) (.nd 2 (.lf 2) (.lf 3))) (.lf 4)) (.lf 5),
 .nd 4 (.nd 2 (.nd 1 (.nd 0 (.lf 0) (.lf 1)) (.lf 2)) (.nd 3 (.lf 3) (.lf 4))) (.lf 5),
 .nd 3 (.nd 2 (.nd 1 (.nd 0 (.lf 0) (.lf 1)) (.lf 2)) (.lf 3)) (.nd 4 (.lf 4) (.lf 5)),
 .nd 4 (.nd 3 (.nd 0 (.lf 0) (.nd 2 (.nd 1 (.lf 1) (.lf 2)) (.lf 3))) (.lf 4)) (.lf 5),
 .nd 4 (.nd 3 (.nd 0 (.lf 0) (.nd 1 (.lf 1) (.nd 2 (.lf 2) (.lf 3)))) (.lf 4)) (.lf 5),
 .nd 4 (.nd 2 (.nd 0 (.lf 0) (.nd 1 (.lf 1) (.lf 2))) (.nd 3 (.lf 3) (.lf 4))) (.lf 5),
 .nd 3 (.nd 2 (.nd 0 (.lf 0) (.nd 1 (.lf 1) (.lf 2))) (.lf 3)) (.nd 4 (.lf 4) (.lf 5)),
 .nd 4 (.nd 1 (.nd 0 (.lf 0) (.lf 1)) (.nd 3 (.nd 2 (.lf 2) (.lf 3)) (.lf 4))) (.lf 5),
 .nd 4 (.nd 1 (.nd 0 (.lf 0) (.lf 1)) (.nd 2 (.lf 2) (.nd 3 (.lf 3) (.lf 4)))) (.lf 5),
 .nd 3 (.nd 1 (.nd 0 (.lf 0) (.lf 1)) (.nd 2 (.lf 2) (.lf 3))) (.nd 4 (.lf 4) (.lf 5)),
 .nd 2 (.nd 1 (.nd 0 (.lf 0) (.lf 1)) (.lf 2)) (.nd 4 (.nd 3 (.lf 3) (.lf 4)) (.lf 5)),
 .nd 2 (.nd 1 (.nd 0 (.lf 0) (.lf 1)) (.lf 2)) (.nd 3 (.lf 3) (.nd 4 (.lf 4) (.lf 5))),
 .nd 4 (.nd 0 (.lf 0) (.nd 3 (.nd 2 (.nd 1 (.lf 1) (.lf 2)) (.lf 3)) (.lf 4))) (.lf 5),
 .nd 4 (.nd 0 (.lf 0) (.nd 3 (.nd 1 (.lf 1) (.nd 2 (.lf 2) (.lf 3))) (.lf 4))) (.lf 5),
 .nd 4 (.nd 0 (.lf 0) (.nd 2 (.nd 1 (.lf 1) (.lf 2)) (.nd 3 (.lf 3) (.lf 4)))) (.lf 5),
 .nd 3 (.nd 0 (.lf 0) (.nd 2 (.nd 1 (.lf 1) (.lf 2)) (.lf 3))) (.nd 4 (.lf 4) (.lf 5)),
 .nd 4 (.nd 0 (.lf 0) (.nd 1 (.lf 1) (.nd 3 (.nd 2 (.lf 2) (.lf 3)) (.lf 4)))) (.lf 5),
 .nd 4 (.nd 0 (.lf 0) (.nd 1 (.lf 1) (.nd 2 (.lf 2) (.nd 3 (.lf 3) (.lf 4))))) (.lf 5),
 .nd 3 (.nd 0 (.lf 0) (.nd 1 (.lf 1) (.nd 2 (.lf 2) (.lf 3)))) (.nd 4 (.lf 4) (.lf 5)),
 .nd 2 (.nd 0 (.lf 0) (.nd 1 (.lf 1) (.lf 2))) (.nd 4 (.nd 3 (.lf 3) (.lf 4)) (.lf 5)),
 .nd 2 (.nd 0 (.lf 0) (.nd 1 (.lf 1) (.lf 2))) (.nd 3 (.lf 3) (.nd 4 (.lf 4) (.lf 5))),
 .nd 1 (.nd 0 (.lf 0) (.lf 1)) (.nd 4 (.nd 3 (.nd 2 (.lf 2) (.lf 3)) (.lf 4)) (.lf 5)),
 .nd 1 (.nd 0 (.lf 0) (.lf 1)) (.nd 4 (.nd 2 (.lf 2) (.nd 3 (.lf 3) (.lf 4))) (.lf 5)),
 .nd 1 (.nd 0 (.lf 0) (.lf 1)) (.nd 3 (.nd 2 (.lf 2) (.lf 3)) (.nd 4 (.lf 4) (.lf 5))),
 .nd 1 (.nd 0 (.lf 0) (.lf 1)) (.nd 2 (.lf 2) (.nd 4 (.nd 3 (.lf 3) (.lf 4)) (.lf 5))),
 .nd 1 (.nd 0 (.lf 0) (.lf 1)) (.nd 2 (.lf 2) (.nd 3 (.lf 3) (.nd 4 (.lf 4) (.lf 5)))),
 .nd 0 (.lf 0) (.nd 4 (.nd 3 (.nd 2 (.nd 1 (.lf 1) (.lf 2)) (.lf 3)) (.lf 4)) (.lf 5)),
 .nd 0 (.lf 0) (.nd 4 (.nd 3 (.nd 1 (.lf 1) (.nd 2 (.lf 2) (.lf 3))) (.lf 4)) (.lf 5)),
 .nd 0 (.lf 0) (.nd 4 (.nd 2 (.nd 1 (.lf 1) (.lf 2)) (.nd 3 (.lf 3) (.lf 4))) (.lf 5)),
 .nd 0 (.lf 0) (.nd 3 (.nd 2 (.nd 1 (.lf 1) (.lf 2)) (.lf 3)) (.nd 4 (.lf 4) (.lf 5))),
 .nd 0 (.lf 0) (.nd 4 (.nd 1 (.lf 1) (.nd 3 (.nd 2 (.lf 2) (.lf 3)) (.lf 4))) (.lf 5)),
 .nd 0 (.lf 0) (.nd 4 (.nd 1 (.lf 1) (.nd 2 (.lf 2) (.nd 3 (.lf 3) (.lf 4)))) (.lf 5)),
 .nd 0 (.lf 0) (.nd 3 (.nd 1 (.lf 1) (.nd 2 (.lf 2) (.lf 3))) (.nd 4 (.lf 4) (.lf 5))),
 .nd 0 (.lf 0) (.nd 2 (.nd 1 (.lf 1) (.lf 2)) (.nd 4 (.nd 3 (.lf 3) (.lf 4)) (.lf 5))),
 .nd 0 (.lf 0) (.nd 2 (.nd 1 (.lf 1) (.lf 2)) (.nd 3 (.lf 3) (.nd 4 (.lf 4) (.lf 5)))),
 .nd 0 (.lf 0) (.nd 1 (.lf 1) (.nd 4 (.nd 3 (.nd 2 (.lf 2) (.lf 3)) (.lf 4)) (.lf 5))),
 .nd 0 (.lf 0) (.nd 1 (.lf 1) (.nd 4 (.nd 2 (.lf 2) (.nd 3 (.lf 3) (.lf 4))) (.lf 5))),
 .nd 0 (.lf 0) (.nd 1 (.lf 1) (.nd 3 (.nd 2 (.lf 2) (.lf 3)) (.nd 4 (.lf 4) (.lf 5)))),
 .nd 0 (.lf 0) (.nd 1 (.lf 1) (.nd 2 (.lf 2) (.nd 4 (.nd 3 (.lf 3) (.lf 4)) (.lf 5)))),
 .nd 0 (.lf 0) (.nd 1 (.lf 1) (.nd 2 (.lf 2) (.nd 3 (.lf 3) (.nd 4 (.lf 4) (.lf 5)))))]
noncomputable def shpIx : List Nat := [0, 1, 2, 3, 4, 2, 5, 6, 7, 8, 3, 7, 9, 10, 11, 4, 8, 11, 12, 13, 3, 7, 9, 10, 11, 9, 14, 15, 16, 17, 10, 16, 18, 19, 20, 11, 17, 20, 21, 22, 4, 8, 11, 12, 13, 11, 17, 20, 21, 22, 12, 21, 23, 24, 25, 13, 22, 25, 26, 27, 4, 8, 11, 12, 13, 11, 17, 20, 21, 22, 12, 21, 23, 24, 25, 13, 22, 25, 26, 27, 12, 21, 23, 24, 25, 23, 28, 29, 30, 31, 24, 30, 32, 33, 34, 25, 31, 34, 35, 36, 13, 22, 25, 26, 27, 25, 31, 34, 35, 36, 26, 35, 37, 38, 39, 27, 36, 39, 40, 41]
theorem shape_is : (ae 120).all (fun g => eqBT (j8 g).toB (shp.getD (shpIx.getD g 42) cD) && dJ (shpIx.getD g 42) 42) = true := by decide +kernel
noncomputable def gT : List Nat := [10378826816252055561, 10376303437075709961, 10376294160087908361, 9520891087237973025, 9511638696898854945, 9511602980495818785, 9385783098416857665, 9241421688590303745, 9241395249175069185, 9367558693194956865, 9232449673707521025, 9225694223129513985, 9367487784366899265, 9232388041867265025, 9225659030704492545]
noncomputable def flatC : Nat := 20549
noncomputable def laneOk (p q u : Nat) (net : Bool) : Bool := (ku p u == net) && (ku q u == (net && ku flatC u))
noncomputable def qo (i : Nat) (b : BT) : Bool :=
 seqN (jx i) fun k => seqN (prvM k false 5 [b]) fun p => seqN (prvM k true 5 [b]) fun q => pD ((subsT.getD i []).map fun s => FB k s b) fun Fs =>
   (ae 15).all fun u => seqN (gT.getD u 0) fun G => laneOk p q u (dJ i 10 && Fs.all fun F => cj (cR F G) oneN)
theorem check_0 : (ae 6).all (fun j => (ae 12).all fun i => qo i (shp.getD (0 + j) cD)) = true := by decide +kernel
theorem check_1 : (ae 6).all (fun j => (ae 12).all fun i => qo i (shp.getD (6 + j) cD)) = true := by decide +kernel
theorem check_2 : (ae 6).all (fun j => (ae 12).all fun i => qo i (shp.getD (12 + j) cD)) = true := by decide +kernel
theorem check_3 : (ae 6).all (fun j => (ae 12).all fun i => qo i (shp.getD (18 + j) cD)) = true := by decide +kernel
theorem check_4 : (ae 6).all (fun j => (ae 12).all fun i => qo i (shp.getD (24 + j) cD)) = true := by decide +kernel
theorem check_5 : (ae 6).all (fun j => (ae 12).all fun i => qo i (shp.getD (30 + j) cD)) = true := by decide +kernel
theorem check_6 : (ae 6).all (fun j => (ae 12).all fun i => qo i (shp.getD (36 + j) cD)) = true := by decide +kernel
theorem check_all {j : Nat} (hj : j < 42) {i : Nat} (hi : i < 12) : qo i (shp.getD j cD) = true := by
 have e : j = 6 * (j / 6) + j % 6 := a475
 have h6 : j % 6 < 6 := a474
 rw [e]; have hq := a473 hj; generalize j / 6 = q at hq ⊢; cases q with
 | zero => exact jy (jy check_0 h6) hi
 | succ q =>
   replace hq := jh hq; revert q
   exact lt6 (jy (jy check_1 h6) hi) (jy (jy check_2 h6) hi) (jy (jy check_3 h6) hi) (jy (jy check_4 h6) hi) (jy (jy check_5 h6) hi) (jy (jy check_6 h6) hi)
theorem io_lv : ∀ {t : BT} {a b : Nat}, t.io a b → ∀ i ∈ t.lv, i ≤ b
 | .lf _, _, _, ⟨h1, h2⟩, i, hi => by rw [mSg hi]; exact a334 h2
 | .nd mid l r, _, _, ⟨h1, h2⟩, i, hi => by
   have := lp h2; rcases mAp hi with h | h
   · have := io_lv h1 i h; exact a464 (by assumption) this
   exact io_lv h2 i h
theorem heart {rd : List Str} {u : Nat} (hu : u < 15) (T : Tie rd u) {lks : List (Nat × Nat)} (hl3 : lks.length = 3) (hl : ∀ p ∈ lks, p.1 < 6 ∧ p.2 < 6) (hG : GB lks = gT.getD u 0) (hF : nc rd lks = ku flatC u) {g i : Nat} (hg : g < 120) (hi : i < 12) :
   prv rd false 5 [jX g (jx i)] = ke lks (jX g (jx i)) (jx i) (2 ^ (jG (jx i)).length) ∧ prv rd true 5 [jX g (jx i)] = (ke lks (jX g (jx i)) (jx i) (2 ^ (jG (jx i)).length) && nc rd lks) := by
 obtain ⟨h1, h2⟩ := aU.mp (jy shape_is hg); have hB := rC h1; have hj : shpIx.getD g 42 < 42 := ei.mp h2; have hio := sf (kS hg); have ht : jX g (jx i) = (j8 g).toB.toTr (jx i) := (nR (jx i) (j8 g)).symm; have hc := check_all hj hi; rw [← hB] at hc; have hsix : six [(j8 g).toB] := fun x hx => by
   have := io_lv hio x (by simpa [lvL] using hx); exact a472 this
 rw [ht, net_is hi hio hl3 hl, hG, hF]; unfold qo at hc; simp only [q7, oO] at hc; have hc := jy hc hu; unfold laneOk at hc; obtain ⟨c1, c2⟩ := aU.mp hc; have c1 := bT c1; have c2 := bT c2; rw [jW, List.all_map] at c1 c2; have p1 := rb hu T (jx i) false 5 [(j8 g).toB] hsix; have p2 := rb hu T (jx i) true 5 [(j8 g).toB] hsix; rw [c1] at p1; rw [c2] at p2; exact ⟨p1.symm, p2.symm⟩
end
section
noncomputable def muT : Nat := 1451746566778088242599088568523332619014506143825780906322095584581826596990181907562215893305509662988658941558033930729729069548186026958608182895496922984762799038065080726500328819400738992480751504787725573698520784357782967970448041696791670530800648880670681214828149610418509752442010756419500058384204790950022796497167531530413446949167707239341113986602390865404838724532930119436969534292918155722827606992520730505869540750581463893069472469766322922710802842246009391058202324987871630094025505313513625856570051156445863306346714100155005323115533271656778750610098521621074021755103462239475869454271489857365487938002882294240692468626845678720439926582571028232731716053610747986207961227289075177852466997942429290770367725918059438739960048269177774848927029518633893594249131743357629183637275677483802191994686220727697863205365311443301066240
noncomputable def qI (o : Nat) : Nat := cR (eD muT (gz 4 o)) 15
noncomputable def flT : Nat := 135754164466997777687171157
noncomputable def po (P : List Nat) (c : Nat) : List Nat := (ae 6).filter fun j => cj (Nat.div (P.getD j 6) 2) c
noncomputable def pairOf : List Nat → Nat × Nat
 | [p, q] => (p, q)
 | _ => (6, 6)
noncomputable def pairOk (M : List Nat) : List Nat → Bool
 | [p, q] => dJ p q && dJ q 6 && cj (M.getD p 6) q
 | _ => false
noncomputable def lksP (P : List Nat) : List (Nat × Nat) := (ae 3).map fun c => pairOf (po P c)
noncomputable def mW (o : Nat) : List (Nat × Nat) := lksP (jP o)
noncomputable def okP (P : List Nat) (u : Nat) (M : List Nat) : Bool :=
 dJ u 15 && ((ae 6).all fun i => (ae 6).all fun j => cj (P.getD j 6) (Nat.xor (P.getD i 6) 1) == cj j (M.getD i 6)) &&
 ((ae 3).all fun c => pairOk M (po P c)) && cj (GB (lksP P)) (gT.getD u 0) && ((lksP P).all fun p => ku flT (Nat.add (gz 6 u) p.1)) == ku flatC u
noncomputable def okO (o : Nat) : Bool := pD (jP o) fun P => seqN (qI o) fun u => pD (mateT.getD u []) fun M => okP P u M
theorem ok_0 : (ae 120).all (fun o => okO o) = true := by decide +kernel
theorem ok_1 : (ae 120).all (fun o => okO (120 + o)) = true := by decide +kernel
theorem ok_2 : (ae 120).all (fun o => okO (240 + o)) = true := by decide +kernel
theorem ok_3 : (ae 120).all (fun o => okO (360 + o)) = true := by decide +kernel
theorem ok_4 : (ae 120).all (fun o => okO (480 + o)) = true := by decide +kernel
theorem ok_5 : (ae 120).all (fun o => okO (600 + o)) = true := by decide +kernel
end
section
theorem okO_all {o : Nat} (ho : o < 720) : okP (jP o) (qI o) (mateT.getD (qI o) []) = true := by
 have h : okO o = true := by
   have e : o = 120 * (o / 120) + o % 120 := a485
   have h6 : o % 120 < 120 := a484
   rw [e]; have hq := a483 ho; generalize o % 120 = r at h6 ⊢; generalize o / 120 = q at hq ⊢; revert q
   exact lt6 (by rw [Nat.mul_zero, Nat.zero_add]; exact jy ok_0 h6) (jy ok_1 h6) (jy ok_2 h6) (jy ok_3 h6) (jy ok_4 h6) (jy ok_5 h6)
 unfold okO at h; simp only [q7, oO] at h; exact h
theorem rd_get {o : Nat} (ho : o < 720) {i : Nat} (hi : i < 6) : (mj o).getD i aj = km ((jP o).getD i 6) := by
 have hl : i < (jP o).length := by rw [lj ho]; exact hi
 unfold mj; rw [ab, ar, ac hl, ab, ac hl]; rfl
theorem swap_is : ∀ x, x < 6 → ∀ y, y < 6 → (km y == aI (km x)) = cj y (Nat.xor x 1) := by decide +kernel
structure Ord (o : Nat) : Prop where
 u15 : qI o < 15
 tie : Tie (mj o) (qI o)
 pair : ∀ c, c < 3 → ∃ p q, po (jP o) c = [p, q] ∧ p < q ∧ q < 6 ∧ mt (qI o) p = q
 mark : GB (mW o) = gT.getD (qI o) 0
 flat : ((mW o).all fun p => ku flT (Nat.add (gz 6 (qI o)) p.1)) = ku flatC (qI o)
theorem pair_of {M l : List Nat} (h : pairOk M l = true) : ∃ p q, l = [p, q] ∧ p < q ∧ q < 6 ∧ M.getD p 6 = q := by
 unfold pairOk at h; split at h
 · rename_i p q
   obtain ⟨h1, h3⟩ := aU.mp h; obtain ⟨h1, h2⟩ := aU.mp h1; exact ⟨p, q, rfl, ei.mp h1, ei.mp h2, bY h3⟩
 cases h
theorem mR {o : Nat} (ho : o < 720) : Ord o := by
 have h := okO_all ho; unfold okP at h; simp only [co] at h; obtain ⟨⟨⟨⟨h1, h2⟩, h3⟩, h4⟩, h5⟩ := h; refine ⟨ei.mp h1, fun i hi j hj => ?_, fun c hc => pair_of (jy h3 hc), bY h4, bT h5⟩; rw [rd_get ho hi, rd_get ho hj, swap_is _ (kB ho hi) _ (kB ho hj)]; exact bT (jy (jy h2 hi) hj)
theorem lks_get {o c : Nat} (hc : c < 3) : (mW o)[c]? = some (pairOf (po (jP o) c)) := by
 unfold mW lksP; rw [ar, bX hc]; rfl
theorem lks3 (o : Nat) : (mW o).length = 3 := rfl
theorem lks_mem {o : Nat} (ho : o < 720) : ∀ p ∈ mW o, p.1 < p.2 ∧ p.2 < 6 ∧ mt (qI o) p.1 = p.2 := by
 intro p hp; obtain ⟨c, hc, rfl⟩ := mMa hp; refine x24 ((mR ho).pair c (az.mp hc)) fun a b h1 h2 h3 h4 => ?_; rw [h1]; exact ⟨h2, h3, h4⟩
theorem lks_lt {o : Nat} (ho : o < 720) : ∀ p ∈ mW o, p.1 < 6 ∧ p.2 < 6 := fun p hp => by
 have := lks_mem ho p hp; exact a481 this
noncomputable def rowS (u : Nat) : Str := dC (aa "") ((ae 6).map fun j => if dJ (mt u j) j then aa ")" else aa "(")
theorem row_is {o : Nat} (ho : o < 720) : oA (mj o) = rowS (qI o) := by
 have O := mR ho; unfold oA rowS jV; rw [nJ ho]; congr 1
 refine bW fun j hj => ?_; have hj := az.mp hj; have e : ((mj o).take j).any (· == aI ((mj o).getD j aj)) = dJ (mt (qI o) j) j := by
   rw [bF, c5, ei]; constructor
   · rintro ⟨x, hx, hxe⟩; obtain ⟨i, hi, rfl⟩ := bn.mp hx; have hij : i < j ∧ i < 6 := by rw [bq, nJ ho] at hi; exact a480 hi
     rw [List.getElem_take] at hxe; have := O.tie j hj i hij.2; rw [ab, ac (by rw [nJ ho]; exact hij.2), dW, hxe] at this; rw [← bY this.symm]; exact hij.1
   intro hlt; have hm : mt (qI o) j < 6 := mt_six O.u15 hj; refine ⟨(mj o).getD (mt (qI o) j) aj, ?_, ?_⟩
   · rw [ab, ac (by rw [nJ ho]; exact hm)]; refine bn.mpr ⟨mt (qI o) j, by rw [bq, nJ ho]; exact a479 hj hlt, ?_⟩; rw [List.getElem_take]; rfl
   rw [O.tie j hj _ hm]; exact Nat.beq_refl _
 rw [e]
noncomputable def sevenB (r : Str) : List Bool := [chk (r ++ aa "\\"), chk (aa "\"" ++ r), chk (bk r (some 1) none), chk (bk r none (some (-1))), chk (aa ")" ++ r ++ aa "("), chk (r ++ aa "\"(")]
theorem seven_is : (ae 15).all (fun u => sevenB (rowS u) == [true, true, false, false, false, false]) = true := by decide +kernel
theorem flat_row : (ae 15).all (fun u => (ae 6).all fun p => !dJ p (mt u p) || (chk (bk (rowS u) (some ((p : Int) + 1)) (some (mt u p : Int))) == ku flT (Nat.add (gz 6 u) p))) = true := by decide +kernel
theorem f_seen {o g d : Nat} (ho : o < 720) (hg : g < 120) (k : Nat) : (mO (jY o g d k) (oA (mj o))).map chk = [true, true, true, false, false, false, false] := by
 rw [row_is ho]; show chk (jY o g d k) :: sevenB (rowS (qI o)) = _
 rw [f_chk ho hg, bT (jy seven_is (mR ho).u15)]
theorem f_flat {o : Nat} (ho : o < 720) : nc (mj o) (mW o) = ku flatC (qI o) := by
 rw [← (mR ho).flat]; unfold nc; rw [row_is ho, bF, aA, aA]; refine forall_congr' fun p => forall_congr' fun hp => ?_; refine x03 (lks_mem ho p hp) fun h1 h2 h3 => ?_; have := jy (jy flat_row (mR ho).u15) (show p.1 < 6 by exact a478 h1 h2)
 rw [h3, ei.mpr h1, Bool.not_true, i6] at this; rw [bT this]
theorem f_heart {o g i : Nat} (ho : o < 720) (hg : g < 120) (hi : i < 12) :
   prv (mj o) false 5 [jX g (jx i)] = ke (mW o) (jX g (jx i)) (jx i) (2 ^ (jG (jx i)).length) ∧ prv (mj o) true 5 [jX g (jx i)] = (ke (mW o) (jX g (jx i)) (jx i) (2 ^ (jG (jx i)).length) && nc (mj o) (mW o)) :=
 heart (mR ho).u15 (mR ho).tie (lks3 o) (lks_lt ho) (mR ho).mark (f_flat ho) hg hi
theorem f_rng {o g i : Nat} (ho : o < 720) (hg : g < 120) (hi : i < 12) : ∀ ch, ch < 2 ^ (jG (jx i)).length → ∀ p ∈ ((mW o).map fun p => ((p.1 : Int), (p.2 : Int))) ++ ties (chosen (jx i) ch) (jX g (jx i)), 0 ≤ p.1 ∧ p.1 < 11 ∧ 0 ≤ p.2 ∧ p.2 < 11 := by
 intro ch hch p hp; have hc : ∀ mid : Nat, mid < 5 → (chosen (jx i) ch).any (fun x => x == (mid : Int)) = ku (kY (jx i) ch) mid := fun mid hm => bT (jy (jy (jy qR hi) hch) hm); rcases mAp hp with h | h
 · obtain ⟨e, he, rfl⟩ := mMa h; have := lks_lt ho e he; exact ⟨by show 0 ≤ (e.1 : Int); exact a12, by show (e.1 : Int) < 11; exact a477 this, by show 0 ≤ (e.2 : Int); exact a12, by show (e.2 : Int) < 11; exact a476 this⟩
 have ht : jX g (jx i) = (j8 g).toB.toTr (jx i) := (nR (jx i) (j8 g)).symm; rw [ht] at h; exact pM hc (jx i) (sf (kS hg)) (ap _) p h
end
section
noncomputable def lowLit : List (List Nat) := [[111, 112, 116, 105, 109, 105, 122, 101, 100], [110, 101, 119, 108, 111, 99, 97, 108, 115], [118, 97, 114, 97, 114, 103, 115], [118, 97, 114, 107, 101, 121, 119, 111, 114, 100, 115], [110, 101, 115, 116, 101, 100], [103, 101, 110, 101, 114, 97, 116, 111, 114], [110, 111, 102, 114, 101, 101], [99, 111, 114, 111, 117, 116, 105, 110, 101], [105, 116, 101, 114, 97, 98, 108, 101, 95, 99, 111, 114, 111, 117, 116, 105, 110, 101], [97, 115, 121, 110, 99, 95, 103, 101, 110, 101, 114, 97, 116, 111, 114], [48, 120, 52, 48, 48], [48, 120, 56, 48, 48], [48, 120, 49, 48, 48, 48], [48, 120, 50, 48, 48, 48], [48, 120, 52, 48, 48, 48], [48, 120, 56, 48, 48, 48], [48, 120, 49, 48, 48, 48, 48], [48, 120, 50, 48, 48, 48, 48], [48, 120, 52, 48, 48, 48, 48], [48, 120, 56, 48, 48, 48, 48], [48, 120, 49, 48, 48, 48, 48, 48], [48, 120, 50, 48, 48, 48, 48, 48], [48, 120, 52, 48, 48, 48, 48, 48], [48, 120, 56, 48, 48, 48, 48, 48], [48, 120, 49, 48, 48, 48, 48, 48, 48], [48, 120, 50, 48, 48, 48, 48, 48, 48], [48, 120, 52, 48, 48, 48, 48, 48, 48], [48, 120, 56, 48, 48, 48, 48, 48, 48]]
noncomputable def eqL : List Nat → List Nat → Bool
 | [], [] => true
 | a :: x, b :: y => cj a b && eqL x y
 | _, _ => false
theorem eqL_is : ∀ {x y : List Nat}, eqL x y = true ↔ x = y
 | [], [] => ⟨fun _ => rfl, fun _ => rfl⟩
 | [], b :: y => ⟨fun h => (by cases h), fun h => (by cases h)⟩
 | a :: x, [] => ⟨fun h => (by cases h), fun h => (by cases h)⟩
 | a :: x, b :: y => by
   show (cj a b && eqL x y) = true ↔ _
   rw [co, d5, eqL_is, List.cons.injEq]
theorem low_lit : (ae 28).all (fun n => eqL (aQ (jD n)).cps.toList (lowLit.getD n [])) = true := by decide +kernel
theorem low_swp : (ae 28).all (fun n => eqL (aQ (aI (jD n))).cps.toList (lowLit.getD n [])) = true := by decide +kernel
theorem lit_inj : (ae 28).all (fun n => (ae 28).all fun m => eqL (lowLit.getD n []) (lowLit.getD m []) == cj n m) = true := by decide +kernel
theorem lit_len : (ae 28).all (fun n => dJ 1 (lowLit.getD n []).length) = true := by decide +kernel
theorem lit_zero : (ae 28).all (fun n => !eqL (lowLit.getD n []) [48, 120, 48]) = true := by decide +kernel
theorem r8 : (aQ (aI (aa "0x0"))).cps.toList = [48, 120, 48] := by decide +kernel
theorem low_pool : (ae 6).all (fun x => eqL (aQ (km x)).cps.toList [Nat.add 97 (Nat.div x 2)]) = true := by decide +kernel
theorem low_abc : (ae 3).all (fun c => eqL (aQ ⟨#[abc.cps.getD c 0]⟩).cps.toList [Nat.add 97 c]) = true := by decide +kernel
theorem cps_inj {x y : Str} : x = y ↔ x.cps.toList = y.cps.toList := ⟨fun h => by rw [h], om⟩
theorem oT {x y : Str} {a b : List Nat} (hx : x.cps.toList = a) (hy : y.cps.toList = b) : (x == y) = eqL a b := by
 rw [bF, beq_iff_eq, cps_inj, hx, hy, eqL_is]
theorem low_w {n : Nat} (hn : n < 28) : (aQ (jD n)).cps.toList = lowLit.getD n [] := eqL_is.mp (jy low_lit hn)
theorem low_s {n : Nat} (hn : n < 28) : (aQ (aI (jD n))).cps.toList = lowLit.getD n [] := eqL_is.mp (jy low_swp hn)
theorem low_p {x : Nat} (hx : x < 6) : (aQ (km x)).cps.toList = [97 + x / 2] := eqL_is.mp (jy low_pool hx)
theorem low_c {c : Nat} (hc : c < 3) : (aQ ⟨#[abc.cps.getD c 0]⟩).cps.toList = [97 + c] := eqL_is.mp (jy low_abc hc)
noncomputable def wEnts (f : Nat) : List (Str × Str) := (ae 5).map fun k => (jD (f + k), nz k)
noncomputable def lEnts (o : Nat) : List (Str × Str) := (ae 6).map fun j => (km ((jP o).getD j 6), nz j)
theorem qg {o : Nat} (f : Nat) (ho : o < 720) : kd f (mj o) = wEnts f ++ lEnts o := by
 unfold kd nP wEnts lEnts; rw [aM, aT, aT, nJ ho]; refine congrArg (wEnts f ++ ·) (bW fun j hj => ?_); show ((mj o).getD j aj, nz j) = _
 rw [rd_get ho (az.mp hj)]
theorem qO {α : Type} (d : α) : ∀ l : List α, (ae l.length).map (fun i => l.getD i d) = l
 | [] => rfl
 | x :: r => by
   rw [ay, fP, ag, aT]; exact congrArg (x :: ·) (qO d r)
theorem tg {α β : Type} (d : α) (p : α → Bool) (f : α → β) (l : List α) : ((ae l.length).filter fun i => p (l.getD i d)).map (fun i => f (l.getD i d)) = (l.filter p).map f := by
 have h := congrArg (fun z => (z.filter p).map f) (qO d l); simp only [ir, aT] at h; exact h
theorem f_all {f o : Nat} (hf : f < 24) (ho : o < 720) : ∀ j p q, (mW o)[j]? = some (p, q) → p < 6 ∧ q < 6 ∧ allOf (kd f (mj o)) ⟨#[abc.cps.getD j 0]⟩ = [nz p, nz q] := by
 intro j p q h; have hj : j < 3 := by
   have := (aC.mp h).1; rw [lks3] at this; exact this
 rw [lks_get hj] at h; refine x24 ((mR ho).pair j hj) fun a b h1 h2 h3 h4 => ?_; rw [h1] at h; injection h with h
 have h : (a, b) = (p, q) := h; injection h with e1 e2
 subst e1 e2; refine ⟨by exact a478 h2 h3, h3, ?_⟩; unfold allOf; have := tg (aj, aj) (fun p => aQ p.1 == aQ ⟨#[abc.cps.getD j 0]⟩) (fun p => p.2) (kd f (mj o)); rw [this, qg f ho, cI]; have hw : (wEnts f).filter (fun p => aQ p.1 == aQ ⟨#[abc.cps.getD j 0]⟩) = [] := by
   rw [dG]; intro x hx; obtain ⟨k, hk, rfl⟩ := mMa hx; have hk := az.mp hk; show ¬ (aQ (jD (f + k)) == _) = true
   rw [oT (low_w (show f + k < 28 by exact a490 hf hk)) (low_c hj), eqL_is]
   intro e; have := ei.mp (jy lit_len (show f + k < 28 by exact a490 hf hk))
   rw [e] at this; simp at this
 have hl : (lEnts o).filter (fun p => aQ p.1 == aQ ⟨#[abc.cps.getD j 0]⟩) = (po (jP o) j).map fun j => (km ((jP o).getD j 6), nz j) := by
   unfold lEnts po; rw [ir]; refine congrArg (List.map fun j => (km ((jP o).getD j 6), nz j)) (fD fun i hi => ?_); have hi := az.mp hi; show (aQ (km ((jP o).getD i 6)) == _) = _
   rw [oT (low_p (kB ho hi)) (low_c hj), bF, eqL_is, d5]; show _ ↔ (jP o).getD i 6 / 2 = j
   constructor
   · intro e; injection e with e; exact a492 e
   intro e; rw [e]
 rw [hw, hl, h1, bi]; simp only [ag, b6]
theorem f_low {f o : Nat} (hf : f < 24) (ho : o < 720) : ∀ p ∈ kd f (mj o), nk p.1 := by
 intro p hp; rw [qg f ho] at hp; rcases mAp hp with h | h
 · obtain ⟨k, hk, rfl⟩ := mMa h; have hk := az.mp hk; have : (jD (f + k)).length ≤ 30 := mK ⟨f + k, by exact a179 hf hk⟩; exact fv (by show (jD (f + k)).length ≤ _; exact a491 this)
 obtain ⟨k, hk, rfl⟩ := mMa h; have hk := az.mp hk; refine fv ?_; show (km ((jP o).getD k 6)).length ≤ _
 rw [nT _ (kB ho hk)]; exact (by decide : 1 ≤ 5592405)
theorem f_sw {o : Nat} (ho : o < 720) : ∀ x ∈ mj o, bw (aI x).length = false := rd_mem ho fun j hj => by
 refine gQ ?_; rw [nT j hj]; exact (by decide : 1 ≤ 5592405)
theorem find5 {α : Type} (g : Nat → α) (p : α → Bool) {z : Nat} (hz : z < 5) (h : ∀ i, i < 5 → p (g i) = cj i z) (r : List α) : ((ae 5).map g ++ r).find? p = some (g z) := by
 show (g 0 :: g 1 :: g 2 :: g 3 :: g 4 :: r).find? p = _
 simp only [List.find?_cons, h 0 (by decide), h 1 (by decide), h 2 (by decide), h 3 (by decide), h 4 (by decide)]; clear h; revert hz; generalize z = y; revert y; exact lt5 rfl rfl rfl rfl rfl
theorem get_word {f o z : Nat} (hf : f < 24) (ho : o < 720) (hz : z < 5) : nb (kd f (mj o)) (aI (jD (f + z))) (aa "9") = nz z := by
 unfold nb; rw [qg f ho]; unfold wEnts; rw [find5 (fun k => (jD (f + k), nz k)) _ hz]; intro i hi; show (aQ (jD (f + i)) == _) = _
 rw [oT (low_w (show f + i < 28 by exact a490 hf hi)) (low_s (show f + z < 28 by exact a490 hf hz)), bT (jy (jy lit_inj (show f + i < 28 by exact a490 hf hi)) (show f + z < 28 by exact a490 hf hz)), bF, d5, d5]
 (first | lia | omega)
theorem get_zero {f o : Nat} (hf : f < 24) (ho : o < 720) : nb (kd f (mj o)) (aI (aa "0x0")) (aa "9") = nz 9 := by
 have hn : (kd f (mj o)).find? (fun p => aQ p.1 == aQ (aI (aa "0x0"))) = none := by
   rw [jv]; intro p hp; rw [qg f ho] at hp; rcases mAp hp with h | h
   · obtain ⟨k, hk, rfl⟩ := mMa h; have hk := az.mp hk; show ¬ (aQ (jD (f + k)) == _) = true
     rw [oT (low_w (show f + k < 28 by exact a490 hf hk)) r8, dB, ← ez]
     exact jy lit_zero (show f + k < 28 by exact a490 hf hk)
   obtain ⟨k, hk, rfl⟩ := mMa h; have hk := az.mp hk; show ¬ (aQ (km ((jP o).getD k 6)) == _) = true
   rw [oT (low_p (kB ho hk)) r8, eqL_is]; intro e; injection e with e1 e2
   cases e2
 unfold nb; rw [hn]; show aa "9" = nz 9
 decide +kernel
theorem so_zero (w : World) : jN w true (aQ (aI (aa "0x0"))) := fun S t => by kernel_rfl
theorem sub_bits {k j : Nat} {z : Nat} (h : (jG k)[j]? = some z) : z < 5 := by
 have := av h; unfold jG at this; exact az.mp (bl.mp this).1
theorem f_get (w : World) {f o : Nat} (hf : f < 24) (ho : o < 720) (k ch : Nat) : ∀ (j : Nat) (y : Str), (mh f k ch)[j]? = some y → ∃ z : Nat, (chosen k ch)[j]? = some (z : Int) ∧ z < 10 ∧ nb (kd f (mj o)) (aI y) (aa "9") = nz z ∧ jN w true (aQ (aI y)) ∧ nk (aI y) ∧ bw (aI y).length = false := by
 intro j y h; have hlow : ∀ x : Str, x.length ≤ 100 → nk (aI x) ∧ bw (aI x).length = false := fun x hx => by
   have hl := PyProof.Rows.len_swapcase x; exact ⟨fv (a489 hx hl), gQ (a488 hx)⟩
 unfold mh at h; unfold chosen; by_cases hs : kY k ch = 0
 · rw [if_pos hs] at h ⊢; match j, h with
   | 0, h =>
     injection h with h
     subst h; exact ⟨9, rfl, by decide, get_zero hf ho, so_zero w, hlow _ (by decide +kernel)⟩
 rw [if_neg hs] at h ⊢; have h : ((jG (kY k ch)).map fun j => jD (f + j))[j]? = some y := h; rw [ar] at h ⊢; cases hb : (jG (kY k ch))[j]? with
 | none => rw [hb] at h; cases h
 | some z =>
   rw [hb] at h; injection h with h
   subst h; have hz := sub_bits hb; have : (jD (f + z)).length ≤ 30 := mK ⟨f + z, by exact a179 hf hz⟩; exact ⟨z, rfl, by exact a487 hz, get_word hf ho hz, so_lower w _ (a179 hf hz), hlow (jD (f + z)) (a486 this)⟩
theorem facts (w : World) (f i o g d : Nat) (hf : f < 24) (hi : i < 12) (ho : o < 720) (hg : g < 120) (hd : d < 46656) : ∃ tr rd lks, Facts w f i o g d tr rd lks :=
 ⟨jX g (jx i), mj o, mW o, {
   parse := f_parse ho hg _
   tlen := f_tlen ho hg _
   rd6 := nJ ho
   dep := f_dep hg _
   so := f_so w ho
   ls6 := r7 ho
   last := f_last ho
   lens := ls_mem ho leaf_lens
   bares := ls_mem ho sV
   wr := f_wr ho hg _
   fits := f_fits hg _
   size := by rw [f_size hg]; decide
   low := f_low hf ho
   lk3 := lks3 o
   all := f_all hf ho
   rng := f_rng ho hg hi
   get := fun ch _ => f_get w hf ho _ ch
   sw := f_sw ho
   nodes := by show ((jX g (jx i)).nodes + 0) ≤ 5; rw [ry hg]; decide
   seen := f_seen ho hg _
   p1 := (f_heart ho hg hi).1
   p2 := (f_heart ho hg hi).2 }⟩
end
section
theorem all_done : PySem.Challenge.rw_kl0125_01.Holds := the_law facts
end
end Mine
theorem PySem.Challenge.cw_kl0125_01_holds : PySem.Challenge.rw_kl0125_01.Holds :=
  Mine.all_done
