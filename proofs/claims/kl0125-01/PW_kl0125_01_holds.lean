import PyProof.Rows.All
import Wide.All
import OpenK.AllK
import Wide.FinOn
import KE.BitLaws
import KE.KBytesWalk
import KE.KDictIter
import KE.BytesMake
import KE.KPar
import PyProof.DictItems
import KE.KParD
import OpenK.XSeg
import KE.KIntText
import PyProof.Rows.StrClose
import PyProof.Rows.StrClose3
import PyProof.Rows.ShownEnds
import PyProof.Rows.StrFit
import PySem.Challenge.RW_kl0125_01
open PySem.Str renaming ofString → aa, empty → ak
open List renaming getD_eq_getElem?_getD → ab, getElem?_eq_getElem → ac, range → af, map_cons → ai, length_map → am
open Nat renaming le_trans → ae
open PySem renaming wpAny_assign_Name → ag, wpAny_bind → aj, wpAny_mono → an
open PyProof.Rows renaming assignInOrder_cons → al
open PySem PySem.W PySem.Calls PySem.Spec PyProof.Rows
set_option Elab.async false
set_option linter.all false
set_option maxRecDepth 100000
set_option maxHeartbeats 8000000
set_option compiler.extract_closed false
set_option genInjectivity false
set_option genSizeOf false
set_option genSizeOfSpec false
namespace Mine
noncomputable abbrev VP := Value → Shared → Prop
noncomputable abbrev VH := Nat → Value → Heap → Prop
section
theorem mSg {α : Type} {a b : α} (h : a ∈ [b]) : a = b := List.mem_singleton.mp h
theorem mAp {α : Type} {a : α} {s t : List α} (h : a ∈ s ++ t) : a ∈ s ∨ a ∈ t := List.mem_append.mp h
theorem mCo {α : Type} {a b : α} {l : List α} (h : a ∈ b :: l) : a = b ∨ a ∈ l := List.mem_cons.mp h
theorem mMa {α β : Type} {f : α → β} {b : β} {l : List α} (h : b ∈ l.map f) : ∃ a, a ∈ l ∧ f a = b := List.mem_map.mp h
theorem c9 {α : Type} {zs : List α} {j : Nat} {d : α} (h : j < zs.length) : zs[j]? = some (zs.getD j d) := by rw [ab, ac h]; rfl
theorem gC {α : Type} {ts : List α} {i : Nat} {t d : α} (h : ts[i]? = some t) : ts.getD i d = t := by rw [ab, h]; rfl
theorem bI {α : Type} {zs : List α} {j : Nat} {d : α} (h : j < zs.length) : zs.getD j d ∈ zs := List.mem_of_getElem? (c9 h)
theorem r110l {α ω : Type} {o : α → ω} {y : ω} (h : ∃ a, y = o a) {z : ω → Prop} (k : ∀ a, z (o a)) : z y := by obtain ⟨a, rfl⟩ := h; exact k a
theorem r330l {α β γ ω : Type} {q r : α → β → γ → Prop} {o : α → β → γ → ω} {y : ω} (h : ∃ a b c, y = o a b c ∧ q a b c ∧ r a b c) {z : ω → Prop} (k : ∀ a b c, q a b c → r a b c → z (o a b c)) : z y := by obtain ⟨a, b, c, rfl, h1, h2⟩ := h; exact k a b c h1 h2
theorem r340l {α β γ ω : Type} {q r s : α → β → γ → Prop} {o : α → β → γ → ω} {y : ω} (h : ∃ a b c, y = o a b c ∧ q a b c ∧ r a b c ∧ s a b c) {z : ω → Prop} (k : ∀ a b c, q a b c → r a b c → s a b c → z (o a b c)) : z y := by obtain ⟨a, b, c, rfl, h1, h2, h3⟩ := h; exact k a b c h1 h2 h3
theorem x03 {p q r : Prop} {z : Prop} (h : p ∧ q ∧ r) (k : p → q → r → z) : z := by obtain ⟨h0, h1, h2⟩ := h; exact k h0 h1 h2
theorem x04 {p q r s : Prop} {z : Prop} (h : p ∧ q ∧ r ∧ s) (k : p → q → r → s → z) : z := by obtain ⟨h0, h1, h2, h3⟩ := h; exact k h0 h1 h2 h3
theorem x07 {p q r s t u v : Prop} {z : Prop} (h : p ∧ q ∧ r ∧ s ∧ t ∧ u ∧ v) (k : p → q → r → s → t → u → v → z) : z := by obtain ⟨h0, h1, h2, h3, h4, h5, h6⟩ := h; exact k h0 h1 h2 h3 h4 h5 h6
theorem x12 {α : Type} {p q : α → Prop} {z : Prop} (h : ∃ a, p a ∧ q a) (k : ∀ a, p a → q a → z) : z := by obtain ⟨a, h0, h1⟩ := h; exact k a h0 h1
theorem x13 {α : Type} {p q r : α → Prop} {z : Prop} (h : ∃ a, p a ∧ q a ∧ r a) (k : ∀ a, p a → q a → r a → z) : z := by obtain ⟨a, h0, h1, h2⟩ := h; exact k a h0 h1 h2
theorem x15 {α : Type} {p q r s t : α → Prop} {z : Prop} (h : ∃ a, p a ∧ q a ∧ r a ∧ s a ∧ t a) (k : ∀ a, p a → q a → r a → s a → t a → z) : z := by obtain ⟨a, h0, h1, h2, h3, h4⟩ := h; exact k a h0 h1 h2 h3 h4
theorem x16 {α : Type} {p q r s t u : α → Prop} {z : Prop} (h : ∃ a, p a ∧ q a ∧ r a ∧ s a ∧ t a ∧ u a) (k : ∀ a, p a → q a → r a → s a → t a → u a → z) : z := by obtain ⟨a, h0, h1, h2, h3, h4, h5⟩ := h; exact k a h0 h1 h2 h3 h4 h5
theorem x21 {α β : Type} {p : α → β → Prop} {z : Prop} (h : ∃ a b, p a b) (k : ∀ a b, p a b → z) : z := by obtain ⟨a, b, h0⟩ := h; exact k a b h0
theorem x22 {α β : Type} {p q : α → β → Prop} {z : Prop} (h : ∃ a b, p a b ∧ q a b) (k : ∀ a b, p a b → q a b → z) : z := by obtain ⟨a, b, h0, h1⟩ := h; exact k a b h0 h1
theorem x23 {α β : Type} {p q r : α → β → Prop} {z : Prop} (h : ∃ a b, p a b ∧ q a b ∧ r a b) (k : ∀ a b, p a b → q a b → r a b → z) : z := by obtain ⟨a, b, h0, h1, h2⟩ := h; exact k a b h0 h1 h2
theorem x24 {α β : Type} {p q r s : α → β → Prop} {z : Prop} (h : ∃ a b, p a b ∧ q a b ∧ r a b ∧ s a b) (k : ∀ a b, p a b → q a b → r a b → s a b → z) : z := by obtain ⟨a, b, h0, h1, h2, h3⟩ := h; exact k a b h0 h1 h2 h3
theorem x25 {α β : Type} {p q r s t : α → β → Prop} {z : Prop} (h : ∃ a b, p a b ∧ q a b ∧ r a b ∧ s a b ∧ t a b) (k : ∀ a b, p a b → q a b → r a b → s a b → t a b → z) : z := by obtain ⟨a, b, h0, h1, h2, h3, h4⟩ := h; exact k a b h0 h1 h2 h3 h4
theorem x31 {α β γ : Type} {p : α → β → γ → Prop} {z : Prop} (h : ∃ a b c, p a b c) (k : ∀ a b c, p a b c → z) : z := by obtain ⟨a, b, c, h0⟩ := h; exact k a b c h0
theorem x32 {α β γ : Type} {p q : α → β → γ → Prop} {z : Prop} (h : ∃ a b c, p a b c ∧ q a b c) (k : ∀ a b c, p a b c → q a b c → z) : z := by obtain ⟨a, b, c, h0, h1⟩ := h; exact k a b c h0 h1
theorem x34 {α β γ : Type} {p q r s : α → β → γ → Prop} {z : Prop} (h : ∃ a b c, p a b c ∧ q a b c ∧ r a b c ∧ s a b c) (k : ∀ a b c, p a b c → q a b c → r a b c → s a b c → z) : z := by obtain ⟨a, b, c, h0, h1, h2, h3⟩ := h; exact k a b c h0 h1 h2 h3
theorem x43 {α β γ δ : Type} {p q r : α → β → γ → δ → Prop} {z : Prop} (h : ∃ a b c d, p a b c d ∧ q a b c d ∧ r a b c d) (k : ∀ a b c d, p a b c d → q a b c d → r a b c d → z) : z := by obtain ⟨a, b, c, d, h0, h1, h2⟩ := h; exact k a b c d h0 h1 h2
theorem x44 {α β γ δ : Type} {p q r s : α → β → γ → δ → Prop} {z : Prop} (h : ∃ a b c d, p a b c d ∧ q a b c d ∧ r a b c d ∧ s a b c d) (k : ∀ a b c d, p a b c d → q a b c d → r a b c d → s a b c d → z) : z := by obtain ⟨a, b, c, d, h0, h1, h2, h3⟩ := h; exact k a b c d h0 h1 h2 h3
theorem x45 {α β γ δ : Type} {p q r s t : α → β → γ → δ → Prop} {z : Prop} (h : ∃ a b c d, p a b c d ∧ q a b c d ∧ r a b c d ∧ s a b c d ∧ t a b c d) (k : ∀ a b c d, p a b c d → q a b c d → r a b c d → s a b c d → t a b c d → z) : z := by obtain ⟨a, b, c, d, h0, h1, h2, h3, h4⟩ := h; exact k a b c d h0 h1 h2 h3 h4
theorem x54 {α β γ δ ε : Type} {p q r s : α → β → γ → δ → ε → Prop} {z : Prop} (h : ∃ a b c d e, p a b c d e ∧ q a b c d e ∧ r a b c d e ∧ s a b c d e) (k : ∀ a b c d e, p a b c d e → q a b c d e → r a b c d e → s a b c d e → z) : z := by obtain ⟨a, b, c, d, e, h0, h1, h2, h3⟩ := h; exact k a b c d e h0 h1 h2 h3
theorem al1 {α : Type} {P : α → Prop} {x : α} (h : P x) : ∀ b ∈ [x], P b := fun b hb => List.mem_singleton.mp hb ▸ h
theorem al2 {α : Type} {P : α → Prop} {x : α} {l : List α} (h : P x) (hl : ∀ b ∈ l, P b) : ∀ b ∈ x :: l, P b := by
 intro b hb; rcases List.mem_cons.mp hb with rfl | hb
 · exact h
 exact hl b hb
theorem lt2 {P : Nat → Prop} (h0 : P 0) (h1 : P 1) : ∀ i, i < 2 → P i := by
 intro i h; rcases i with _ | _ | i
 · exact h0
 · exact h1
 exact absurd h (Nat.not_lt.mpr (Nat.le_add_left 2 i))
theorem lt5 {P : Nat → Prop} (h0 : P 0) (h1 : P 1) (h2 : P 2) (h3 : P 3) (h4 : P 4) : ∀ i, i < 5 → P i := by
 intro i h; rcases i with _ | _ | _ | i
 · exact h0
 · exact h1
 · exact h2
 exact lt2 (P := fun j => P (j + 3)) h3 h4 i (Nat.lt_of_add_lt_add_right h)
theorem lt6 {P : Nat → Prop} (h0 : P 0) (h1 : P 1) (h2 : P 2) (h3 : P 3) (h4 : P 4) (h5 : P 5) : ∀ i, i < 6 → P i := by
 intro i h; rcases i with _ | i
 · exact h0
 exact lt5 (P := fun j => P (j + 1)) h1 h2 h3 h4 h5 i (Nat.lt_of_succ_lt_succ h)
theorem len6 {α : Type} {P : List α → Prop} (h : ∀ a b c d e f, P [a, b, c, d, e, f]) : ∀ l, l.length = 6 → P l := by
 intro l e; rcases l with _ | ⟨a, _ | ⟨b, _ | ⟨c, _ | ⟨d, _ | ⟨g, _ | ⟨f, _ | ⟨x, l⟩⟩⟩⟩⟩⟩⟩
 · cases e
 · cases e
 · cases e
 · cases e
 · cases e
 · cases e
 · exact h ..
 simp at e
theorem len4 {α : Type} {l : List α} (h : l.length = 4) : ∃ a b c d, l = [a, b, c, d] := by
 rcases l with _ | ⟨a, _ | ⟨b, _ | ⟨c, _ | ⟨d, _ | ⟨x, l⟩⟩⟩⟩⟩
 · cases h
 · cases h
 · cases h
 · cases h
 · exact ⟨a, b, c, d, rfl⟩
 simp at h
end
section
noncomputable abbrev P0 : Program := PySem.Challenge.pw_kl0125_01
noncomputable def dg (l : List Stmt) (i : Nat) : Stmt := l.getD i (.Pass ⟨0, 0, 0, 0⟩)
noncomputable def kids : Stmt → List Stmt
 | .ClassDef _ _ _ body .. => body
 | _ => []
noncomputable abbrev dE (P : Params) (k : Str) (t : Nat) (v : Value) : DictEntry := ⟨PyData.keyHash P k, .str k t, v⟩
noncomputable def fnO (st : Stmt) (q : Str) (df : Value) (md : Str) (t : Nat) (code : Addr) : Obj := match st with
 | .FunctionDef name args body _ _ _ scope _ _ _ => ⟨.type "function", none, .func { name := name, qualname := q, params := args, body := .stmts body, scope := scope, globals := 3, closure := [], defaults := df, kwdefaults := .none, pyModule := .str md t, code := .ref code }, #[]⟩
 | _ => ⟨.none, none, .plain, #[]⟩
noncomputable def KH (P : Params) : Frag := [
 (3, (Obj.mk (.type "dict") none (Data.dict (List.toArray [(dE P "__name__" 165 (.str "law_kl0125_01" 676)), (dE P "__doc__" 166 .none), (dE P "__package__" 167 .none), (dE P "__loader__" 168 (.builtin "__main__.__loader__#opaque")), (dE P "__spec__" 169 .none), (dE P "__annotations__" 170 (.ref 6)), (dE P "__builtins__" 171 (.ref 4)), (dE P "__file__" 173 (.str "/claim/cut.py" 172)), (dE P "__cached__" 174 .none), (dE P "_sre" 275 (.ref 12)), (dE P "_wall" 288 (.ref 38)), (dE P "_iter_escaped_chars" 300 (.ref 45)), (dE P "_strip_quoted_realnames" 312 (.ref 52)), (dE P "_check_parenthesis" 322 (.ref 59)), (dE P "COMPILER_FLAG_NAMES" 355 (.ref 60)), (dE P "pretty_flags" 365 (.ref 67)), (dE P "_Unknown" 392 (.ref 84)), (dE P "UNKNOWN" 393 (.ref 90)), (dE P "_get_name_info" 403 (.ref 97)), (dE P "_parse_varint" 412 (.ref 104)), (dE P "tspecials" 448 (.ref 109)), (dE P "_name_disallowed_re" 474 (.ref 114)), (dE P "_value_disallowed_re" 508 (.ref 119)), (dE P "_formatparam" 518 (.ref 127)), (dE P "Headers" 675 (.ref 248)), (dE P "_law_sums" 683 (.ref 257)), (dE P "_law_word" 690 (.ref 264)), (dE P "_law_octets" 698 (.ref 271)), (dE P "_law_numbers" 708 (.ref 278)), (dE P "_law_formula" 714 (.ref 283)), (dE P "_law_tree" 727 (.ref 290)), (dE P "_law_written" 735 (.ref 297)), (dE P "_law_ties" 741 (.ref 302)), (dE P "_law_one_tree" 747 (.ref 307)), (dE P "_law_letters" 753 (.ref 312)), (dE P "_law_proved" 759 (.ref 317)), (dE P "law" 765 (.ref 322))]) 37) #[])),
 (44, (Obj.mk (.type "code") none (Data.fields (List.toArray [(.str "_iter_escaped_chars" 291), (.str "_iter_escaped_chars" 292), (.str "/claim/cut.py" 293), (.int 6 0), (.int 1 0), (.int 0 0), (.int 0 0), (.int 35 0), (.ref 39), (.bool true), (.int 276 0), (.ref 40), .none, (.ref 41), (.ref 42), (.ref 43), (.int 298 0), (.int 6 0), (.str "/claim/cut.py" 299)])) #[])),
 (45, fnO (dg P0.main.body 3) "_iter_escaped_chars" .none "cpy313.email.utils" 289 44),
 (51, (Obj.mk (.type "code") none (Data.fields (List.toArray [(.str "_strip_quoted_realnames" 301), (.str "_strip_quoted_realnames" 302), (.str "/claim/cut.py" 303), (.int 19 0), (.int 1 0), (.int 0 0), (.int 0 0), (.int 3 0), (.ref 46), (.bool true), (.int 276 0), (.ref 47), .none, (.ref 48), (.ref 49), (.ref 50), (.int 310 0), (.int 19 0), (.str "/claim/cut.py" 311)])) #[])),
 (52, fnO (dg P0.main.body 4) "_strip_quoted_realnames" .none "cpy313.email.utils" 289 51),
 (58, (Obj.mk (.type "code") none (Data.fields (List.toArray [(.str "_check_parenthesis" 313), (.str "_check_parenthesis" 314), (.str "/claim/cut.py" 315), (.int 37 0), (.int 1 0), (.int 0 0), (.int 0 0), (.int 3 0), (.ref 53), (.bool true), (.int 276 0), (.ref 54), .none, (.ref 55), (.ref 56), (.ref 57), (.int 320 0), (.int 37 0), (.str "/claim/cut.py" 321)])) #[])),
 (59, fnO (dg P0.main.body 5) "_check_parenthesis" .none "cpy313.email.utils" 289 58),
 (60, (Obj.mk (.type "dict") none (Data.dict (List.toArray [(DictEntry.mk 1 (.int 1 325) (.str "OPTIMIZED" 326)), (DictEntry.mk 2 (.int 2 327) (.str "NEWLOCALS" 328)), (DictEntry.mk 4 (.int 4 329) (.str "VARARGS" 330)), (DictEntry.mk 8 (.int 8 331) (.str "VARKEYWORDS" 332)), (DictEntry.mk 16 (.int 16 333) (.str "NESTED" 334)), (DictEntry.mk 32 (.int 32 335) (.str "GENERATOR" 336)), (DictEntry.mk 64 (.int 64 337) (.str "NOFREE" 338)), (DictEntry.mk 128 (.int 128 339) (.str "COROUTINE" 340)), (DictEntry.mk 256 (.int 256 341) (.str "ITERABLE_COROUTINE" 342)), (DictEntry.mk 512 (.int 512 343) (.str "ASYNC_GENERATOR" 344))]) 10) #[])),
 (66, (Obj.mk (.type "code") none (Data.fields (List.toArray [(.str "pretty_flags" 356), (.str "pretty_flags" 357), (.str "/claim/cut.py" 358), (.int 50 0), (.int 1 0), (.int 0 0), (.int 0 0), (.int 3 0), (.ref 61), (.bool true), (.int 276 0), (.ref 62), .none, (.ref 63), (.ref 64), (.ref 65), (.int 363 0), (.int 50 0), (.str "/claim/cut.py" 364)])) #[])),
 (67, fnO (dg P0.main.body 8) "pretty_flags" .none "cpy313.dis" 323 66),
 (96, (Obj.mk (.type "code") none (Data.fields (List.toArray [(.str "_get_name_info" 394), (.str "_get_name_info" 395), (.str "/claim/cut.py" 396), (.int 67 0), (.int 2 0), (.int 0 0), (.int 0 0), (.int 11 0), (.ref 91), (.bool true), (.int 276 0), (.ref 92), .none, (.ref 93), (.ref 94), (.ref 95), (.int 401 0), (.int 67 0), (.str "/claim/cut.py" 402)])) #[])),
 (97, fnO (dg P0.main.body 11) "_get_name_info" .none "cpy313.dis" 323 96),
 (103, (Obj.mk (.type "code") none (Data.fields (List.toArray [(.str "_parse_varint" 404), (.str "_parse_varint" 405), (.str "/claim/cut.py" 406), (.int 73 0), (.int 1 0), (.int 0 0), (.int 0 0), (.int 3 0), (.ref 98), (.bool true), (.int 276 0), (.ref 99), .none, (.ref 100), (.ref 101), (.ref 102), (.int 410 0), (.int 73 0), (.str "/claim/cut.py" 411)])) #[])),
 (104, fnO (dg P0.main.body 12) "_parse_varint" .none "cpy313.dis" 323 103),
 (113, (Obj.mk (.type "tuple") none (Data.seq (List.toArray [(.int 14 0), (.int 10 0), (.int 4 0), (.int 1 0), (.int 1 0), (.int 22 0), (.int 0 0), (.int 31 0), (.int 16 0), (.int 127 0), (.int 0 0), (.int 13 0), (.int 7 0), (.int 22 0), (.int 0 0), (.int 31 0), (.int 16 0), (.int 127 0), (.int 0 0), (.int 1 0)]) 0) #[])),
 (114, (Obj.mk (.type "re.Pattern") none (Data.fields (List.toArray [(.str "[\\x00-\\x1F\\x7F]" 450), (.int 32 473), (.int 0 0), .none, .none, (.ref 113), (.int 0 0)])) #[])),
 (118, (Obj.mk (.type "tuple") none (Data.seq (List.toArray [(.int 14 0), (.int 14 0), (.int 4 0), (.int 1 0), (.int 1 0), (.int 9 0), (.int 4294966783 0), (.int 0 0), (.int 0 0), (.int 2147483648 0), (.int 0 0), (.int 0 0), (.int 0 0), (.int 0 0), (.int 0 0), (.int 13 0), (.int 11 0), (.int 9 0), (.int 4294966783 0), (.int 0 0), (.int 0 0), (.int 2147483648 0), (.int 0 0), (.int 0 0), (.int 0 0), (.int 0 0), (.int 0 0), (.int 1 0)]) 0) #[])),
 (119, (Obj.mk (.type "re.Pattern") none (Data.fields (List.toArray [(.str "[\\x00-\\x08\\x0A-\\x1F\\x7F]" 476), (.int 32 507), (.int 0 0), .none, .none, (.ref 118), (.int 0 0)])) #[])),
 (135, (Obj.mk (.type "tuple") none (Data.seq (List.toArray [.none]) 0) #[])),
 (141, (Obj.mk (.type "code") none (Data.fields (List.toArray [(.str "__init__" 531), (.str "Headers.__init__" 532), (.str "/claim/cut.py" 533), (.int 96 0), (.int 2 0), (.int 0 0), (.int 0 0), (.int 3 0), (.ref 136), (.bool true), (.int 276 0), (.ref 137), .none, (.ref 138), (.ref 139), (.ref 140), (.int 538 0), (.int 96 0), (.str "/claim/cut.py" 539)])) #[])),
 (142, fnO (dg (kids (dg P0.main.body 18)) 0) "Headers.__init__" (.ref 135) "cpy313.wsgiref.headers" 413 141),
 (148, (Obj.mk (.type "code") none (Data.fields (List.toArray [(.str "_convert_string_type" 541), (.str "Headers._convert_string_type" 542), (.str "/claim/cut.py" 543), (.int 106 0), (.int 2 0), (.int 0 0), (.int 1 0), (.int 3 0), (.ref 143), (.bool true), (.int 276 0), (.ref 144), .none, (.ref 145), (.ref 146), (.ref 147), (.int 548 0), (.int 106 0), (.str "/claim/cut.py" 549)])) #[])),
 (149, fnO (dg (kids (dg P0.main.body 18)) 1) "Headers._convert_string_type" .none "cpy313.wsgiref.headers" 413 148),
 (186, (Obj.mk (.type "code") none (Data.fields (List.toArray [(.str "get_all" 589), (.str "Headers.get_all" 590), (.str "/claim/cut.py" 591), (.int 131 0), (.int 2 0), (.int 0 0), (.int 0 0), (.int 3 0), (.ref 183), (.bool true), (.int 276 0), (.ref 184), .none, .none, .none, (.ref 185), (.int 592 0), (.int 131 0), (.str "/claim/cut.py" 593)])) #[])),
 (187, fnO (dg (kids (dg P0.main.body 18)) 7) "Headers.get_all" .none "cpy313.wsgiref.headers" 413 186),
 (188, (Obj.mk (.type "tuple") none (Data.seq (List.toArray [.none]) 0) #[])),
 (194, (Obj.mk (.type "code") none (Data.fields (List.toArray [(.str "get" 595), (.str "Headers.get" 596), (.str "/claim/cut.py" 597), (.int 135 0), (.int 3 0), (.int 0 0), (.int 0 0), (.int 3 0), (.ref 189), (.bool true), (.int 276 0), (.ref 190), .none, (.ref 191), (.ref 192), (.ref 193), (.int 603 0), (.int 135 0), (.str "/claim/cut.py" 604)])) #[])),
 (195, fnO (dg (kids (dg P0.main.body 18)) 8) "Headers.get" (.ref 188) "cpy313.wsgiref.headers" 413 194),
 (199, (Obj.mk (.type "code") none (Data.fields (List.toArray [(.str "keys" 606), (.str "Headers.keys" 607), (.str "/claim/cut.py" 608), (.int 142 0), (.int 1 0), (.int 0 0), (.int 0 0), (.int 3 0), (.ref 196), (.bool true), (.int 276 0), (.ref 197), .none, .none, .none, (.ref 198), (.int 609 0), (.int 142 0), (.str "/claim/cut.py" 610)])) #[])),
 (200, fnO (dg (kids (dg P0.main.body 18)) 9) "Headers.keys" .none "cpy313.wsgiref.headers" 413 199),
 (244, (Obj.mk (.type "code") none (Data.fields (List.toArray [(.str "add_header" 654), (.str "Headers.add_header" 655), (.str "/claim/cut.py" 656), (.int 163 0), (.int 3 0), (.int 0 0), (.int 0 0), (.int 11 0), (.ref 239), (.bool true), (.int 276 0), (.ref 240), .none, (.ref 241), (.ref 242), (.ref 243), (.int 664 0), (.int 163 0), (.str "/claim/cut.py" 665)])) #[])),
 (245, fnO (dg (kids (dg P0.main.body 18)) 16) "Headers.add_header" .none "cpy313.wsgiref.headers" 413 244),
 (247, (Obj.mk (.type "dict") none (Data.dict (List.toArray [(dE P "__module__" 526 (.str "cpy313.wsgiref.headers" 413)), (dE P "__firstlineno__" 530 (.int 94 529)), (dE P "__init__" 540 (.ref 142)), (dE P "_convert_string_type" 550 (.ref 149)), (dE P "__len__" 557 (.ref 156)), (dE P "__setitem__" 566 (.ref 163)), (dE P "__delitem__" 572 (.ref 168)), (dE P "__getitem__" 580 (.ref 175)), (dE P "__contains__" 588 (.ref 182)), (dE P "get_all" 594 (.ref 187)), (dE P "get" 605 (.ref 195)), (dE P "keys" 611 (.ref 200)), (dE P "values" 617 (.ref 205)), (dE P "items" 624 (.ref 212)), (dE P "__repr__" 631 (.ref 219)), (dE P "__str__" 637 (.ref 224)), (dE P "__bytes__" 644 (.ref 231)), (dE P "setdefault" 653 (.ref 238)), (dE P "add_header" 666 (.ref 245)), (dE P "__static_attributes__" 668 (.ref 246)), (dE P "__dict__" 670 (.ref 249)), (dE P "__weakref__" 672 (.ref 250)), (dE P "__doc__" 673 .none)]) 4) #[])),
 (248, (Obj.mk (.type "type") none (Data.cls (ClassData.mk "Headers" [(.type "object")] [(.ref 248), (.type "object")] 247 "Headers" true [] [] false none false)) (List.toArray [none, none, (some (.str "Headers" 519)), (some (.str "Headers" 527)), (some (.builtin "object.__new__")), (some (.bool true))]))),
 (249, (Obj.mk (.type "getset_descriptor") none (Data.fields (List.toArray [(.str "__dict__" 669), (.ref 248), (.builtin "function.__dict__"), (.builtin "function.__dict__#set")])) #[])),
 (250, (Obj.mk (.type "getset_descriptor") none (Data.fields (List.toArray [(.str "__weakref__" 671), (.ref 248), (.builtin "ExceptionGroup.__weakref__"), .none])) #[])),
 (256, (Obj.mk (.type "code") none (Data.fields (List.toArray [(.str "_law_sums" 678), (.str "_law_sums" 679), (.str "/claim/cut.py" 680), (.int 177 0), (.int 2 0), (.int 0 0), (.int 0 0), (.int 3 0), (.ref 253), (.bool true), (.int 276 0), (.ref 254), .none, .none, .none, (.ref 255), (.int 681 0), (.int 177 0), (.str "/claim/cut.py" 682)])) #[])),
 (257, fnO (dg P0.main.body 20) "_law_sums" .none "law_kl0125_01" 676 256),
 (263, (Obj.mk (.type "code") none (Data.fields (List.toArray [(.str "_law_word" 684), (.str "_law_word" 685), (.str "/claim/cut.py" 686), (.int 179 0), (.int 1 0), (.int 0 0), (.int 0 0), (.int 3 0), (.ref 258), (.bool true), (.int 276 0), (.ref 259), .none, (.ref 260), (.ref 261), (.ref 262), (.int 688 0), (.int 179 0), (.str "/claim/cut.py" 689)])) #[])),
 (264, fnO (dg P0.main.body 21) "_law_word" .none "law_kl0125_01" 676 263),
 (270, (Obj.mk (.type "code") none (Data.fields (List.toArray [(.str "_law_octets" 691), (.str "_law_octets" 692), (.str "/claim/cut.py" 693), (.int 181 0), (.int 2 0), (.int 0 0), (.int 0 0), (.int 3 0), (.ref 265), (.bool true), (.int 276 0), (.ref 266), .none, (.ref 267), (.ref 268), (.ref 269), (.int 696 0), (.int 181 0), (.str "/claim/cut.py" 697)])) #[])),
 (271, fnO (dg P0.main.body 22) "_law_octets" .none "law_kl0125_01" 676 270),
 (277, (Obj.mk (.type "code") none (Data.fields (List.toArray [(.str "_law_numbers" 699), (.str "_law_numbers" 700), (.str "/claim/cut.py" 701), (.int 183 0), (.int 1 0), (.int 0 0), (.int 0 0), (.int 3 0), (.ref 272), (.bool true), (.int 276 0), (.ref 273), .none, (.ref 274), (.ref 275), (.ref 276), (.int 706 0), (.int 183 0), (.str "/claim/cut.py" 707)])) #[])),
 (278, fnO (dg P0.main.body 23) "_law_numbers" .none "law_kl0125_01" 676 277),
 (282, (Obj.mk (.type "code") none (Data.fields (List.toArray [(.str "_law_formula" 709), (.str "_law_formula" 710), (.str "/claim/cut.py" 711), (.int 191 0), (.int 4 0), (.int 0 0), (.int 0 0), (.int 3 0), (.ref 279), (.bool true), (.int 276 0), (.ref 280), .none, .none, .none, (.ref 281), (.int 712 0), (.int 191 0), (.str "/claim/cut.py" 713)])) #[])),
 (283, fnO (dg P0.main.body 24) "_law_formula" .none "law_kl0125_01" 676 282),
 (289, (Obj.mk (.type "code") none (Data.fields (List.toArray [(.str "_law_tree" 715), (.str "_law_tree" 716), (.str "/claim/cut.py" 717), (.int 202 0), (.int 2 0), (.int 0 0), (.int 0 0), (.int 3 0), (.ref 284), (.bool true), (.int 276 0), (.ref 285), .none, (.ref 286), (.ref 287), (.ref 288), (.int 725 0), (.int 202 0), (.str "/claim/cut.py" 726)])) #[])),
 (290, fnO (dg P0.main.body 25) "_law_tree" .none "law_kl0125_01" 676 289),
 (296, (Obj.mk (.type "code") none (Data.fields (List.toArray [(.str "_law_written" 728), (.str "_law_written" 729), (.str "/claim/cut.py" 730), (.int 213 0), (.int 2 0), (.int 0 0), (.int 0 0), (.int 3 0), (.ref 291), (.bool true), (.int 276 0), (.ref 292), .none, (.ref 293), (.ref 294), (.ref 295), (.int 733 0), (.int 213 0), (.str "/claim/cut.py" 734)])) #[])),
 (297, fnO (dg P0.main.body 26) "_law_written" .none "law_kl0125_01" 676 296),
 (301, (Obj.mk (.type "code") none (Data.fields (List.toArray [(.str "_law_ties" 736), (.str "_law_ties" 737), (.str "/claim/cut.py" 738), (.int 215 0), (.int 2 0), (.int 0 0), (.int 0 0), (.int 3 0), (.ref 298), (.bool true), (.int 276 0), (.ref 299), .none, .none, .none, (.ref 300), (.int 739 0), (.int 215 0), (.str "/claim/cut.py" 740)])) #[])),
 (302, fnO (dg P0.main.body 27) "_law_ties" .none "law_kl0125_01" 676 301),
 (306, (Obj.mk (.type "code") none (Data.fields (List.toArray [(.str "_law_one_tree" 742), (.str "_law_one_tree" 743), (.str "/claim/cut.py" 744), (.int 221 0), (.int 1 0), (.int 0 0), (.int 0 0), (.int 3 0), (.ref 303), (.bool true), (.int 276 0), (.ref 304), .none, .none, .none, (.ref 305), (.int 745 0), (.int 221 0), (.str "/claim/cut.py" 746)])) #[])),
 (307, fnO (dg P0.main.body 28) "_law_one_tree" .none "law_kl0125_01" 676 306),
 (311, (Obj.mk (.type "code") none (Data.fields (List.toArray [(.str "_law_letters" 748), (.str "_law_letters" 749), (.str "/claim/cut.py" 750), (.int 228 0), (.int 2 0), (.int 0 0), (.int 0 0), (.int 3 0), (.ref 308), (.bool true), (.int 276 0), (.ref 309), .none, .none, .none, (.ref 310), (.int 751 0), (.int 228 0), (.str "/claim/cut.py" 752)])) #[])),
 (312, fnO (dg P0.main.body 29) "_law_letters" .none "law_kl0125_01" 676 311),
 (316, (Obj.mk (.type "code") none (Data.fields (List.toArray [(.str "_law_proved" 754), (.str "_law_proved" 755), (.str "/claim/cut.py" 756), (.int 230 0), (.int 3 0), (.int 0 0), (.int 0 0), (.int 3 0), (.ref 313), (.bool true), (.int 276 0), (.ref 314), .none, .none, .none, (.ref 315), (.int 757 0), (.int 230 0), (.str "/claim/cut.py" 758)])) #[])),
 (317, fnO (dg P0.main.body 30) "_law_proved" .none "law_kl0125_01" 676 316),
 (321, (Obj.mk (.type "code") none (Data.fields (List.toArray [(.str "law" 760), (.str "law" 761), (.str "/claim/cut.py" 762), (.int 244 0), (.int 1 0), (.int 0 0), (.int 0 0), (.int 3 0), (.ref 318), (.bool true), (.int 276 0), (.ref 319), .none, .none, .none, (.ref 320), (.int 763 0), (.int 244 0), (.str "/claim/cut.py" 764)])) #[])),
 (322, fnO (dg P0.main.body 31) "law" .none "law_kl0125_01" 676 321)]
noncomputable def KA : List Addr := [3, 44, 45, 51, 52, 58, 59, 60, 66, 67, 96, 97, 103, 104, 113, 114, 118, 119, 135, 141, 142, 148, 149, 186, 187, 188, 194, 195, 199, 200, 244, 245, 247, 248, 249, 250, 256, 257, 263, 264, 270, 271, 277, 278, 282, 283, 289, 290, 296, 297, 301, 302, 306, 307, 311, 312, 316, 317, 321, 322]
noncomputable def qq : Program := view P0 [0, 1, 3, 4, 5, 7, 8, 9, 10, 11, 12, 14, 15, 16, 18, 20, 21, 22, 23, 24, 25, 26, 27, 28, 29, 30, 31]
noncomputable def lo : List Str := ["COMPILER_FLAG_NAMES", "UNKNOWN", "tspecials", "_name_disallowed_re", "_value_disallowed_re", "_formatparam"]
end
section
section
variable {a b c d e f g k l m n p q r s t : Nat}
theorem a0 (h0 : a ≤ b) : a ≤ b + 1 := Nat.le_succ_of_le h0
theorem a1 (h0 : a ≤ b) (h1 : c < a) (h2 : d ≤ c) : d ≤ b := by lia
theorem a2 (h0 : a + (b + 1) < c) : a < c := Nat.lt_of_le_of_lt (Nat.le_add_right _ _) h0
theorem a3 (h0 : a ≤ 16777216) : (↑a : Int) < 9223372036854775808 := Int.ofNat_lt.mpr (Nat.lt_of_le_of_lt h0 (by decide))
theorem a4 (h0 : a ≤ 16777216) : ¬(↑a : Int) ≥ 2 ^ 63 := by lia
theorem a5 {a : Int} (h0 : a.toNat < b) : 0 ≤ max a 0 ∧ max a 0 < (↑b : Int) := by lia
theorem a6 {a : Int} (h0 : 0 ≤ a) : a = (↑a.toNat : Int) := by lia
theorem a7 {a : Int} (h0 : 0 ≤ a) : -2 ^ 63 ≤ a := by lia
theorem a8 {a : Int} (h0 : a ≤ 1000000) : ¬a ≥ 2 ^ 63 := by lia
theorem a9 {a : Int} (h0 : -1000000 ≤ a) : ¬a < -2 ^ 63 := by lia
theorem a10 (h0 : a = b) (h1 : c < b) : c < a := h0 ▸ h1
theorem a11 : (↑a : Int) - 0 = (↑a : Int) := rfl
theorem a12 : 0 ≤ (↑a : Int) := Int.natCast_nonneg _
theorem a13 (h0 : a ≤ b) (h1 : ¬a < b) : a = b := Nat.le_antisymm h0 (Nat.le_of_not_lt h1)
theorem a14 (h0 : a = b - c) (h1 : c < b) : b - (c + 1) < a := h0 ▸ Nat.sub_lt_sub_left h1 (Nat.lt_succ_self c)
theorem a15 : 0 ≤ a := Nat.zero_le _
theorem a16 : a = a - 0 := rfl
theorem a17 (h0 : a + b ≤ c) (h1 : d < b) (h2 : e = d) : a + e ≤ c := by subst_vars; lia
theorem a18 (h0 : a ≤ b) (h1 : c + b < d) : c + a < d := Nat.lt_of_le_of_lt (Nat.add_le_add_left h0 c) h1
theorem a19 (h0 : a + (b + 3) < c) : a + 3 + b < c := by lia
theorem a20 (h0 : a + (b + 1) < c) : a + 1 + b < c := by lia
theorem a21 (h0 : a + (b + 2) < c) : a + 1 + b < c := by lia
theorem a22 (h0 : a < b) (h1 : c < a) : c < b := Nat.lt_trans h1 h0
theorem a23 (h0 : a ≤ 1000) (h1 : b < a) : (↑b : Int) < 2 ^ 63 - 1 := Int.ofNat_lt.mpr (Nat.lt_of_lt_of_le h1 (ae h0 (by decide)))
theorem a24 : ¬a + 1 = a := by lia
theorem a25 (h0 : a < b) : ¬a = b := Nat.ne_of_lt h0
theorem a26 (h0 : a < b) : ¬a = b + 1 := Nat.ne_of_lt (Nat.lt_of_lt_of_le h0 (Nat.le_add_right _ _))
theorem a27 {a : Int} {b : Int} (h0 : a ≤ b) (h1 : b ≤ a) : 0 = b - a := by lia
theorem a28 (h0 : a ≤ 1000) (h1 : b < a) : (↑b : Int) < 2 ^ 63 := Int.ofNat_lt.mpr (Nat.lt_of_lt_of_le h1 (ae h0 (by decide)))
theorem a29 (h0 : (↑a : Int) = 2) : 1 < a := by lia
theorem a30 (h0 : (↑a : Int) = 2) : 0 < a := by lia
theorem a31 (h0 : (↑a : Int) = 2) : a = 2 := by lia
theorem a32 (h0 : a + b ≤ 20) (h1 : c = a) : c ≤ 16777216 := by lia
theorem a33 (h0 : 1 ≤ a) : 4 * (a - 1) + 50 ≤ 4 * a + 47 := by lia
theorem a34 (h0 : 1 ≤ a) : a - 1 + 10 ≤ a + 9 := by lia
theorem a35 (h0 : a ≤ 20) : a - 1 ≤ 20 := ae (Nat.sub_le _ _) h0
theorem a36 (h0 : 1 ≤ a) : a - 1 < a := Nat.sub_lt h0 (by decide)
theorem a37 (h0 : a ≤ b) (h1 : a = c + d + e) (h2 : d = f + g + 1) : 1 ≤ b := Nat.lt_of_lt_of_le (h1 ▸ Nat.lt_of_lt_of_le (h2 ▸ Nat.succ_pos _ : 0 < d) (ae (Nat.le_add_left _ _) (Nat.le_add_right _ _)) : 0 < a) h0
theorem a38 (h0 : a ≤ b) (h1 : a = c + d + e) (h2 : d = f + g + 1) (h3 : k = e + c) (h4 : l ≤ k) (h5 : m = f) : l + m ≤ b - 1 := by subst h1 h2 h5; exact Nat.le_sub_of_add_le (ae (by rw [Nat.add_assoc]; exact Nat.add_le_add_right (h3 ▸ h4) _) (ae (by simp only [Nat.add_assoc, Nat.add_comm, Nat.add_left_comm]; lia) h0))
theorem a39 (h0 : a ≤ b) (h1 : a = c + d + e) (h2 : d = f + g + 1) (h3 : k = e + c) (h4 : l ≤ k) : g + l ≤ b - 1 := by lia
theorem a40 (h0 : a + (4 * b + 47) < c) : a < c := Nat.lt_of_le_of_lt (Nat.le_add_right _ _) h0
theorem a41 (h0 : a ≤ 20) (h1 : b ≤ a) (h2 : c = d) (h3 : d ≤ 100 * (b + 1)) : c ≤ 16777216 := h2 ▸ ae h3 (ae (Nat.mul_le_mul_left 100 (Nat.succ_le_succ (ae h1 h0))) (by decide))
theorem a42 : 4 * 6 + 4 ≤ 4 * a + 47 := Nat.le_add_left _ _
theorem a43 : 6 + 1 ≤ a + 9 := Nat.le_add_left _ _
theorem a44 (h0 : a ≤ 20) (h1 : b ≤ a) : b ≤ 99 := by lia
theorem a45 (h0 : max a b + 1 ≤ 6) : a ≤ 6 := ae (Nat.le_max_left a b) (Nat.le_of_succ_le h0)
theorem a46 (h0 : a + b + 1 ≤ 100) : a ≤ 100 := by lia
theorem a47 (h0 : max a b + 1 ≤ 6) : b ≤ 6 := ae (Nat.le_max_right a b) (Nat.le_of_succ_le h0)
theorem a48 (h0 : a + b + 1 ≤ 100) : b ≤ 100 := by lia
theorem a49 (h0 : a ≤ 20) (h1 : b = c) (h2 : c ≤ a) : b ≤ 16777215 := by subst_vars; lia
theorem a50 (h0 : a ≤ 20) (h1 : b < a) : (↑b : Int) < 2 ^ 63 := Int.ofNat_lt.mpr (Nat.lt_of_lt_of_le h1 (ae h0 (by decide)))
theorem a51 (h0 : a ≤ 20) : a ≤ 16777216 := ae h0 (by decide)
theorem a52 (h0 : a ≤ 20) : a ≤ 21 := Nat.le_succ_of_le h0
theorem a53 (h0 : a ≤ 20) (h1 : b = a) : b ≤ 16777216 := h1 ▸ ae h0 (by decide)
theorem a54 (h0 : a ≤ 20) (h1 : b = c) (h2 : c ≤ a) : 1 + b ≤ 16777216 := by subst_vars; lia
theorem a55 (h0 : a ≤ 20) : a + 1 ≤ 21 := Nat.lt_succ_of_le h0
theorem a56 (h0 : a ≤ 20) : a + 1 ≤ 16777216 := Nat.lt_of_le_of_lt h0 (by decide)
theorem a57 (h0 : a = b) : (↑a : Int) + 1 = (↑(b + 1) : Int) := by subst_vars; lia
theorem a58 (h0 : a ≤ 21) : a < 22 := Nat.lt_succ_of_le h0
theorem a59 (h0 : a + b ≤ 20) (h1 : c = a - 1) : c ≤ 20 := h1 ▸ ae (Nat.sub_le _ _) (ae (Nat.le_add_right _ _) h0)
theorem a60 (h0 : a = b) (h1 : c < a) : b - (c + 1) + min c b = b - 1 := by
 subst h0; rw [Nat.min_eq_left (Nat.le_of_lt h1), Nat.add_comm c 1, ← Nat.sub_sub]; exact Nat.sub_add_cancel (Nat.le_sub_of_add_le h1)
theorem a61 (h0 : a + b ≤ 20) (h1 : c = a) : c - (d + 1) + min d c ≤ 16777216 := by have h : c ≤ 20 := h1 ▸ ae (Nat.le_add_right _ _) h0; exact ae (Nat.add_le_add (ae (Nat.sub_le _ _) h) (ae (Nat.min_le_right _ _) h)) (by decide)
theorem a62 : (↑a : Int) + 1 = (↑(a + 1) : Int) := rfl
theorem a63 (h0 : a ≤ b) (h1 : c + b ≤ 20) (h2 : d = c) (h3 : e < d) (h4 : a = f + g + k) (h5 : g = l + m + 1) : min e c + (c - (e + 1) + 1 + 1) + (b - 1) ≤ 20 := by
 subst h2; have hb : 1 ≤ b := ae (h5 ▸ Nat.succ_pos _ : 0 < g) (ae (ae (Nat.le_add_left g f) (Nat.le_add_right _ k)) (h4 ▸ h0)); rw [Nat.min_eq_left (Nat.le_of_lt h3)]; refine ae (Nat.le_of_eq ?_) h1; rw [← Nat.add_assoc, ← Nat.add_assoc, Nat.add_right_comm e _ 1, Nat.add_sub_of_le h3, Nat.add_assoc, Nat.add_sub_of_le hb]
theorem a67 (h0 : a ≤ b) (h1 : a = c + d + e) (h2 : d = f + g + 1) (h3 : k = f + g) : c + k + e ≤ b - 1 := by subst h1 h2 h3; exact Nat.le_sub_of_add_le (ae (Nat.le_of_eq (Nat.add_right_comm _ e 1)) h0)
theorem a68 (h0 : a + b ≤ 20) (h1 : c = a) : min d c + 2 + (c - (d + 1)) ≤ 16777216 := by have h : c ≤ 20 := h1 ▸ ae (Nat.le_add_right _ _) h0; exact ae (Nat.add_le_add (Nat.add_le_add_right (ae (Nat.min_le_right _ _) h) 2) (ae (Nat.sub_le _ _) h)) (by decide)
theorem a69 (h0 : a + b ≤ 20) (h1 : c = a) : min d c ≤ 16777214 := ae (Nat.min_le_right _ _) (h1 ▸ ae (ae (Nat.le_add_right _ _) h0) (by decide))
theorem a70 (h0 : a ≤ b) : c + a ≤ c + b := by lia
theorem a71 (h0 : a ≤ b) : a ≤ c + b := by lia
theorem a72 : a + (b + c) = a + b + c := by lia
theorem a73 (h0 : a + b = 0) : b = 0 := by lia
theorem a74 (h0 : a ≤ 32) (h1 : b ≤ 30 * (a + (0 + 1))) : b + (a + (0 + 1)) * 2 ≤ 16777216 := ae (Nat.add_le_add (ae h1 (Nat.mul_le_mul_left 30 (Nat.add_le_add_right h0 _))) (Nat.mul_le_mul_right 2 (Nat.add_le_add_right h0 _))) (by decide)
theorem a75 (h0 : a < 32) (h1 : b < a + 1) : b < 32 := Nat.lt_of_lt_of_le h1 h0
theorem a76 (h0 : (↑a : Int) = 0) : a = 0 := by lia
theorem a77 : (↑(a + b) : Int) + (↑b : Int) - 2 * (↑b : Int) = (↑a : Int) := by lia
theorem a78 (h0 : a ≤ 100) : a ≤ 16777216 := ae h0 (by decide)
theorem a79 (h0 : a ≤ 32) (h1 : b = a) : b ≤ 16777216 := h1 ▸ ae h0 (by decide)
theorem a80 (h0 : a < 32) (h1 : b ≤ a) : b ≤ 32 := by lia
theorem a81 (h0 : a ≤ 30 * b) (h1 : c ≤ 30) : c + a ≤ 30 * (b + 1) := by lia
theorem a82 : a ≤ a + b := Nat.le_add_right _ _
theorem a83 (h0 : a ≤ 32) : 32 = a + (32 - a) := (Nat.add_sub_cancel' h0).symm
theorem a84 (h0 : a < b) (h1 : ¬a + 1 < b) : a + 1 = b := Nat.le_antisymm h0 (Nat.le_of_not_lt h1)
theorem a85 (h0 : a + 1 < b) : b - (a + 1) < b - a := Nat.sub_lt_sub_left (Nat.lt_of_succ_lt h0) (Nat.lt_succ_self a)
theorem a86 : (↑a : Int) % 64 = (↑(a % 64) : Int) := rfl
theorem a87 (h0 : a ≤ 8) (h1 : b + 1 < a) : min (b + 1) a ≤ 7 := ae (Nat.min_le_left _ _) (Nat.le_of_lt_succ (Nat.lt_of_lt_of_le h1 h0))
theorem a88 (h0 : a ≤ 8) : min (b + 1) a ≤ 8 := ae (Nat.min_le_right _ _) h0
theorem a89 : (↑a : Int) % 64 = (↑(0 * 64 + a % 64) : Int) := by lia
theorem a90 : a + (b + 1) = a + 1 + b := by lia
theorem a91 (h0 : a < b) : a * 64 + c % 64 < b * 64 := Nat.lt_of_lt_of_le (Nat.add_lt_add_left (Nat.mod_lt _ (by decide)) _) (Nat.succ_mul a 64 ▸ Nat.mul_le_mul_right 64 h0)
theorem a92 : (↑(a * 64) : Int) + (↑b : Int) - (↑0 : Int) = (↑(a * 64 + b) : Int) := rfl
theorem a93 : 4 ≤ 4 := Nat.le_add_left _ _
theorem a94 : 1 ≤ 1 := Nat.le_add_left _ _
theorem a95 (h0 : a ≤ 1000) (h1 : b ≤ a) : min c b ≤ 16777216 := ae (Nat.min_le_right _ _) (ae h1 (ae h0 (by decide)))
theorem a96 (h0 : a ≤ 1000) : a + 1 ≤ 16777216 := Nat.lt_of_le_of_lt h0 (by decide)
theorem a97 (h0 : a ≤ 1000) : a ≤ 16777216 := ae h0 (by decide)
theorem a98 (h0 : a < 256) : (↑a : Int) < 256 := Int.ofNat_lt.mpr h0
theorem a99 (h0 : a ≤ b) (h1 : 0 < c) : a + 1 ≤ c + b := by lia
theorem a100 (h0 : ¬a % 4 = b) : (↑a : Int) % 4 ≠ (↑b : Int) := by lia
theorem a101 (h0 : a % 4 = b) : (↑a : Int) % 4 = (↑b : Int) := by subst_vars; lia
theorem a102 : min 60 a ≤ 1000 := ae (Nat.min_le_left _ _) (by decide)
theorem a103 (h0 : a ≤ 70 * b) (h1 : b ≤ 1000) (h2 : c ≤ 60) : c + a ≤ 16777216 := by lia
theorem a104 (h0 : a ≤ 1000) : 70 * a ≤ 16777216 := by lia
theorem a107 (h0 : a ≤ 10) (h1 : b ≤ 60) : a + b ≤ 16777216 := by lia
theorem a108 (h0 : a ≤ 1000) (h1 : b = a) : min b c ≤ 16777216 := ae (Nat.min_le_left b c) (ae (Nat.le_of_eq h1) (ae h0 (by decide)))
theorem a109 (h0 : a = b) (h1 : 0 < b ∧ b ≤ 1000) : a ≤ 16777216 := by subst_vars; lia
theorem a110 (h0 : a ≤ 60) (h1 : b ≤ c + 1) (h2 : c = a) : b ≤ 1000 := by subst_vars; lia
theorem a111 (h0 : a ≤ 60) (h1 : b = a) (h2 : c ≤ 0 + b) : c ≤ 60 := by subst_vars; lia
theorem a112 (h0 : a ≤ 60) (h1 : b ≤ a + 1) : b ≤ 16777216 := by lia
theorem a113 (h0 : a ≤ 60) : a ≤ 16777216 := ae h0 (by decide)
theorem a114 (h0 : a ≤ 36 + 3 * 5) (h1 : b ≤ a) : b ≤ 60 := by lia
theorem a115 (h0 : a = 6 - 5) : 0 < a := by subst_vars; decide
theorem a116 : 5 ≤ 5 := Nat.le_add_left _ _
theorem a117 (h0 : a = 6 - b) (h1 : c = a) : min d c + 1 + (c - (d + 2)) ≤ 16777216 := by have h : c ≤ 6 := h1 ▸ h0 ▸ Nat.sub_le _ _; exact ae (Nat.add_le_add (Nat.add_le_add (ae (Nat.min_le_right _ _) h) (Nat.le_refl 1)) (ae (Nat.sub_le _ _) h)) (by decide)
theorem a118 : (↑a : Int) + 2 = (↑(a + 2) : Int) := rfl
theorem a119 (h0 : a < 5 - b) : min a c ≤ 16777215 := ae (Nat.min_le_left _ _) (ae (Nat.le_of_lt h0) (ae (Nat.sub_le _ _) (by decide)))
theorem a120 (h0 : a ≤ 60) (h1 : b ≤ 60) (h2 : c = 1) (h3 : d = 1) (h4 : e = 1) : c + a + d + b + e ≤ 16777216 := by subst_vars; lia
theorem a121 (h0 : a ≤ 60) (h1 : b ≤ 60) (h2 : c = 1) (h3 : d = 1) : c + a + d + b ≤ 16777216 := by subst_vars; lia
theorem a122 (h0 : a < 5 - b) : (↑(a + 1) : Int) < 2 ^ 63 := Int.lt_of_lt_of_le (Int.ofNat_lt.mpr (Nat.lt_succ_of_le (ae h0 (Nat.sub_le 5 b)))) (by decide)
theorem a123 : 0 ≤ (↑(a + 1) : Int) := Int.natCast_nonneg _
theorem a124 (h0 : a ≤ 60) (h1 : b = 1) (h2 : c = 1) : b + a + c ≤ 16777216 := by subst_vars; lia
theorem a125 (h0 : a ≤ 60) (h1 : b = 1) : b + a ≤ 16777216 := by subst_vars; lia
theorem a126 (h0 : a < 5 - b) : (↑a : Int) < 2 ^ 63 := Int.ofNat_lt.mpr (Nat.lt_of_lt_of_le h0 (ae (Nat.sub_le _ _) (by decide)))
theorem a127 (h0 : a < 5) (h1 : b ≤ 36 + 3 * a) (h2 : c ≤ b) : c ≤ 60 := by lia
theorem a128 (h0 : a = 6 - b) (h1 : c < 5 - b) : c + 1 < a := h0 ▸ (Nat.succ_sub (Nat.le_of_lt (Nat.lt_of_sub_pos (Nat.lt_of_le_of_lt (Nat.zero_le c) h1))) ▸ Nat.succ_lt_succ h1 : c + 1 < 6 - b)
theorem a129 (h0 : a = 6 - b) (h1 : c < 5 - b) : c < a := h0 ▸ Nat.lt_of_lt_of_le h1 (Nat.sub_le_sub_right (by decide) b)
theorem a130 : 6 - a ≤ 16777216 := ae (Nat.sub_le _ _) (by decide)
theorem a131 (h0 : a < 5) : 0 < 5 - a := Nat.sub_pos_of_lt h0
theorem a132 (h0 : a < 5) : (↑(5 - a) : Int) ≠ 0 := by omega
theorem a133 (h0 : a < 5) : a ≤ 5 := Nat.le_of_lt h0
theorem a134 : 6 ≤ 6 := Nat.le_add_left _ _
theorem a135 (h0 : a = 6 - b) (h1 : c < a) : (↑(6 - b) : Int) ≠ 0 := by subst_vars; lia
theorem a136 (h0 : a < 6) (h1 : b = a) : b ≤ 16777216 := by subst_vars; lia
theorem a137 (h0 : a + b ≤ 6) : a + b ≤ 16777216 := ae h0 (by decide)
theorem a138 (h0 : a = 6 - b) (h1 : c = a) : c ≤ 1000 := ae (Nat.le_of_eq (h1.trans h0)) (ae (Nat.sub_le 6 b) (by decide))
theorem a139 (h0 : a < 6) : 0 < 6 - a := Nat.sub_pos_of_lt h0
theorem a140 {b : Int} (h0 : (↑(a % 6) : Int) = b) : b < 2 ^ 63 := h0 ▸ Int.ofNat_lt.mpr (Nat.lt_trans (Nat.mod_lt _ (by decide)) (by decide))
theorem a141 {b : Int} (h0 : (↑(a % 6) : Int) = b) : 0 ≤ b := by subst_vars; lia
theorem a142 (h0 : a < 6) : a ≤ 6 := Nat.le_of_lt h0
theorem a143 (h0 : a ≤ 36 + 3 * b) (h1 : a = c + d + e) (h2 : f = d + 3) : c + f + e ≤ 36 + 3 * (b + 1) := by subst_vars; lia
theorem a144 : a + b + 3 + 0 = a + (b + 0) + 3 := rfl
theorem a145 (h0 : a = 6 - b) (h1 : c < 5 - b) : min c a + (0 + 1) + (a - (c + 2)) = 6 - (b + 1) := by
 subst h0; have hb : b ≤ 5 := Nat.le_of_lt (Nat.lt_of_sub_pos (Nat.lt_of_le_of_lt (Nat.zero_le c) h1)); rw [Nat.succ_sub hb, Nat.succ_sub_succ, Nat.succ_sub_succ, Nat.min_eq_left (Nat.le_of_lt (Nat.lt_succ_of_lt h1))]; exact Nat.add_sub_of_le h1
theorem a146 (h0 : a + 1 ≤ 5) : 0 < 5 - a := Nat.sub_pos_of_lt h0
theorem a147 (h0 : a + 1 ≤ 5) : a ≤ 5 := Nat.le_of_lt h0
theorem a148 (h0 : a + 1 < b) : a < b := Nat.lt_of_succ_lt h0
theorem a149 (h0 : a = 1) (h1 : b = 1) (h2 : c = 1) : a + d + b + e + c = d + e + 3 := by subst_vars; lia
theorem a150 (h0 : a ≤ b) (h1 : c ≤ d) : c + a ≤ b + d := by lia
theorem a151 : 6 - a - 1 = 6 - (a + 1) := rfl
theorem a152 (h0 : a + 1 ≤ 6) : 0 < 6 - a := Nat.sub_pos_of_lt h0
theorem a153 (h0 : a + 1 ≤ 6) : a ≤ 6 := Nat.le_of_lt h0
theorem a154 : -2 ^ 63 ≤ (↑a : Int) := Int.natCast_nonneg _
theorem a155 : 6 + 3 + 2 ≤ 12 := Nat.le_add_left _ _
theorem a156 : 2 + 1 + 2 ≤ 5 := Nat.le_add_left _ _
theorem a157 : ¬a + 32 < 32 := by lia
theorem a158 (h0 : a ≤ 1000) : a + 0 + 1 * 2 ≤ 16777216 := by lia
theorem a159 : 4 ≤ 7 := Nat.le_add_left _ _
theorem a160 : 1 ≤ 2 := Nat.le_add_left _ _
theorem a161 : 7 + 3 ≤ 10 := Nat.le_add_left _ _
theorem a162 : 2 + 1 ≤ 3 := Nat.le_add_left _ _
theorem a163 (h0 : a = b) (h1 : c < a) (h2 : d < c) : d < b := by subst_vars; lia
theorem a164 (h0 : a ≤ 1000) (h1 : b = a) : b ≤ 16777216 := h1 ▸ ae h0 (by decide)
theorem a165 (h0 : a + 1 ≤ 20) (h1 : b = c) (h2 : c ≤ a + 1) : b ≤ 16777215 := by subst_vars; lia
theorem a166 : 4 * a + 4 ≤ 4 * a + 5 := by lia
theorem a167 : a + 1 ≤ a + 1 := by lia
theorem a168 {a : Int} (h0 : 0 ≤ a) : 0 ≤ a / 64 := by lia
theorem a169 (h0 : a + 1 ≤ 20) : a ≤ 20 := Nat.le_of_lt h0
theorem a170 : 10 ≤ 10 := Nat.le_add_left _ _
theorem a171 : 3 ≤ 3 := Nat.le_add_left _ _
theorem a172 (h0 : (↑a : Int) < 46656) : a < 46656 := by lia
theorem a173 (h0 : (↑a : Int) < 120) : a < 120 := by lia
theorem a174 (h0 : (↑a : Int) < 720) : a < 720 := Int.ofNat_lt.mp h0
theorem a175 (h0 : a < 12) : (↑a : Int) < 2 ^ 63 := Int.ofNat_lt.mpr (Nat.lt_of_lt_of_le h0 (by decide))
theorem a176 (h0 : (↑a : Int) < 12) : a < 12 := by lia
theorem a177 : 4 ≤ 300 := Nat.le_add_left _ _
theorem a178 : 1 ≤ 60 := Nat.le_add_left _ _
theorem a179 (h0 : a < 24) (h1 : b < 5) : a + b < 32 := Nat.lt_of_lt_of_le (Nat.add_lt_add h0 h1) (by decide)
theorem a180 : (↑a : Int) + (↑b : Int) = (↑(a + b) : Int) := rfl
theorem a181 (h0 : (↑a : Int) < 24) : a < 24 := by lia
theorem a182 : 7 ≤ 300 := Nat.le_add_left _ _
theorem a183 : 2 ≤ 60 := Nat.le_add_left _ _
theorem a184 (h0 : a = b) : b = a := by lia
theorem a185 : (↑a : Int) + 128 * (((↑b : Int) + (↑c : Int)) % 2) = (↑(a + 128 * ((b + c) % 2)) : Int) := rfl
theorem a186 : 4 * 4 + 4 ≤ 300 := Nat.le_add_left _ _
theorem a187 : 4 + 1 ≤ 60 := Nat.le_add_left _ _
theorem a188 (h0 : a < 64 ^ 5) : (↑a : Int) < (↑(64 ^ 5) : Int) := Int.ofNat_lt.mpr h0
theorem a189 (h0 : a < 46656) : a < 64 ^ 5 := Nat.lt_of_lt_of_le h0 (by decide)
theorem a190 (h0 : a < 120) : a < 64 ^ 5 := Nat.lt_of_lt_of_le h0 (by decide)
theorem a191 (h0 : a < 720) : a < 64 ^ 5 := Nat.lt_of_lt_of_le h0 (by decide)
theorem a192 (h0 : a ≤ 30 * 2 ^ 23) : a < 64 ^ 5 := Nat.lt_of_le_of_lt h0 (by decide)
theorem a193 (h0 : a < 24) : a ≤ 23 := Nat.le_of_lt_succ h0
theorem a194 (h0 : a ≤ 30 ∧ a ≠ 0) : a < 32 := by lia
theorem a195 (h0 : a < 5) : (↑a : Int) < 2 ^ 63 := Int.ofNat_lt.mpr (Nat.lt_of_lt_of_le h0 (by decide))
theorem a196 (h0 : a ≤ 30 * b) (h1 : b ≤ 5) : a + b * 2 ≤ 16777216 := ae (Nat.add_le_add (ae h0 (Nat.mul_le_mul_left 30 h1)) (Nat.mul_le_mul_right 2 h1)) (by decide)
theorem a197 (h0 : a ≤ 31 * 2 ^ 23) : a < 2 ^ 32 := Nat.lt_of_le_of_lt h0 (by decide)
theorem a198 (h0 : a < 32) : a ≤ 31 := Nat.le_of_lt_succ h0
theorem a199 (h0 : a + 300 < b) : a < b := Nat.lt_of_le_of_lt (Nat.le_add_right _ _) h0
theorem a200 (h0 : a < b) (h1 : a = b) : False := by subst_vars; lia
theorem a201 (h0 : a < 24) (h1 : b < 5) (h2 : c < b) : a + c < 32 := Nat.lt_of_lt_of_le (Nat.add_lt_add h0 (Nat.lt_trans h2 h1)) (by decide)
theorem a202 (h0 : a < 5) (h1 : b < a) : b < 5 := Nat.lt_trans h1 h0
theorem a203 (h0 : a = b) (h1 : b ≤ 5) : a ≤ 16777216 := h0 ▸ ae h1 (by decide)
theorem a204 (h0 : a ≤ 200) (h1 : b ≤ a + 2) : b ≤ 16777216 := by lia
theorem a205 (h0 : a ≤ 200) : a ≤ 16777216 := ae h0 (by decide)
theorem a206 (h0 : a ≤ 6) : 4 * a + 20 ≤ 300 := by lia
theorem a207 (h0 : a ≤ 6) : a + 5 ≤ 60 := by lia
theorem a208 : 12 ≤ 300 := Nat.le_add_left _ _
theorem a209 : 5 ≤ 60 := Nat.le_add_left _ _
theorem a210 : 10 ≤ 300 := Nat.le_add_left _ _
theorem a211 : 3 ≤ 60 := Nat.le_add_left _ _
theorem a212 (h0 : a ≤ 11) : a ≤ 1000 := ae h0 (by decide)
theorem a213 (h0 : a = 11) : a ≤ 11 := Nat.le_of_eq h0
theorem a214 (h0 : a = 6) (h1 : b < a) : b < 6 := h0 ▸ h1
theorem a215 (h0 : a < 5) : a < 6 := Nat.lt_succ_of_lt h0
theorem a216 (h0 : a = 6) (h1 : b = a) (h2 : c = 5) (h3 : d = b) : c + d ≤ 16777216 := by subst_vars; decide
theorem a217 (h0 : a = 6) (h1 : b = a) : b ≤ 16777216 := by subst_vars; decide
theorem a218 (h0 : a < 6) : (↑a : Int) < 10 ^ 10 := Int.ofNat_lt.mpr (Nat.lt_of_lt_of_le h0 (by decide))
theorem a219 (h0 : a = 3) (h1 : b = 3) (h2 : c < b) : c < a := by subst_vars; omega
theorem a220 (h0 : a = 3) (h1 : b < a) : b < 3 := h0 ▸ h1
theorem a221 (h0 : a = 3) (h1 : b ≤ 100) (h2 : c ≤ 2 * b) : a + c ≤ 1000 := by subst_vars; lia
theorem a222 (h0 : a ≤ 100) (h1 : b = 3) (h2 : c = d) (h3 : d ≤ 2 * a) : b + c ≤ 16777216 := by subst_vars; lia
theorem a223 (h0 : a ≤ 6) : 4 * a + 4 ≤ 300 := by lia
theorem a224 (h0 : a ≤ 6) : a + 1 ≤ 60 := Nat.lt_of_le_of_lt h0 (by decide)
theorem a225 {a : Int} (h0 : a.toNat < 10) : (↑a.toNat : Int) < 10 ^ 10 := Int.ofNat_lt.mpr (Nat.lt_of_lt_of_le h0 (by decide))
theorem a226 {a : Int} : 0 ≤ (↑a.toNat : Int) := Int.natCast_nonneg _
theorem a227 (h0 : a ≤ 5) (h1 : b = a) : b ≤ 16777216 := h1 ▸ ae h0 (by decide)
theorem a228 (h0 : a = b) (h1 : c < a) : c < b := h0 ▸ h1
theorem a229 : 13 ≤ 300 := Nat.le_add_left _ _
theorem a230 : 4 ≤ 60 := Nat.le_add_left _ _
theorem a231 (h0 : a ≤ 5) : a ≤ 16777216 := ae h0 (by decide)
theorem a232 : ((↑a : Int) + (↑b : Int)).toNat = a + b := rfl
theorem a233 (h0 : a < 24) (h1 : b < 5) : (↑a : Int) + (↑b : Int) ≤ 1000000 := by lia
theorem a234 : 0 ≤ (↑a : Int) + (↑b : Int) := Int.natCast_nonneg _
theorem a235 (h0 : a ≤ 4) : a ≤ 16777216 := ae h0 (by decide)
theorem a236 (h0 : a ≤ 4) : a = 0 ∨ a = 1 ∨ a = 2 ∨ a = 3 ∨ a = 4 := by lia
theorem a237 : 4 * 5 + 50 ≤ 300 := Nat.le_add_left _ _
theorem a238 : 5 + 10 ≤ 60 := Nat.le_add_left _ _
theorem a239 (h0 : a = 6) : a ≤ 1000 := by subst_vars; decide
theorem a240 (h0 : a = 6) (h1 : b ≤ a) : b ≤ 1000 := by subst_vars; lia
theorem a241 : 6 + a * 0 ≤ 16777216 := Nat.le_add_left _ _
theorem a242 (h0 : a = 6) : a ≤ 16777216 := by subst_vars; decide
theorem a243 {a : Int} (h0 : 0 ≤ a ∧ a < 8) : a = (↑a.toNat : Int) := (Int.toNat_of_nonneg h0.1).symm
theorem a244 {a : Int} (h0 : 0 ≤ a ∧ a < 8) : a.toNat < 8 := (Int.toNat_lt h0.1).mpr h0.2
theorem a245 {a : Int} (h0 : 0 ≤ a ∧ a < 4) : a ≤ 1000000 := by lia
theorem a246 {a : Int} (h0 : 0 ≤ a ∧ a < 4) : -1000000 ≤ a := by lia
theorem a247 {a : Int} (h0 : 0 ≤ a ∧ a < 4) : -(↑b : Int) ≤ a := by lia
theorem a248 (h0 : a < 32) : 0 ≤ (↑a : Int) / 4 ∧ (↑a : Int) / 4 < 8 := by lia
theorem a249 (h0 : 10 ≤ (↑a : Int)) : ¬a < 10 := by lia
theorem a250 (h0 : a < 10) : (↑a : Int) < 2 ^ 63 := Int.ofNat_lt.mpr (Nat.lt_of_lt_of_le h0 (by decide))
theorem a251 (h0 : (↑a : Int) < 10) : a < 10 := by lia
theorem a252 (h0 : a = 6) (h1 : b = c) (h2 : d = a) (h3 : c = 5) : b + d ≤ 16777216 := by subst_vars; decide
theorem a253 (h0 : a = b + 1) : b ≠ a := by subst_vars; lia
theorem a254 (h0 : a = b + 1) : a ≠ 0 := by subst_vars; lia
theorem a255 (h0 : 1 ≤ a) : a ≠ 0 := Nat.ne_of_gt h0
theorem a256 (h0 : a ≤ 100 ∧ b ≤ 100) : a + (a + 1) * 0 ≤ 16777216 := by lia
theorem a257 (h0 : 1 ≤ a ∧ a ≤ 100) : a + (a + 1) * 0 ≤ 16777216 := by lia
theorem a258 (h0 : a = b + 1) : 1 ≤ a := by subst_vars; lia
theorem a259 : -1 < (↑a : Int) := Int.natCast_nonneg _
theorem a260 (h0 : 1 ≤ a ∧ a ≤ 100) : -(↑a : Int) ≤ -1 := by lia
theorem a261 (h0 : a ≤ 63) (h1 : b = a) : b ≤ 1000 := h1 ▸ ae h0 (by decide)
theorem a262 (h0 : 63 < a) : 63 < (↑a : Int) := Int.ofNat_lt.mpr h0
theorem a263 (h0 : a ≤ 1000) (h1 : b ≤ c + 1) (h2 : c = a) (h3 : d ≤ 0 + b) : d ≤ 1002 := by subst_vars; lia
theorem a264 (h0 : ¬(↑a : Int) < (↑b : Int)) : ¬a < b := by lia
theorem a265 (h0 : a ≤ 1000) (h1 : b ≤ c + 1) (h2 : c = a) (h3 : d ≤ 0 + b) : d ≤ 1001 := by subst_vars; lia
theorem a266 (h0 : a ≤ 1000) (h1 : b ≤ c + 1) (h2 : c = a) (h3 : d ≤ 0 + b) : d ≤ 16777216 := by subst_vars; lia
theorem a267 (h0 : (↑a : Int) < (↑b : Int)) : a < b := Int.ofNat_lt.mp h0
theorem a268 (h0 : (↑a : Int) = (↑b : Int)) : ¬a ≠ b := by lia
theorem a269 (h0 : ¬(↑a : Int) = (↑b : Int)) : a ≠ b := by lia
theorem a270 (h0 : a ≤ 1000) (h1 : b = c) (h2 : c ≤ 0 + d) (h3 : e ≤ f + 1) (h4 : d ≤ e) (h5 : f = a) : b ≤ 16777216 := by subst_vars; lia
theorem a271 (h0 : a ≤ b + 1) : a ≤ b + 1 + 1 := Nat.le_succ_of_le h0
theorem a272 (h0 : a ≤ b + c) (h1 : b ≤ d + 1) : a ≤ d + (c + 1) := by lia
theorem a273 (h0 : ¬a = 10) : ¬(↑a : Int) = 10 := by lia
theorem a274 {a : Int} {b : Int} (h0 : 0 ≤ a ∧ a < 11 ∧ 0 ≤ b ∧ b < 11) : b < 2 ^ 63 := Int.lt_of_lt_of_le h0.2.2.2 (by decide)
theorem a275 {a : Int} {b : Int} (h0 : 0 ≤ a ∧ a < 11 ∧ 0 ≤ b ∧ b < 11) : a < 2 ^ 63 := Int.lt_of_lt_of_le h0.2.1 (by decide)
theorem a276 (h0 : a = 11) (h1 : b = a) : b ≤ 16777216 := by subst_vars; decide
theorem a277 {b : Int} {c : Int} (h0 : a = 11) (h1 : 0 ≤ b ∧ b < 11 ∧ 0 ≤ c ∧ c < 11) : c.toNat < a := h0 ▸ (Int.toNat_lt h1.2.2.1).mpr h1.2.2.2
theorem a278 {b : Int} {c : Int} (h0 : a = 11) (h1 : 0 ≤ b ∧ b < 11 ∧ 0 ≤ c ∧ c < 11) : b.toNat < a := h0 ▸ (Int.toNat_lt h1.1).mpr h1.2.1
theorem a279 (h0 : a = 1) (h1 : b ≤ 100 ∧ c ≤ 100) (h2 : d ≤ 100 * b) (h3 : e ≤ 100 * c) (h4 : f = 1) (h5 : g = 1) : f + d + a + e + g ≤ 16777216 := ae (Nat.add_le_add (Nat.add_le_add (Nat.add_le_add (Nat.add_le_add (Nat.le_of_eq h4) (ae h2 (Nat.mul_le_mul_left 100 h1.1))) (Nat.le_of_eq h0)) (ae h3 (Nat.mul_le_mul_left 100 h1.2))) (Nat.le_of_eq h5)) (by decide)
theorem a280 (h0 : a = 1) (h1 : b ≤ 100 ∧ c ≤ 100) (h2 : d ≤ 100 * b) (h3 : e ≤ 100 * c) (h4 : f = 1) : f + d + a + e ≤ 16777216 := ae (Nat.add_le_add (Nat.add_le_add (Nat.add_le_add (Nat.le_of_eq h4) (ae h2 (Nat.mul_le_mul_left 100 h1.1))) (Nat.le_of_eq h0)) (ae h3 (Nat.mul_le_mul_left 100 h1.2))) (by decide)
theorem a281 : 4 * a + 4 ≤ 4 * max b a + 5 := Nat.add_le_add (Nat.mul_le_mul_left 4 (Nat.le_max_right _ _)) (by decide)
theorem a282 : a + 1 ≤ max b a + 1 := by lia
theorem a283 (h0 : a = 1) (h1 : b ≤ 100 ∧ c ≤ 100) (h2 : d ≤ 100 * b) (h3 : e = 1) : e + d + a ≤ 16777216 := by subst_vars; lia
theorem a284 (h0 : a ≤ 100 ∧ b ≤ 100) (h1 : c ≤ 100 * a) (h2 : d = 1) : d + c ≤ 16777216 := by subst_vars; lia
theorem a285 : 4 * a + 4 ≤ 4 * max a b + 5 := Nat.add_le_add (Nat.mul_le_mul_left 4 (Nat.le_max_left _ _)) (by decide)
theorem a286 : a + 1 ≤ max a b + 1 := by lia
theorem a287 (h0 : a + b + 1 ≤ 100) : a ≤ 100 ∧ b ≤ 100 := by lia
theorem a288 (h0 : a = 1) (h1 : b ≤ 100 * c) (h2 : d ≤ 100 * e) : 1 + b + a + d + 1 ≤ 100 * (c + e + 1) := by subst_vars; lia
theorem a289 : 100 ≤ 100 * 1 := Nat.le_add_left _ _
theorem a290 (h0 : a ≤ 100 ∧ b ≤ 100) (h1 : c ≤ 2 * a) (h2 : d ≤ 2 * b) (h3 : e ≤ 2) : e + c + d ≤ 10000 := ae (Nat.add_le_add (Nat.add_le_add h3 (ae h1 (Nat.mul_le_mul_left 2 h0.1))) (ae h2 (Nat.mul_le_mul_left 2 h0.2))) (by decide)
theorem a291 (h0 : a ≤ 100 ∧ b ≤ 100) (h1 : c ≤ 2 * a) (h2 : d ≤ 2) : d + c ≤ 10000 := ae (Nat.add_le_add h2 (ae h1 (Nat.mul_le_mul_left 2 h0.1))) (by decide)
theorem a292 (h0 : a ≤ 2) : a ≤ 16777216 := ae h0 (by decide)
theorem a293 (h0 : a + b ≤ 10000) (h1 : c = a) (h2 : d = b) : c + d ≤ 16777216 := by subst_vars; lia
theorem a294 (h0 : a ≤ 2 * b) (h1 : c ≤ 2 * d) (h2 : e ≤ 2) : e + a + c ≤ 2 * (b + d + 1) := by lia
theorem a295 (h0 : a ≤ 100) (h1 : b = c) (h2 : c ≤ a) (h3 : d ≤ 10000) : d + b ≤ 16777216 := by subst_vars; lia
theorem a296 (h0 : a ≤ 100) (h1 : b ≤ 100 * c) (h2 : c ≤ a) : b ≤ 10000 := by lia
theorem a297 (h0 : max a b + 1 ≤ c) : max a b ≤ c - 1 := Nat.le_sub_of_add_le h0
theorem a298 (h0 : max a b + 1 ≤ c) : 4 * (c - 1) + 4 ≤ 4 * c + 1 := by lia
theorem a299 (h0 : max a b + 1 ≤ c) : c - 1 + 1 ≤ c := Nat.le_of_eq (Nat.sub_add_cancel (ae (Nat.le_add_left 1 _) h0))
theorem a300 (h0 : max a b + 1 ≤ c) : c - 1 < c := Nat.sub_lt (ae (Nat.succ_pos _) h0) (by decide)
theorem a301 (h0 : a ≤ 100 * b) (h1 : c ≤ d) (h2 : d ≤ 100) : c + a ≤ 100 * (b + 1) := Nat.add_comm a c ▸ Nat.add_le_add h0 (ae h1 h2)
theorem a302 (h0 : a ≤ b) (h1 : c ≤ d) : a + c ≤ b + d + 1 := by lia
theorem a303 (h0 : a < b) : ¬b ≤ a := by lia
theorem a304 (h0 : a ≤ b) (h1 : a ≠ b) : a + 1 ≤ b := Nat.lt_of_le_of_ne h0 h1
theorem a305 (h0 : 1 ≤ a) (h1 : b = a) : (↑b : Int) - 1 = (↑(a - 1) : Int) := by subst_vars; lia
theorem a306 : 4 * a + 20 ≤ 4 * max b a + 21 := Nat.le_succ_of_le (Nat.add_le_add_right (Nat.mul_le_mul_left 4 (Nat.le_max_right b a)) 20)
theorem a307 : a + 5 ≤ max b a + 5 := Nat.add_le_add_right (Nat.le_max_right _ _) 5
theorem a308 (h0 : a ≤ 1000) (h1 : b ≤ a) : b ≤ 1000 := ae h1 h0
theorem a309 (h0 : a ≤ 1000) (h1 : b ≤ a) : b ≤ 16777216 := by lia
theorem a310 (h0 : a ≤ 1000) (h1 : b ≤ a) (h2 : c = b) : c ≤ 16777216 := by subst_vars; lia
theorem a311 : 4 * a + 20 ≤ 4 * max a b + 21 := Nat.le_succ_of_le (Nat.add_le_add_right (Nat.mul_le_mul_left 4 (Nat.le_max_left a b)) 20)
theorem a312 : a + 5 ≤ max a b + 5 := Nat.add_le_add_right (Nat.le_max_left _ _) 5
theorem a313 : 13 ≤ 4 * max a b + 21 := Nat.le_add_left _ _
theorem a314 : 4 ≤ max a b + 5 := Nat.le_add_left _ _
theorem a315 (h0 : 1 ≤ a) : 0 < (↑a : Int) := Int.ofNat_lt.mpr h0
theorem a316 : -(↑a : Int) ≤ 0 := by lia
theorem a317 (h0 : a = b) (h1 : b ≤ 1000) : a ≤ 16777215 := h0 ▸ ae h1 (by decide)
theorem a318 (h0 : a = b) (h1 : b ≤ 1000) : a ≤ 16777216 := h0 ▸ ae h1 (by decide)
theorem a319 (h0 : a + b ≤ 1000) : a ≤ 1000 := by lia
theorem a320 (h0 : 1 ≤ a) : -(↑a : Int) ≤ -1 := by lia
theorem a321 : 10 ≤ 17 := Nat.le_add_left _ _
theorem a322 : 3 ≤ 4 := Nat.le_add_left _ _
theorem a323 (h0 : a + 1 = b) : ¬b = a := by subst_vars; lia
theorem a324 (h0 : a = b) (h1 : c ≤ a) : Min.min (Min.min (b + 1) c + 1) (Min.min (b + 1) c + (0 + 1)) ≤ b + 1 := by subst_vars; lia
theorem a325 (h0 : a ≤ b + (0 + 1) + c) : a ≤ b + (c + 1) := by lia
theorem a326 (h0 : a ≤ 0 + b) : a ≤ c + (b + 1) := by lia
theorem a327 : a ≤ a + (b + 1) := Nat.le_add_right _ _
theorem a328 (h0 : 1 < 1) : False := by lia
theorem a329 (h0 : a = b) (h1 : b = 0) : a = 0 := h1 ▸ h0
theorem a330 (h0 : a < b) (h1 : b = 1) : a = 0 := by subst_vars; lia
theorem a331 (h0 : a = b) (h1 : c ≤ a) : c ≤ b + 1 := by subst_vars; lia
theorem a332 (h0 : a ≤ b) (h1 : c = b + 1) : a ≤ c := by lia
theorem a333 (h0 : a = b + 1) : b + 1 ≤ a := by subst_vars; lia
theorem a334 (h0 : a = b) : a ≤ b := Nat.le_of_eq h0
theorem a335 (h0 : ¬Min.min a b < a) : a - b = 0 := Nat.sub_eq_zero_of_le (ae (Nat.le_of_not_lt h0) (Nat.min_le_right _ _))
theorem a336 (h0 : a < b) : 1 ≤ b - a := Nat.sub_pos_of_lt h0
theorem a337 (h0 : Min.min a b < a) : b < a := by lia
theorem a338 (h0 : a = b) (h1 : c + 1 ≤ b) : 0 + Min.min c a = c := by subst_vars; lia
theorem a339 (h0 : a = b) (h1 : c + 1 ≤ b) : c < a := by subst_vars; exact h1
theorem a340 (h0 : a + 1 ≤ b) : a ≤ b := Nat.le_of_lt h0
theorem a341 (h0 : a = 1) : b + a - b = 1 := (Nat.add_sub_cancel_left ..).trans h0
theorem a342 : a + 1 + b = a + (b + 1) := by lia
theorem a343 (h0 : a ≤ b + 1) (h1 : c ≤ d) : a + c ≤ d + (b + 1) := by lia
theorem a344 : 0 < a + 1 := Nat.le_add_left _ _
theorem a345 (h0 : a ≤ 7) (h1 : b ≤ a) : b + 1 ≤ 8 := by lia
theorem a346 (h0 : ¬a < b) : ¬a + 1 < b + 1 := by lia
theorem a347 (h0 : a % 64 = b) : ¬b / 64 % 2 = 1 := by rw [Nat.div_eq_of_lt (h0 ▸ Nat.mod_lt a (by decide))]; decide
theorem a348 (h0 : a % 64 = b) : b + 128 * ((c + d) % 2) < 256 := Nat.lt_of_lt_of_le (Nat.add_lt_add_of_lt_of_le (h0 ▸ Nat.mod_lt _ (by decide)) (Nat.mul_le_mul_left 128 (Nat.le_of_lt_succ (Nat.mod_lt _ (by decide))))) (by decide)
theorem a349 (h0 : ¬a < b) : b ≤ a := Nat.le_of_not_lt h0
theorem a350 (h0 : a < b) : a + 1 < b + 1 := Nat.lt_succ_of_le h0
theorem a351 (h0 : a / 64 = 1) : a / 64 % 2 = 1 := by lia
theorem a352 (h0 : a / 64 = 1) : a + 128 * ((b + c) % 2) < 256 := Nat.lt_of_lt_of_le (Nat.add_lt_add_of_lt_of_le ((Nat.div_lt_iff_lt_mul (k := 64) (y := 2) (by decide)).mp (h0 ▸ by decide)) (Nat.mul_le_mul_left 128 (Nat.le_of_lt_succ (Nat.mod_lt _ (by decide))))) (by decide)
theorem a353 (h0 : a = b % 64 + 64) : a / 64 = 1 := by rw [h0, Nat.add_div_right _ (by decide), Nat.div_eq_of_lt (Nat.mod_lt b (by decide))]
theorem a354 (h0 : a % 64 = 0) (h1 : ¬63 < b) : 0 * 64 + (b % 64 + a) % 64 = b := by
 rw [Nat.zero_mul, Nat.zero_add, Nat.mod_add_mod, ← Nat.add_mod_mod, h0]; exact Nat.mod_eq_of_lt (Nat.lt_succ_of_le (Nat.le_of_not_lt h1))
theorem a355 (h0 : a % 64 = 0) : b / 64 * 64 + (b % 64 + a) % 64 = b := by
 rw [Nat.mod_add_mod, ← Nat.add_mod_mod, h0, Nat.mul_comm]; exact Nat.div_add_mod b 64
theorem a356 : (a + 128 * (b % 2)) % 64 = a % 64 := by rw [show 128 * (b % 2) = 64 * (2 * (b % 2)) from Nat.mul_assoc 64 2 _, Nat.add_mul_mod_self_left]
theorem a357 (h0 : ¬63 < a) : ¬63 < (↑a : Int) := by lia
theorem a358 (h0 : a ≤ 5) (h1 : b ≤ 32 * a) : b ≤ 200 := by lia
theorem a359 (h0 : a ≤ 32 * b) (h1 : c ≤ 30) : c + 2 + a ≤ 32 * (b + 1) := by lia
theorem a360 (h0 : a ≤ b) : c + (a + 1 + 1) ≤ c + 2 + b := by lia
theorem a361 (h0 : a ≤ b + 1 - 0) : min (a + 1) (a + (0 + 1)) ≤ b + 2 := by lia
theorem a362 (h0 : a < b) (h1 : a = c + (d + 1 + 1)) (h2 : b = 2) : False := by subst_vars; lia
theorem a363 : a < a + 1 := by lia
theorem a364 : a + (b + 2) = a + b + 2 := rfl
theorem a365 (h0 : a ≤ b) (h1 : b < a + c) : b - a < c := Nat.sub_lt_left_of_lt_add h0 h1
theorem a366 (h0 : a ≤ b) : a + 1 ≤ b + c + 2 := by lia
theorem a367 : ¬a + b + 2 ≤ a + b + 1 := by lia
theorem a368 (h0 : a ≤ b) : a ≤ b + c := ae h0 (Nat.le_add_right _ _)
theorem a369 (h0 : a < b) (h1 : c ≤ d) (h2 : a = d + (e + (f + 2))) : c < b := by subst_vars; lia
theorem a370 (h0 : a = b + (c + (d + 2))) : b + c + 1 < a := by subst_vars; lia
theorem a371 (h0 : a = b + (c + (d + 2))) : a + 1 - b = c + (a + 1 - (b + c + 2) + 1 + 1) := by
 subst h0; have e1 : b + (c + (d + 2)) + 1 = b + c + 2 + (d + 1) := by rw [← Nat.add_assoc b, Nat.add_assoc (b + c), Nat.add_assoc (b + c)]; exact congrArg (b + c + ·) (Nat.add_comm (d + 1) 2)
 rw [e1, Nat.add_sub_cancel_left, Nat.add_assoc (b + c), Nat.add_assoc b, Nat.add_sub_cancel_left]; exact congrArg (c + ·) (Nat.add_comm 2 (d + 1))
theorem a372 : a + b + 1 - a - b = 1 := by rw [Nat.sub_sub, Nat.add_sub_cancel_left]
theorem a373 : a ≤ b + a + 1 - b := Nat.le_sub_of_add_le (Nat.le_succ_of_le (Nat.le_of_eq (Nat.add_comm _ _)))
theorem a374 : a ≤ a + b + 1 := by lia
theorem a375 : a + b - a - b = 0 := by lia
theorem a376 : a ≤ b + a - b := Nat.le_of_eq (Nat.add_sub_cancel_left ..).symm
theorem a377 (h0 : a = b + (c + (d + 2))) (h1 : e = 2) : b + c + e ≤ a := by subst_vars; lia
theorem a378 (h0 : a < b + 1 + c) : a < b + (c + 1) := by lia
theorem a379 : a < a + (b + 1) := by lia
theorem a380 (h0 : a = 2) (h1 : ¬b + 1 < c) : ¬b + a ≤ c := by subst_vars; exact h1
theorem a381 (h0 : a = 2) : b + a - b = 2 := by subst_vars; lia
theorem a382 (h0 : a = b + 1) (h1 : c < b) : c + 1 < a := by subst_vars; lia
theorem a383 (h0 : a < b) : min a (b + 1) + (b - (a + 1) + 1) = b := by rw [Nat.min_eq_left (Nat.le_succ_of_le (Nat.le_of_lt h0))]; exact (congrArg (a + ·) (Nat.succ_pred_eq_of_pos (Nat.sub_pos_of_lt h0))).trans (Nat.add_sub_of_le (Nat.le_of_lt h0))
theorem a384 (h0 : a ≤ 5) (h1 : b + 1 ≤ a) : b < 5 := Nat.lt_of_lt_of_le h1 h0
theorem qv (h0 : a ≤ 5) (h1 : b + 1 ≤ a) : b ≤ 5 := ae (Nat.le_of_lt h1) h0
theorem gQ (h0 : a ≤ 5) (h1 : b + 1 ≤ a) : b ≤ 5 := ae (Nat.le_of_lt h1) h0
theorem a386 (h0 : a = b) (h1 : a = c) : b = c := h0 ▸ h1
theorem a387 (h0 : a < b) (h1 : c + 1 ≤ a) : c < b := Nat.lt_trans h1 h0
theorem a388 (h0 : a = b) (h1 : b < c) : a < c := h0 ▸ h1
theorem a389 (h0 : a = 2 * b + 1) (h1 : c = 2 * d + 1) : a + c + 1 = 2 * (b + d + 1) + 1 := by subst_vars; lia
theorem a390 (h0 : a ≤ b) (h1 : c ≤ d) : max a c + 1 ≤ b + d + 1 := Nat.succ_le_succ (Nat.max_le.mpr ⟨ae h0 (Nat.le_add_right _ _), ae h1 (Nat.le_add_left _ _)⟩)
theorem a391 (h0 : a + b = c) (h1 : d + (c + 1) = e) : a + d + 1 + b = e := by subst_vars; lia
theorem a392 (h0 : a = b) (h1 : a = c) : 0 + b = c := by subst_vars; lia
theorem a393 (h0 : a ≤ b) (h1 : b + 1 ≤ c) : a ≤ c := ae h0 (Nat.le_of_succ_le h1)
theorem a394 (h0 : a = b) (h1 : a = c) : b ≤ c := by subst_vars; lia
theorem a395 : 1 ≤ a + 1 := Nat.le_add_left _ _
theorem a396 (h0 : a = b + 2) : -1 + (↑a : Int) = (↑(b + 1) : Int) := by subst_vars; lia
theorem a397 (h0 : a = b + 2) : -(↑a : Int) ≤ -1 := by subst_vars; lia
theorem a398 (h0 : a = 42 ∨ a = 43) (h1 : a = 34 ∨ a = b ∨ a = 34) (h2 : ((¬b = 42 ∧ ¬b = 43) ∧ ¬b = 34) ∧ ¬b = 92) : False := by lia
theorem a399 (h0 : a = 42 ∨ a = 43) (h1 : a = 92 ∨ a = b) (h2 : ¬b = 42 ∧ ¬b = 43) : False := by lia
theorem a400 (h0 : 41 = a) : ¬(a = 42 ∨ a = 43) := h0 ▸ by decide
theorem a401 {a : Int} (h0 : 0 ≤ a) : 0 ≤ a + 1 := by lia
theorem a402 {a : Int} (h0 : 0 ≤ a) : 1 ≤ a + 1 := by lia
theorem a403 (h0 : 40 = a) : ¬(a = 42 ∨ a = 43) := h0 ▸ by decide
theorem a404 (h0 : a = b) (h1 : b ≤ 5) : a < 6 := h0 ▸ Nat.lt_of_le_of_lt h1 (by decide)
theorem a405 {a : Int} : a + 1 - 1 = a := by lia
theorem a406 {a : Int} (h0 : 0 ≤ a) : ¬a + 1 - 1 < 0 := by lia
theorem a407 {a : Int} (h0 : 1 ≤ a) : a ≠ 0 := by lia
theorem a408 (h0 : a < b) : a ≤ b := Nat.le_of_lt h0
theorem a409 (h0 : a < b) : a ≤ b + (c + 1) := by lia
theorem a410 (h0 : a = b + (c + 1)) : b < a := by subst_vars; lia
theorem a411 (h0 : a = b + 1) : b = a - 1 := by subst_vars; lia
theorem a412 (h0 : a = b) (h1 : c + b = d + 1) : a + c = d + 1 := by subst_vars; lia
theorem a413 : a + 1 - a = 1 := by lia
theorem a414 : a ≤ a + 1 := Nat.le_add_right _ _
theorem a415 : (↑(a + 1) : Int) = (↑a : Int) + 1 := rfl
theorem a416 : a + 1 ≤ a + (b + 1) := by lia
theorem a417 (h0 : a = b) (h1 : c = b) : a = c := h1 ▸ h0
theorem a418 (h0 : a ≤ b) : b + 1 = a + (b + 1 - a) := (Nat.add_sub_cancel' (Nat.le_succ_of_le h0)).symm
theorem a419 (h0 : a ≤ b) (h1 : b + 1 ≤ c) : c + 1 - a = b + 1 - a + (c + 1 - (b + 1)) :=
 (Nat.sub_add_sub_cancel (Nat.le_succ_of_le h1) (Nat.le_succ_of_le h0)).symm.trans (Nat.add_comm _ _)
theorem a420 (h0 : a = b) (h1 : a = c) : c + 1 - b = 1 := by subst_vars; lia
theorem a421 (h0 : a + b = c + 1) (h1 : d + (c + 1) = e + 1) : a + d + b = e + 1 := by lia
theorem a422 (h0 : a = b) (h1 : a = c) : 1 + b = c + 1 := by subst_vars; lia
theorem a423 (h0 : ¬a < 6) : 6 ≤ a := Nat.le_of_not_lt h0
theorem a424 (h0 : a ≤ 10 * b) (h1 : b = 11) : a ≤ 1000 := by subst_vars; lia
theorem a425 (h0 : a ≤ 5) : a ≤ 6 := Nat.le_succ_of_le h0
theorem a426 (h0 : a ≤ 10 * b) (h1 : c ≤ 10 * d) : 1 + (a + (1 + (c + 1))) ≤ 10 * (b + d + 1) := by lia
theorem a427 (h0 : a < b * 2) : a / 2 < b := Nat.div_lt_of_lt_mul (Nat.mul_comm b 2 ▸ h0)
theorem a428 : 2 * a / 2 = a := Nat.mul_div_cancel_left a (by decide)
theorem a429 (h0 : a < b) : 2 * a < b * 2 := by lia
theorem a430 : (2 * a + 1) / 2 = a := by rw [Nat.mul_add_div (by decide)]; rfl
theorem a431 (h0 : a < b) : 2 * a + 1 < b * 2 := by lia
theorem a432 : (a * 2 - 1) / 2 = a - 1 := by
 cases a with
 | zero => rfl
 | succ n => rw [Nat.succ_mul, Nat.mul_comm]; exact Nat.mul_add_div (by decide) n 1
theorem a433 (h0 : a ≥ 6) (h1 : a < 6) : False := by lia
theorem a434 : a + b = b + a := by lia
theorem a435 (h0 : a ≤ b) : a < b + 1 := Nat.lt_succ_of_le h0
theorem a436 (h0 : a < b + 1) : a ≤ b := Nat.le_of_lt_succ h0
theorem a437 (h0 : a = 10) (h1 : 11 + 1 ≤ b + a) (h2 : b = c) : 2 ≤ c := by subst_vars; lia
theorem a438 (h0 : a + b = 11) (h1 : b = 10) : a = 1 := by subst_vars; lia
theorem a439 (h0 : a + 1 = b) (h1 : a + 1 ≤ c + d) : b + 1 ≤ c + (d + 1) := by subst_vars; lia
theorem a440 (h0 : a + 1 = b) (h1 : c + d = a) : c + (d + 1) = b := by subst_vars; lia
theorem a441 (h0 : 0 < a) : a - 1 + 1 = a := by lia
theorem a442 (h0 : ¬a < 6) : 6 + (a - 6) = a := Nat.add_sub_cancel' (Nat.le_of_not_lt h0)
theorem a443 (h0 : a < 11) : a - 6 < 5 := Nat.lt_of_le_of_lt (Nat.sub_le_sub_right (Nat.le_of_lt_succ h0) 6) (by decide)
theorem a444 : 0 ≤ a - 6 := Nat.zero_le _
theorem a445 (h0 : a < 6) : a < 11 := Nat.lt_of_lt_of_le h0 (by decide)
theorem a446 : 6 + a - 6 = a := by lia
theorem a447 : ¬6 + a < 6 := by lia
theorem a448 (h0 : a + 1 ≤ b) : ¬b < a := by lia
theorem a449 (h0 : a + 1 ≤ b) : ¬b = a := Nat.ne_of_gt h0
theorem a450 (h0 : a + 1 ≤ b) (h1 : c < a) : c < b := Nat.lt_trans h1 h0
theorem a451 (h0 : a ≤ 5) (h1 : b ≤ a) : b < 6 := by lia
theorem a452 : (6 + (↑a : Int)).toNat = 6 + a := rfl
theorem a453 (h0 : a ≤ 5) (h1 : b + 1 ≤ a) : 6 + (↑b : Int) < 11 := by lia
theorem a454 : 0 ≤ 6 + (↑a : Int) := Int.natCast_nonneg _
theorem a455 (h0 : a ≤ 5) (h1 : b + 1 ≤ a) : 0 ≤ 6 + (↑b : Int) ∧ 6 + (↑b : Int) < 11 := by lia
theorem a456 (h0 : a = b) (h1 : b ≤ 5) : 0 ≤ (↑a : Int) ∧ (↑a : Int) < 11 := by subst_vars; lia
theorem a457 (h0 : a + b = c + d) (h1 : e + (c + 1) = f + g) : 0 + 1 + (a + e) + b = f + (d + g) := by lia
theorem a458 (h0 : a + b = c + d) (h1 : e + (c + 1) = f + g) : 0 + 1 + 1 + (a + e) + b = f + (d + (g + 1)) := by lia
theorem a459 (h0 : a ≤ b) : a + (b - a) = b := Nat.add_sub_cancel' h0
theorem a460 (h0 : a ≤ b) (h1 : b + 1 ≤ c) : c - a = b - a + (c - (b + 1) + 1) := by
 have h : c - (b + 1) + 1 = c - b := Nat.succ_pred_eq_of_pos (Nat.sub_pos_of_lt h1); exact (Nat.sub_add_sub_cancel (Nat.le_of_succ_le h1) h0).symm.trans ((Nat.add_comm _ _).trans (congrArg (b - a + ·) h.symm))
theorem a461 (h0 : a = b) (h1 : a = c) : 0 + b = c + 0 := by subst_vars; lia
theorem a462 (h0 : a = b) (h1 : a = c) : c - b = 0 := by subst_vars; lia
theorem a463 (h0 : a + 1 ≤ b) (h1 : c ≤ a ∧ d ≤ a) : c ≤ b ∧ d ≤ b := ⟨ae h1.1 (Nat.le_of_succ_le h0), ae h1.2 (Nat.le_of_succ_le h0)⟩
theorem a464 (h0 : a + 1 ≤ b) (h1 : c ≤ a) : c ≤ b := by lia
theorem a465 {a : Int} {b : Int} (h0 : 0 ≤ a ∧ a < 11 ∧ 0 ≤ b ∧ b < 11) : b.toNat < 11 := (Int.toNat_lt h0.2.2.1).mpr h0.2.2.2
theorem a466 {a : Int} {b : Int} (h0 : 0 ≤ a ∧ a < 11 ∧ 0 ≤ b ∧ b < 11) : a.toNat < 11 := (Int.toNat_lt h0.1).mpr h0.2.1
theorem a467 (h0 : a < 6 ∧ b < 6) : (↑b : Int).toNat < 11 := Nat.lt_trans h0.2 (by decide)
theorem a468 (h0 : a < 6 ∧ b < 6) : (↑a : Int).toNat < 11 := Nat.lt_trans h0.1 (by decide)
theorem a469 (h0 : ¬a < 64) : 64 ≤ a := Nat.le_of_not_lt h0
theorem a470 (h0 : a ≤ 5 ∧ b ≤ 5) : a < 6 ∧ b < 6 := by lia
theorem a471 (h0 : a ≤ 5) (h1 : b + 1 ≤ a) (h2 : c ≤ b) : c < 6 := by lia
theorem a472 (h0 : a ≤ 5) : a < 6 := Nat.lt_succ_of_le h0
theorem a473 (h0 : a < 42) : a / 6 < 7 := Nat.div_lt_of_lt_mul h0
theorem a474 : a % 6 < 6 := Nat.mod_lt _ (by decide)
theorem a475 : a = 6 * (a / 6) + a % 6 := by lia
theorem a476 (h0 : a < 6 ∧ b < 6) : (↑b : Int) < 11 := by omega
theorem a477 (h0 : a < 6 ∧ b < 6) : (↑a : Int) < 11 := Int.ofNat_lt.mpr (Nat.lt_trans h0.1 (by decide))
theorem a478 (h0 : a < b) (h1 : b < 6) : a < 6 := Nat.lt_trans h0 h1
theorem a479 (h0 : a < 6) (h1 : b < a) : b < min a 6 := Nat.lt_min.mpr ⟨h1, Nat.lt_trans h1 h0⟩
theorem a480 (h0 : a < min b 6) : a < b ∧ a < 6 := ⟨Nat.lt_of_lt_of_le h0 (Nat.min_le_left _ _), Nat.lt_of_lt_of_le h0 (Nat.min_le_right _ _)⟩
theorem a481 (h0 : a < b ∧ b < 6 ∧ c = b) : a < 6 ∧ b < 6 := ⟨Nat.lt_trans h0.1 h0.2.1, h0.2.1⟩
theorem a483 (h0 : a < 720) : a / 120 < 6 := Nat.div_lt_of_lt_mul h0
theorem a484 : a % 120 < 120 := Nat.mod_lt _ (by decide)
theorem a485 : a = 120 * (a / 120) + a % 120 := by lia
theorem a486 (h0 : a ≤ 30) : a ≤ 100 := ae h0 (by decide)
theorem a487 (h0 : a < 5) : a < 10 := Nat.lt_of_lt_of_le h0 (by decide)
theorem a488 (h0 : a ≤ 100) : a ≤ 5592405 := ae h0 (by decide)
theorem a489 (h0 : a ≤ 100) (h1 : b ≤ 3 * a) : b ≤ 5592405 := by lia
theorem a490 (h0 : a < 24) (h1 : b < 5) : a + b < 28 := Nat.lt_of_le_of_lt (Nat.add_le_add (Nat.le_of_lt_succ h0) (Nat.le_of_lt_succ h1)) (by decide)
theorem a491 (h0 : a ≤ 30) : a ≤ 5592405 := ae h0 (by decide)
theorem a492 (h0 : 97 + a / 2 = 97 + b) : a / 2 = b := by lia
theorem a493 : ((↑a : Int) - (↑b : Int)).toNat = a - b := Int.toNat_sub a b
theorem a494 (h0 : a ≤ b) : (↑a : Int) ≤ (↑b : Int) := Int.ofNat_le.mpr h0
theorem a495 (h0 : ¬a ≠ b) : a = b := by lia
theorem a496 (h0 : a ≤ b) : a ≤ b + 2 := ae h0 (Nat.le_add_right _ _)
theorem a497 (h0 : a ≤ b) (h1 : ¬a < c) (h2 : c = b) : a = b := by subst_vars; lia
end
theorem szl {n : Nat} (h : n ≤ 16777216) : n ≤ PySem.sizeLine := PySem.sizeLine_eq ▸ h
end
section
theorem cp {h : Heap} {a : Addr} {mp : Str → Option Value} (n : h.Ns a mp) : ∃ o, h.get? a = some o := by obtain ⟨o, _, _, ho, _⟩ := n; exact ⟨o, ho⟩
noncomputable abbrev Mp := Addr → Option Obj
noncomputable def Mp.le (m m' : Mp) : Prop := ∀ a o, m a = some o → m' a = some o
theorem Mp.le.rfl {m : Mp} : m.le m := fun kq kq e => e
theorem Mp.le.trans {m m' m'' : Mp} (x : m.le m') (y : m'.le m'') : m.le m'' := fun a o e => y a o (x a o e)
noncomputable def Ok (m : Mp) (h : Heap) : Prop := ∀ a o, m a = some o → h.get? a = some o
noncomputable def Kn (m : Mp) (P : Heap → Prop) : Prop := ∀ h, Ok m h → P h
theorem Kn.up {m m' : Mp} {P : Heap → Prop} (k : Kn m P) (l : m.le m') : Kn m' P := fun h o => k h fun a ob e => o a ob (l a ob e)
theorem Kn.map {m : Mp} {P Q : Heap → Prop} (k : Kn m P) (f : ∀ h, P h → Q h) : Kn m Q := fun h o => f h (k h o)
structure Grd (w : World) (h : Heap) : Prop where
 k : Frag.In (KH w.params) h
 g : ∃ mg, h.Ns mainGlobals mg ∧ ∀ x v, nsIn (KH w.params) mainGlobals x = some v → mg x = v
 b : ∃ mb, h.Ns builtinsNs mb ∧ ∀ x : Str, x ≠ "__name__" → mb x = bootBuiltins x
 nolim : h.NoLimit
 nodig : ∃ mc, h.Ns cStatics mc ∧ mc "sys.int_max_str_digits" = none
structure VE where
 name : Str
 cel : Option Addr
 val : Option Value
structure Vars (env : Env) (own : List Addr) (h : Heap) (ρ : List VE) : Prop where
 kind : env.scope.kind = .function
 glob : env.globals = mainGlobals
 bltn : env.builtins = builtinsNs
 loc : env.locals ∈ own
 ns : ∃ mp, h.Ns env.locals mp ∧ ∀ e ∈ ρ, e.cel = none → ∀ v, e.val = some v → mp e.name = some v
 kl : ∀ e ∈ ρ, e.cel = none → env.kindOf e.name = some .local
 kc : ∀ e ∈ ρ, ∀ c, e.cel = some c → (env.kindOf e.name = some .cell ∨ env.kindOf e.name = some .free) ∧ env.cells.lookup e.name = some c ∧ c ≠ env.locals ∧ ∃ v, h.IsCell c v ∧ ∀ u, e.val = some u → v = some u
 names : (ρ.map (·.name)).Nodup
 cels : (ρ.filterMap (·.cel)).Nodup
noncomputable abbrev Led := List (Addr × (Obj → Prop))
structure Cx where
 old : Mp
 caps : List Addr
 base : Mp
 G : Array GenState
 os : OsState
structure Bd (w : World) (c : Cx) (γ : Array GenState) (m : Mp) (env : Env) (own : List Addr) (ρ : List VE) (nw : Led) (s : Shared) : Prop where
 old : ∀ a o, c.old a = some o → s.heap.get? a = some o
 ok : Ok m s.heap
 low : ∀ a o, c.old a = some o → m a = c.base a
 gr : Kn m (Grd w)
 ble : c.base.le m
 os : s.os = c.os
 gens : s.gens = γ
 gpre : ∀ (i : Nat) (x : GenState), c.G[i]? = some x → γ[i]? = some x
 bare : AllBare γ
 vars : Vars env own s.heap ρ
 cin : ∀ e ∈ ρ, ∀ a, e.cel = some a → a ∈ own ∨ a ∈ c.caps
 caps : ∀ a ∈ c.caps, ∃ o, c.old a = some o
 ownok : ∀ a ∈ own, ∃ o, s.heap.get? a = some o
 ledok : ∀ p ∈ nw, ∃ o, s.heap.get? p.1 = some o ∧ p.2 o
 nodup : (own ++ nw.map (·.1)).Nodup
 out : ∀ a ∈ own ++ nw.map (·.1), m a = none ∧ c.old a = none
structure Rm (A : Around) (d u : Nat) : Prop where
 handled : A.handled = none
 depth : A.depth + d < recursionLimit
 units : A.units + u < cLine
theorem Rm.deeper {A : Around} {env : Env} {d u : Nat} (r : Rm A (d + 1) (u + 3)) : Rm (A.deeper env) d u :=
 ⟨r.handled, by have := r.depth; show A.depth + 1 + d < _; exact a20 this, by have := r.units; show A.units + 3 + u < _; exact a19 this⟩
theorem Rm.less {A : Around} {d u d' u' : Nat} (r : Rm A d u) (hd : d' ≤ d) (hu : u' ≤ u) : Rm A d' u' :=
 ⟨r.handled, by have := r.depth; exact a18 hd this, by have := r.units; exact a18 hu this⟩
structure Bef (w : World) (m : Mp) (s : Shared) : Prop where
 ok : Ok m s.heap
 gr : Kn m (Grd w)
 bare : AllBare s.gens
structure Aft (X : List Addr) (m : Mp) (s : Shared) (m' : Mp) (s' : Shared) : Prop where
 le : m.le m'
 ok : Ok m' s'.heap
 keep : ∀ a o, s.heap.get? a = some o → a ∉ X → s'.heap.get? a = some o
 low : ∀ a o, s.heap.get? a = some o → m' a = m a
 os : s'.os = s.os
 gens : ∀ (i : Nat) (x : GenState), s.gens[i]? = some x → s'.gens[i]? = some x
 bare : AllBare s'.gens
section
variable {w : World} {c : Cx} {γ : Array GenState} {m : Mp} {env : Env} {own : List Addr} {ρ : List VE} {nw : Led} {s : Shared}
theorem Bd.bef (B : Bd w c γ m env own ρ nw s) : Bef w m s := ⟨B.ok, B.gr, B.gens ▸ B.bare⟩
theorem Vars.keep {h h' : Heap} (V : Vars env own h ρ) (k : ∀ a o, (a = env.locals ∨ ∃ e ∈ ρ, e.cel = some a) → h.get? a = some o → h'.get? a = some o) : Vars env own h' ρ where
 kind := V.kind
 glob := V.glob
 bltn := V.bltn
 loc := V.loc
 ns := by
   refine x12 V.ns fun mp hn hm => ?_; refine x32 hn fun o es ep ho r => ?_; exact ⟨mp, ⟨o, es, ep, k _ _ (.inl rfl) ho, r⟩, hm⟩
 kl := V.kl
 kc := fun e he cc hc => by
   obtain ⟨h1, h2, h3, v, ⟨o, ho, hd⟩, h5⟩ := V.kc e he cc hc; exact ⟨h1, h2, h3, v, ⟨o, k _ _ (.inr ⟨e, he, hc⟩) ho, hd⟩, h5⟩
 names := V.names
 cels := V.cels
theorem Bd.aft {m' : Mp} {s' : Shared} (B : Bd w c γ m env own ρ nw s) (f : Aft [] m s m' s') : Bd w c s'.gens m' env own ρ nw s' where
 old := fun a o e => f.keep a o (B.old a o e) (by simp)
 ok := f.ok
 low := fun a o e => (f.low a o (B.old a o e)).trans (B.low a o e)
 gr := B.gr.up f.le
 ble := B.ble.trans f.le
 os := f.os.trans B.os
 gens := rfl
 gpre := fun i x e => f.gens i x (B.gens ▸ B.gpre i x e)
 bare := f.bare
 vars := B.vars.keep fun a o kq e => f.keep a o e (by simp)
 cin := B.cin
 caps := B.caps
 ownok := fun a ha => by obtain ⟨o, ho⟩ := B.ownok a ha; exact ⟨o, f.keep _ _ ho (by simp)⟩
 ledok := fun p hp => by obtain ⟨o, ho, q⟩ := B.ledok p hp; exact ⟨o, f.keep _ _ ho (by simp), q⟩
 nodup := B.nodup
 out := fun a ha => ⟨by
   have h1 := (B.out a ha).1; have : ∃ o, s.heap.get? a = some o := by
     rcases mAp ha with h | h
     · exact B.ownok a h
     obtain ⟨p, hp, rfl⟩ := mMa h; refine x12 (B.ledok p hp) fun o ho kq => ?_; exact ⟨o, ho⟩
   obtain ⟨o, ho⟩ := this; exact (f.low a o ho).trans h1, (B.out a ha).2⟩
theorem Bd.tk (B : Bd w c γ m env own ρ nw s) (d : Drawn) (t : Nat) : Bd w c γ m env own ρ nw ⟨s.heap, s.gens, d, t, s.os⟩ :=
 ⟨B.old, B.ok, B.low, B.gr, B.ble, B.os, B.gens, B.gpre, B.bare, B.vars, B.cin, B.caps, B.ownok, B.ledok, B.nodup, B.out⟩
theorem Bd.mem_ne {a b : Addr} (B : Bd w c γ m env own ρ nw s) {o : Obj} (ha : m a = some o) (hb : b ∈ own ++ nw.map (·.1)) : a ≠ b := fun e => by
 have := (B.out b hb).1; rw [← e, ha] at this; cases this
theorem Bd.old_ne {a b : Addr} (B : Bd w c γ m env own ρ nw s) {o : Obj} (ha : c.old a = some o) (hb : b ∈ own ++ nw.map (·.1)) : a ≠ b := fun e => by
 have := (B.out b hb).2; rw [← e, ha] at this; cases this
theorem Bd.led {a : Addr} {P : Obj → Prop} (B : Bd w c γ m env own ρ nw s) (h : (a, P) ∈ nw) : ∃ o, s.heap.get? a = some o ∧ P o := B.ledok _ h
theorem Bd.fresh (B : Bd w c γ m env own ρ nw s) : m s.heap.objs.size = none ∧ c.old s.heap.objs.size = none ∧ s.heap.objs.size ∉ own ++ nw.map (·.1) := by
 refine ⟨?_, ?_, fun h => ?_⟩
 · cases e : m s.heap.objs.size with
   | none => rfl
   | some o => exact absurd (Heap.lt_size (B.ok _ _ e)) (Nat.lt_irrefl _)
 · cases e : c.old s.heap.objs.size with
   | none => rfl
   | some o => exact absurd (Heap.lt_size (B.old _ _ e)) (Nat.lt_irrefl _)
 rcases mAp h with h | h
 · obtain ⟨o, ho⟩ := B.ownok _ h; exact absurd (Heap.lt_size ho) (Nat.lt_irrefl _)
 refine x12 (mMa h) fun p hp e => ?_; refine x12 (B.ledok p hp) fun o ho kq => ?_; exact absurd (Heap.lt_size (e ▸ ho)) (Nat.lt_irrefl _)
noncomputable def Mp.put (m : Mp) (a : Addr) (o : Obj) : Mp := fun b => if b = a then some o else m b
theorem Mp.le_put {m : Mp} {a : Addr} {o : Obj} (h : m a = none) : m.le (m.put a o) := fun b ob e => by
 unfold Mp.put; by_cases q : b = a
 · subst q; rw [h] at e; cases e
 rw [if_neg q]; exact e
theorem Mp.put_self {m : Mp} {a : Addr} {o : Obj} : (m.put a o) a = some o := by unfold Mp.put; rw [if_pos rfl]
theorem Mp.put_ne {m : Mp} {a b : Addr} {o : Obj} (h : b ≠ a) : (m.put a o) b = m b := by unfold Mp.put; rw [if_neg h]
theorem Bd.grow {h' : Heap} {d : Drawn} {t : Nat} (B : Bd w c γ m env own ρ nw s) (k : ∀ a o, s.heap.get? a = some o → h'.get? a = some o) : Bd w c γ m env own ρ nw ⟨h', s.gens, d, t, s.os⟩ :=
 ⟨fun a o e => k a o (B.old a o e), fun a o e => k a o (B.ok a o e), B.low, B.gr, B.ble, B.os, B.gens, B.gpre, B.bare, B.vars.keep fun a o kq e => k a o e, B.cin, B.caps,
   fun a ha => by obtain ⟨o, ho⟩ := B.ownok a ha; exact ⟨o, k _ _ ho⟩, fun p hp => by obtain ⟨o, ho, q⟩ := B.ledok p hp; exact ⟨o, k _ _ ho, q⟩, B.nodup, B.out⟩
theorem Bd.addK {a : Addr} {o : Obj} (B : Bd w c γ m env own ρ nw s) (ho : s.heap.get? a = some o) (h1 : m a = none) (h2 : c.old a = none) (h3 : a ∉ own ++ nw.map (·.1)) :
   Bd w c γ (m.put a o) env own ρ nw s where
 old := B.old
 ok := fun b ob e => by
   unfold Mp.put at e; by_cases q : b = a
   · subst q; rw [if_pos rfl] at e; cases e; exact ho
   rw [if_neg q] at e; exact B.ok b ob e
 low := fun b ob e => by
   rw [Mp.put_ne (fun q => by subst q; rw [h2] at e; cases e)]
   exact B.low b ob e
 gr := B.gr.up (Mp.le_put h1)
 ble := B.ble.trans (Mp.le_put h1)
 os := B.os
 gens := B.gens
 gpre := B.gpre
 bare := B.bare
 vars := B.vars
 cin := B.cin
 caps := B.caps
 ownok := B.ownok
 ledok := B.ledok
 nodup := B.nodup
 out := fun b hb => ⟨by rw [Mp.put_ne (fun q => by subst q; exact h3 hb)]; exact (B.out b hb).1, (B.out b hb).2⟩
theorem Bd.addL {a : Addr} {o : Obj} {P : Obj → Prop} (B : Bd w c γ m env own ρ nw s) (ho : s.heap.get? a = some o) (hP : P o) (h1 : m a = none) (h2 : c.old a = none) (h3 : a ∉ own ++ nw.map (·.1)) :
   Bd w c γ m env own ρ ((a, P) :: nw) s where
 old := B.old
 ok := B.ok
 low := B.low
 gr := B.gr
 ble := B.ble
 os := B.os
 gens := B.gens
 gpre := B.gpre
 bare := B.bare
 vars := B.vars
 cin := B.cin
 caps := B.caps
 ownok := B.ownok
 ledok := fun p hp => by
   rcases mCo hp with rfl | hp
   · exact ⟨o, ho, hP⟩
   exact B.ledok p hp
 nodup := by
   have := B.nodup; rw [ai]; rw [List.nodup_append] at this ⊢; refine ⟨this.1, List.nodup_cons.mpr ⟨fun hm => h3 (List.mem_append.mpr (.inr hm)), this.2.1⟩, fun x hx y hy => ?_⟩; rcases mCo hy with rfl | hy
   · exact fun e => h3 (List.mem_append.mpr (.inl (e ▸ hx)))
   exact this.2.2 x hx y hy
 out := fun b hb => by
   rcases mAp hb with hb | hb
   · exact B.out b (List.mem_append.mpr (.inl hb))
   rw [ai] at hb; rcases mCo hb with rfl | hb
   · exact ⟨h1, h2⟩
   exact B.out b (List.mem_append.mpr (.inr hb))
theorem Bd.sub {nw' : Led} (B : Bd w c γ m env own ρ nw s) (h : ∀ p ∈ nw', p ∈ nw) (hn : (nw'.map (·.1)).Nodup) : Bd w c γ m env own ρ nw' s :=
 have mm : ∀ a ∈ nw'.map (·.1), a ∈ nw.map (·.1) := fun a ha => by obtain ⟨p, hp, rfl⟩ := mMa ha; exact List.mem_map_of_mem (h p hp)
 ⟨B.old, B.ok, B.low, B.gr, B.ble, B.os, B.gens, B.gpre, B.bare, B.vars, B.cin, B.caps, B.ownok, fun p hp => B.ledok p (h p hp), by
   have := B.nodup; rw [List.nodup_append] at this ⊢; exact ⟨this.1, hn, fun x hx y hy => this.2.2 x hx y (mm y hy)⟩, fun a ha => B.out a (by
   rcases mAp ha with ha | ha
   · exact List.mem_append.mpr (.inl ha)
   exact List.mem_append.mpr (.inr (mm a ha)))⟩
theorem Bd.drop1 {p : Addr × (Obj → Prop)} (B : Bd w c γ m env own ρ (p :: nw) s) : Bd w c γ m env own ρ nw s :=
 B.sub (fun q hq => .tail _ hq) (by have := B.nodup; rw [List.nodup_append] at this; exact (List.nodup_cons.mp this.2.1).2)
theorem Bd.freeze {a : Addr} {P : Obj → Prop} (B : Bd w c γ m env own ρ ((a, P) :: nw) s) : ∃ m', m.le m' ∧ Kn m' (fun h => ∃ o, h.get? a = some o ∧ P o) ∧ Bd w c γ m' env own ρ nw s := by
 refine x12 (B.ledok _ (.head _)) fun o ho hP => ?_; have hm : a ∈ own ++ ((a, P) :: nw).map (·.1) := List.mem_append.mpr (.inr (.head _)); have hn := B.nodup; refine ⟨m.put a o, Mp.le_put (B.out a hm).1, fun h ok => ⟨o, ok a o Mp.put_self, hP⟩, B.drop1.addK ho (B.out a hm).1 (B.out a hm).2 fun h => ?_⟩; rw [ai, List.nodup_append] at hn; rcases mAp h with h | h
 · exact hn.2.2 a h a (.head _) rfl
 exact (List.nodup_cons.mp hn.2.1).1 h
inductive Upd (a : Addr) (P P' : Obj → Prop) : Led → Led → Prop
 | head {r : Led} : Upd a P P' ((a, P) :: r) ((a, P') :: r)
 | tail {p r r'} : Upd a P P' r r' → Upd a P P' (p :: r) (p :: r')
theorem Upd.keys {a : Addr} {P P' : Obj → Prop} {l l' : Led} (u : Upd a P P' l l') : l'.map (·.1) = l.map (·.1) := by
 induction u with
 | head => rfl
 | tail _ ih => rw [ai, ai, ih]
theorem Upd.mem {a : Addr} {P P' : Obj → Prop} {l l' : Led} (u : Upd a P P' l l') : (a, P) ∈ l := by
 induction u with
 | head => exact .head _
 | tail _ ih => exact .tail _ ih
theorem Upd.split {a : Addr} {P P' : Obj → Prop} {l l' : Led} (u : Upd a P P' l l') (hn : (l.map (·.1)).Nodup) : ∀ p ∈ l', p = (a, P') ∨ (p.1 ≠ a ∧ p ∈ l) := by
 induction u with
 | @head r =>
   intro p hp; rcases mCo hp with rfl | hp
   · exact .inl rfl
   exact .inr ⟨fun e => (List.nodup_cons.mp hn).1 (e ▸ List.mem_map_of_mem (f := (·.1)) hp), .tail _ hp⟩
 | @tail p0 r r' u ih =>
   intro p hp; rw [ai] at hn; rcases mCo hp with rfl | hp
   · exact .inr ⟨fun e => (List.nodup_cons.mp hn).1 (e ▸ List.mem_map_of_mem u.mem), .head _⟩
   rcases ih (List.nodup_cons.mp hn).2 p hp with h | h
   · exact .inl h
   exact .inr ⟨h.1, .tail _ h.2⟩
theorem Bd.turn {a : Addr} {P P' : Obj → Prop} {nw' : Led} {h' : Heap} {d : Drawn} {t : Nat} (B : Bd w c γ m env own ρ nw s) (u : Upd a P P' nw nw') (k : ∀ b o, b ≠ a → s.heap.get? b = some o → h'.get? b = some o)
   (hP : ∃ o, h'.get? a = some o ∧ P' o) : Bd w c γ m env own ρ nw' ⟨h', s.gens, d, t, s.os⟩ := by
 have hm : a ∈ own ++ nw.map (·.1) := List.mem_append.mpr (.inr (List.mem_map_of_mem u.mem)); have hn := B.nodup; rw [List.nodup_append] at hn; refine ⟨fun b o e => k b o (B.old_ne e hm) (B.old b o e), fun b o e => k b o (B.mem_ne e hm) (B.ok b o e), B.low, B.gr, B.ble, B.os, B.gens, B.gpre, B.bare, B.vars.keep fun b o hb e => k b o ?_ e, B.cin, B.caps, fun b hb => ?_, fun p hp => ?_, by rw [u.keys]; exact B.nodup, by rw [u.keys]; exact B.out⟩
 · rcases hb with rfl | ⟨x, hx, hc⟩
   · exact fun e => hn.2.2 _ B.vars.loc a (List.mem_map_of_mem u.mem) e
   rcases B.cin x hx b hc with h | h
   · exact fun e => hn.2.2 _ h a (List.mem_map_of_mem u.mem) e
   obtain ⟨ob, h⟩ := B.caps b h; exact B.old_ne h hm
 · obtain ⟨o, ho⟩ := B.ownok b hb; exact ⟨o, k b o (fun e => hn.2.2 b hb a (List.mem_map_of_mem u.mem) e) ho⟩
 rcases u.split hn.2.1 p hp with rfl | ⟨h1, h2⟩
 · exact hP
 refine x12 (B.ledok p h2) fun o ho q => ?_; exact ⟨o, k _ _ h1 ho, q⟩
end
end
section
inductive PutV (x : Str) (k : Option Addr) (v : Value) : List VE → List VE → Prop
 | head {u r} : PutV x k v (⟨x, k, u⟩ :: r) (⟨x, k, some v⟩ :: r)
 | tail {e r r'} : PutV x k v r r' → PutV x k v (e :: r) (e :: r')
section
variable {x : Str} {k : Option Addr} {v : Value} {ρ ρ' : List VE}
theorem PutV.names (p : PutV x k v ρ ρ') : ρ'.map (·.name) = ρ.map (·.name) := by
 induction p with
 | head => rfl
 | tail _ ih => rw [ai, ai, ih]
theorem PutV.cels (p : PutV x k v ρ ρ') : ρ'.filterMap (·.cel) = ρ.filterMap (·.cel) := by
 induction p with
 | head => rfl
 | tail _ ih => rw [List.filterMap_cons, List.filterMap_cons, ih]
theorem PutV.mem (p : PutV x k v ρ ρ') : ∃ u, (⟨x, k, u⟩ : VE) ∈ ρ := by
 induction p with
 | head => exact ⟨_, .head _⟩
 | tail _ ih => obtain ⟨u, h⟩ := ih; exact ⟨u, .tail _ h⟩
theorem PutV.split (p : PutV x k v ρ ρ') (hn : (ρ.map (·.name)).Nodup) : ∀ e ∈ ρ', e = ⟨x, k, some v⟩ ∨ (e.name ≠ x ∧ e ∈ ρ) := by
 induction p with
 | @head u r =>
   intro e he; rcases mCo he with rfl | he
   · exact .inl rfl
   exact .inr ⟨fun q => (List.nodup_cons.mp hn).1 (q ▸ List.mem_map_of_mem (f := (·.name)) he), .tail _ he⟩
 | @tail e0 r r' p ih =>
   intro e he; rw [ai] at hn; rcases mCo he with rfl | he
   · obtain ⟨u, hu⟩ := p.mem; exact .inr ⟨fun q => (List.nodup_cons.mp hn).1 (q ▸ List.mem_map_of_mem (f := (·.name)) hu), .head _⟩
   rcases ih (List.nodup_cons.mp hn).2 e he with h | h
   · exact .inl h
   exact .inr ⟨h.1, .tail _ h.2⟩
theorem gN {a : Addr} : ∀ {ρ : List VE}, (ρ.filterMap (·.cel)).Nodup → ∀ {e e' : VE}, e ∈ ρ → e' ∈ ρ → e.cel = some a → e'.cel = some a → e = e'
 | [], _, _, _, h, _, _, _ => nomatch h
 | y :: r, hn, e, e', he, he', h1, h2 => by
   have mem : ∀ {z : VE}, z ∈ r → z.cel = some a → a ∈ r.filterMap (·.cel) := fun hz hc => List.mem_filterMap.mpr ⟨_, hz, hc⟩; rw [List.filterMap_cons] at hn; rcases mCo he with q | g <;> rcases mCo he' with q' | g'
   · rw [q, q']
   · subst q; rw [h1] at hn; exact absurd (mem g' h2) (List.nodup_cons.mp hn).1
   · subst q'; rw [h2] at hn; exact absurd (mem g h1) (List.nodup_cons.mp hn).1
   cases hy : y.cel with
   | none => rw [hy] at hn; exact gN hn g g' h1 h2
   | some b => rw [hy] at hn; exact gN (List.nodup_cons.mp hn).2 g g' h1 h2
end
noncomputable def setV (x : Str) (v : Value) (ρ : List VE) : List VE := ρ.map fun e => if e.name = x then ⟨e.name, e.cel, some v⟩ else e
theorem setV_id {x : Str} {v : Value} {ρ : List VE} (h : x ∉ ρ.map (·.name)) : setV x v ρ = ρ := by
 unfold setV; conv => rhs; rw [← List.map_id ρ]
 refine List.map_congr_left fun e he => ?_; rw [if_neg (show ¬ e.name = x from fun q => h (q ▸ List.mem_map_of_mem (f := (·.name)) he))]; rfl
theorem putV_set {x : Str} {k : Option Addr} {u : Option Value} {v : Value} {ρ : List VE} (hn : (ρ.map (·.name)).Nodup) (h : (⟨x, k, u⟩ : VE) ∈ ρ) : PutV x k v ρ (setV x v ρ) := by
 induction ρ with
 | nil => cases h
 | cons e r ih =>
   rw [ai, List.nodup_cons] at hn; show PutV x k v _ ((if e.name = x then ⟨e.name, e.cel, some v⟩ else e) :: setV x v r)
   rcases mCo h with rfl | h
   · rw [if_pos rfl, setV_id hn.1]; exact .head
   rw [if_neg (show ¬ e.name = x from fun q => hn.1 (q ▸ List.mem_map_of_mem (f := (·.name)) h))]; exact .tail (ih hn.2 h)
noncomputable def Hn (x : Str) (k : Option Addr) (ρ : List VE) : Prop := ∃ u, (⟨x, k, u⟩ : VE) ∈ ρ
theorem Hn.mk {x : Str} {k : Option Addr} {u : Option Value} {ρ : List VE} (h : (⟨x, k, u⟩ : VE) ∈ ρ) : Hn x k ρ := ⟨u, h⟩
section
variable {w : World} {c : Cx} {γ : Array GenState} {m : Mp} {env : Env} {own : List Addr} {ρ ρ' : List VE} {nw : Led} {s : Shared}
variable {prog : Program} {A : Around} {E : VP}
theorem jL {M : Model} {name : Str} {a : Addr} {v₀ : Option Value} {v : Value} {Q : Unit → Shared → Prop} (hk : env.scope.kind = .function) (hl : env.kindOf name = some .cell ∨ env.kindOf name = some .free)
   (hc : env.cells.lookup name = some a) (hv : s.heap.IsCell a v₀)
   (h : ∀ h', h'.IsCell a (some v) → Heap.SameBut a s.heap h' → Q () { s with heap := h' }) : wpAny M A (storeName env name v) Q E s := by
 rcases hl with hl | hl
 · exact wpAny_storeName_cell hk hl hc hv h
 unfold storeName; simp only [hl, hk]; exact aj (wpAny_cellOf hc (wpAny_cellSet hv h))
theorem r_store {M : Model} {x : Str} {k : Option Addr} {v : Value} {Q : Unit → Shared → Prop} (B : Bd w c γ m env own ρ nw s) (hp : PutV x k v ρ ρ') (hk : ∀ a, k = some a → a ∈ own)
   (h : ∀ s', Bd w c γ m env own ρ' nw s' → Q () s') : wpAny M A (storeName env x v) Q E s := by
 obtain ⟨u, hu⟩ := hp.mem; have V := B.vars; have hsp := hp.split V.names; have own_ne : ∀ b, b ∈ own → (∀ a o, m a = some o → a ≠ b) ∧ (∀ a o, c.old a = some o → a ≠ b) ∧ ∀ p ∈ nw, p.1 ≠ b := fun b hb => by
   have hm : b ∈ own ++ nw.map (·.1) := List.mem_append.mpr (.inl hb); refine ⟨fun a o e => B.mem_ne e hm, fun a o e => B.old_ne e hm, fun p hp q => ?_⟩; have := B.nodup; rw [List.nodup_append] at this; exact this.2.2 b hb p.1 (List.mem_map_of_mem hp) q.symm
 have go : ∀ b, b ∈ own → ∀ h' t, Heap.SameBut b s.heap h' → (∃ o, h'.get? b = some o) → Vars env own h' ρ' → Bd w c γ m env own ρ' nw ⟨h', s.gens, s.drawn, t, s.os⟩ := fun b hb h' t hs hbo V' => by
   refine x03 (own_ne b hb) fun n1 n2 n3 => ?_; refine ⟨fun a o e => hs.extBut a o (n2 a o e) (B.old a o e), fun a o e => hs.extBut a o (n1 a o e) (B.ok a o e), B.low, B.gr, B.ble, B.os, B.gens, B.gpre, B.bare, V', fun e he a ha => ?_, B.caps, fun a ha => ?_, fun p hp => ?_, B.nodup, B.out⟩
   · rcases hsp e he with rfl | ⟨_, h2⟩
     · exact B.cin _ hu a ha
     exact B.cin e h2 a ha
   · obtain ⟨o, ho⟩ := B.ownok a ha; by_cases q : a = b
     · subst q; exact hbo
     exact ⟨o, hs.extBut a o q ho⟩
   refine x12 (B.ledok p hp) fun o ho q => ?_; exact ⟨o, hs.extBut _ o (n3 p hp) ho, q⟩
 cases k with
 | none =>
   refine x12 V.ns fun mp hn hmp => ?_; refine wpAny_storeName_local (V.kl _ hu rfl) hn (fun h' hn' hs => h _ (go _ V.loc h' _ hs ?_ ?_)) (by rw [V.kind]; rfl)
   · refine x32 hn' fun o kq kq ho kq => ?_; exact ⟨o, ho⟩
   refine ⟨V.kind, V.glob, V.bltn, V.loc, ⟨_, hn', fun e he hc v' hv' => ?_⟩, fun e he hc => ?_, fun e he a ha => ?_, by rw [hp.names]; exact V.names, by rw [hp.cels]; exact V.cels⟩
   · rcases hsp e he with rfl | ⟨h1, h2⟩
     · cases hv'; show (if x = x then _ else _) = _; rw [if_pos rfl]
     show (if e.name = x then _ else _) = _; rw [if_neg h1]; exact hmp e h2 hc v' hv'
   · rcases hsp e he with rfl | ⟨h1, h2⟩
     · exact V.kl ⟨x, none, u⟩ hu rfl
     exact V.kl e h2 hc
   rcases hsp e he with rfl | ⟨h1, h2⟩
   · cases ha
   obtain ⟨y1, y2, y3, v', y4, y5⟩ := V.kc e h2 a ha; exact ⟨y1, y2, y3, v', y4.sameBut hs y3, y5⟩
 | some a =>
   obtain ⟨y1, y2, y3, v', y4, y5⟩ := V.kc _ hu a rfl; refine jL V.kind y1 y2 y4 (fun h' hc' hs => h _ (go _ (hk a rfl) h' _ hs ?_ ?_))
   · refine x12 hc' fun o ho kq => ?_; exact ⟨o, ho⟩
   refine x12 V.ns fun mp hn hmp => ?_; refine ⟨V.kind, V.glob, V.bltn, V.loc, ⟨mp, hn.sameBut hs (Ne.symm y3), fun e he hc v' hv' => ?_⟩, fun e he hc => ?_, fun e he b hb => ?_, by rw [hp.names]; exact V.names, by rw [hp.cels]; exact V.cels⟩
   · rcases hsp e he with rfl | ⟨h1, h2⟩
     · cases hc
     exact hmp e h2 hc v' hv'
   · rcases hsp e he with rfl | ⟨h1, h2⟩
     · cases hc
     exact V.kl e h2 hc
   rcases hsp e he with rfl | ⟨h1, h2⟩
   · cases hb
     exact ⟨y1, y2, y3, _, hc', fun u hu => hu⟩
   obtain ⟨z1, z2, z3, v'', z4, z5⟩ := V.kc e h2 b hb; refine ⟨z1, z2, z3, v'', z4.sameBut hs fun q => ?_, z5⟩; subst q; exact h1 (congrArg VE.name (gN V.cels h2 hu hb rfl))
theorem r_var {M : Model} {x : Str} {k : Option Addr} {v : Value} {pos : Pos} {Q : VP} (B : Bd w c γ m env own ρ nw s) (hm : (⟨x, k, some v⟩ : VE) ∈ ρ) (hd : (x == ("__debug__" : Str)) = false) (hd' : (x == ("__classdict__" : Str)) = false)
   (h : Q v s) : wpAny M A (eval (.Name x pos) env) Q E s := by
 have V := B.vars; refine wpAny_Name ?_ hd; cases k with
 | none =>
   refine x12 V.ns fun mp hn hmp => ?_; exact wpAny_loadName_local V.kind (V.kl _ hm rfl) hn (hmp _ hm rfl v rfl) h
 | some a =>
   obtain ⟨y1, y2, y3, v', y4, y5⟩ := V.kc _ hm a rfl; have := y5 v rfl; subst this; rcases y1 with y1 | y1
   · exact wpAny_loadName_cell V.kind y1 y2 y4 h
   exact wpAny_loadName_free V.kind y1 y2 y4 h hd'
theorem r_load {M : Model} {x : Str} {k : Option Addr} {v : Value} {Q : VP} (B : Bd w c γ m env own ρ nw s) (hm : (⟨x, k, some v⟩ : VE) ∈ ρ) (hd' : (x == ("__classdict__" : Str)) = false)
   (h : Q v s) : wpAny M A (loadName env x) Q E s := by
 have V := B.vars; cases k with
 | none =>
   refine x12 V.ns fun mp hn hmp => ?_; exact wpAny_loadName_local V.kind (V.kl _ hm rfl) hn (hmp _ hm rfl v rfl) h
 | some a =>
   obtain ⟨y1, y2, y3, v', y4, y5⟩ := V.kc _ hm a rfl; have := y5 v rfl; subst this; rcases y1 with y1 | y1
   · exact wpAny_loadName_cell V.kind y1 y2 y4 h
   exact wpAny_loadName_free V.kind y1 y2 y4 h hd'
theorem r_glob {M : Model} {x : Str} {v : Value} {pos : Pos} {Q : VP} (B : Bd w c γ m env own ρ nw s) (hx : env.kindOf x = some .globalImplicit) (e : nsIn (KH w.params) mainGlobals x = some (some v))
   (hd : (x == ("__debug__" : Str)) = false) (h : Q v s) : wpAny M A (eval (.Name x pos) env) Q E s := by
 refine x12 ((B.gr _ B.ok).g) fun mg hn hg => ?_; exact Name_function_global B.vars.kind hx (loadGlobal_global (by rw [B.vars.glob]; exact hn) (hg x _ e) h) hd
theorem r_blt {M : Model} {x : Str} {v : Value} {pos : Pos} {Q : VP} (B : Bd w c γ m env own ρ nw s) (hx : env.kindOf x = some .globalImplicit) (e : nsIn (KH w.params) mainGlobals x = some none)
   (hv : bootBuiltins x = some v) (hn' : x ≠ "__name__") (hd : (x == ("__debug__" : Str)) = false) (h : Q v s) : wpAny M A (eval (.Name x pos) env) Q E s := by
 have G := B.gr _ B.ok; refine x12 G.g fun mg hn hg => ?_; refine x12 G.b fun mb hb hbb => ?_; exact Name_function_global B.vars.kind hx (loadGlobal_builtin (by rw [B.vars.glob]; exact hn) (hg x _ e) (by rw [B.vars.bltn]; exact hb) ((hbb x hn').trans hv) h) hd
theorem r_storeO {M : Model} {x : Str} {k : Option Addr} {v : Value} {Q : Unit → Shared → Prop} (B : Bd w c γ m env own ρ nw s) (hn : Hn x k ρ) (hk : ∀ a, k = some a → a ∈ own)
   (h : ∀ ρ' s', PutV x k v ρ ρ' → Bd w c γ m env own ρ' nw s' → Q () s') : wpAny M A (storeName env x v) Q E s := by
 obtain ⟨u, hu⟩ := hn; have p := putV_set (v := v) B.vars.names hu; exact r_store B p hk fun s' B => h _ s' p B
end
end
section
noncomputable abbrev PG : Program := PySem.Challenge.rw_kl0125_01.row.prog
noncomputable def Mp.of (h : Heap) (X : List Addr) : Mp := fun a => if a ∈ X then none else h.get? a
theorem Mp.of_get {h : Heap} {X : List Addr} {a : Addr} {o : Obj} (e : (Mp.of h X) a = some o) : h.get? a = some o ∧ a ∉ X := by
 unfold Mp.of at e; by_cases q : a ∈ X
 · rw [if_pos q] at e; cases e
 rw [if_neg q] at e; exact ⟨e, q⟩
theorem Mp.get_of {h : Heap} {X : List Addr} {a : Addr} {o : Obj} (e : h.get? a = some o) (q : a ∉ X) : (Mp.of h X) a = some o := by
 unfold Mp.of; rw [if_neg q]; exact e
theorem Mp.of_none {h : Heap} {X : List Addr} {a : Addr} (q : a ∈ X) : (Mp.of h X) a = none := by
 unfold Mp.of; rw [if_pos q]
structure LedOk (m : Mp) (s : Shared) (nw : Led) : Prop where
 ok : ∀ p ∈ nw, ∃ o, s.heap.get? p.1 = some o ∧ p.2 o
 out : ∀ p ∈ nw, m p.1 = none
 nodup : (nw.map (·.1)).Nodup
theorem LedOk.nil {m : Mp} {s : Shared} : LedOk m s [] := ⟨fun kq h => (nomatch h), fun kq h => (nomatch h), .nil⟩
noncomputable def initV (ns : List Str) (binds : List (Str × Value)) : List VE := ns.map fun n => ⟨n, none, binds.reverse.lookup n⟩
structure EnvOf (env : Env) (sc : Scope) (L : Addr) (cells : List (Str × Addr)) : Prop where
 scope : env.scope = sc
 locals : env.locals = L
 cells : env.cells = cells
theorem EnvOf.kind {env : Env} {sc : Scope} {L : Addr} {cells : List (Str × Addr)} (e : EnvOf env sc L cells) {x : Str} {k : Option NameKind} (h : sc.names.lookup x = k) : env.kindOf x = k := by
 unfold Env.kindOf; rw [e.scope]; exact h
section
variable {w : World} {m : Mp} {nw : Led} {s : Shared} {A : Around} {E : VP} {Q : VP}
theorem Grd.keeps {h h' : Heap} (G : Grd w h) (k : ∀ b o, h.get? b = some o → h'.get? b = some o) : Grd w h' where
 k := G.k.keeps k
 g := by obtain ⟨mg, a, b⟩ := G.g; exact ⟨mg, a.keeps k, b⟩
 b := by obtain ⟨mb, a, b⟩ := G.b; exact ⟨mb, a.keeps k, b⟩
 nolim := G.nolim.keeps k
 nodig := by obtain ⟨mc, a, b⟩ := G.nodig; exact ⟨mc, a.keeps k, b⟩
theorem enterF {d u : Nat} {f : Addr} {vals : List Value} {kw : List (Str × Value)} {oc : Value} {od : Option Addr} {osl : Array (Option Value)} {fd : FuncData} {body : List Stmt} {binds : List (Str × Value)} {ns : List Str} {ρ₀ : List VE}
   (R : Rm A (d + 1) (u + 3)) (b : Bef w m s) (l : LedOk m s nw)
   (ho : (KH w.params).lookup f = some ⟨oc, od, .func fd, osl⟩) (hcd : codeIn (KH w.params) fd.code fd.qualname = true) (hbody : fd.body = .stmts body)
   (hbind : bindArgs fd ⟨vals, kw⟩ = pure binds) (hcl : fd.closure = []) (hgl : fd.globals = mainGlobals) (hbl : fd.builtins = builtinsNs) (hco : fd.scope.isCoroutine = false) (hgen : fd.scope.isGenerator = false) (hk : fd.scope.kind = .function)
   (hcell : (fd.scope.names.all fun x => x.2 != .cell) = true) (hloc : (binds.all fun x => fd.scope.names.lookup x.1 == some .local) = true) (hns : (ns.all fun n => fd.scope.names.lookup n == some .local) = true) (hnd : ns.Nodup)
   (hρ : initV ns binds = ρ₀)
   (h : ∀ (A' : Around) (env : Env) (L : Addr) (c : Cx) (s' : Shared), A' = A.deeper env → env.frame = some L → EnvOf env fd.scope L [] → Rm A' d u → c = ⟨Mp.of s.heap (nw.map (·.1)), [], m, s.gens, s.os⟩ → Bd w c s.gens m env [L] ρ₀ nw s' → (∀ a o, s.heap.get? a = some o → a < L) →
     wpAny (model PG w) A' (execs body env) (fun fl s' => Q (match fl with | .ret v => v | _ => .none) s') (fun e s' => wpAny (model PG w) A' (leaving env e) (fun kq s'' => E e s'') E s') s') :
   wpAny (model PG w) A (call (.ref f) vals kw) Q E s := by
 have G := b.gr _ b.ok; refine wpAny_call (codeAny_call_def (fd := fd) (body := body) (binds := binds) (by have := R.depth; exact a2 this) (G.k _ _ ho) rfl G.nolim (codeRec_of G.k hcd) hbody (.of_eq hbind) ?_ ?_ (fun h₁ hns₁ hk₁ => ?_) hco hgen hk)
 · intro x hx; have := List.all_eq_true.mp hcell x hx; intro e; rw [e] at this; exact absurd this (by decide)
 · intro x hx; have := List.all_eq_true.mp hloc x hx; simpa using this
 refine an (h _ (callEnv fd s.heap.objs.size f) s.heap.objs.size _ _ rfl rfl ⟨rfl, rfl, hcl⟩ R.deeper rfl ?_ fun a o e => Heap.lt_size e) (fun kq kq q => q) (fun kq kq x => x); have old_get : ∀ a o, (Mp.of s.heap (nw.map (·.1))) a = some o → s.heap.get? a = some o := fun a o e => (Mp.of_get e).1; have L_fresh : s.heap.get? s.heap.objs.size = none := by
   cases e : s.heap.get? s.heap.objs.size with
   | none => rfl
   | some o => exact absurd (Heap.lt_size e) (Nat.lt_irrefl _)
 refine ⟨fun a o e => hk₁ a o (old_get a o e), fun a o e => hk₁ a o (b.ok a o e), fun kq kq kq => rfl, b.gr, .rfl, rfl, rfl, fun kq kq e => e, b.bare, ?_, ?_, fun kq h => (nomatch h), ?_, ?_, ?_, ?_⟩
 · subst hρ; refine ⟨hk, hgl, hbl, .head _, ⟨_, hns₁, fun e he kq v hv => ?_⟩, fun e he kq => ?_, fun e he c hc => ?_, ?_, ?_⟩
   · obtain ⟨n, hn, rfl⟩ := mMa he; exact hv
   · obtain ⟨n, hn, rfl⟩ := mMa he; have := List.all_eq_true.mp hns n hn; show fd.scope.names.lookup n = _
     simpa using this
   · obtain ⟨n, hn, rfl⟩ := mMa he; cases hc
   · show ((ns.map _).map _).Nodup
     rw [List.map_map]; show (ns.map fun n => n).Nodup
     rw [List.map_id']; exact hnd
   show ((ns.map _).filterMap _).Nodup
   rw [List.filterMap_map]; have : (ns.filterMap ((fun (e : VE) => e.cel) ∘ fun n => (⟨n, none, binds.reverse.lookup n⟩ : VE))) = [] := by
     rw [List.filterMap_eq_nil_iff]; intro a _; rfl
   rw [this]; exact .nil
 · subst hρ; intro e he a ha; obtain ⟨n, hn, rfl⟩ := mMa he; cases ha
 · intro a ha; rcases mSg ha with rfl
   refine x32 hns₁ fun o kq kq ho' kq => ?_; exact ⟨o, ho'⟩
 · intro p hp; refine x12 (l.ok p hp) fun o ho' q => ?_; exact ⟨o, hk₁ _ _ ho', q⟩
 · rw [List.nodup_append]; refine ⟨List.nodup_cons.mpr ⟨by simp, .nil⟩, l.nodup, fun x hx y hy e => ?_⟩; subst e; rcases mSg hx with rfl
   refine x12 (mMa hy) fun p hp e => ?_; refine x12 (l.ok p hp) fun o ho' kq => ?_; rw [e, L_fresh] at ho'; cases ho'
 intro a ha; rcases mAp ha with ha | ha
 · rcases mSg ha with rfl
   refine ⟨?_, ?_⟩
   · cases e : m s.heap.objs.size with
     | none => rfl
     | some o => have := b.ok _ _ e; rw [L_fresh] at this; cases this
   show (Mp.of s.heap (nw.map (·.1))) s.heap.objs.size = none
   cases e : (Mp.of s.heap (nw.map (·.1))) s.heap.objs.size with
   | none => rfl
   | some o => have := old_get _ _ e; rw [L_fresh] at this; cases this
 obtain ⟨p, hp, rfl⟩ := mMa ha; exact ⟨l.out p hp, Mp.of_none (List.mem_map_of_mem hp)⟩
theorem dK {d u : Nat} {f : Addr} {vals : List Value} {kw : List (Str × Value)} {oc : Value} {od : Option Addr} {osl : Array (Option Value)} {fd : FuncData} {body : List Stmt} {binds : List (Str × Value)} {ns : List Str} {ρ₀ : List VE}
   (R : Rm A (d + 1) (u + 3)) (b : Bef w m s) (l : LedOk m s nw)
   (ho : (KH w.params).lookup f = some ⟨oc, od, .func fd, osl⟩) (hcd : codeIn (KH w.params) fd.code fd.qualname = true) (hbody : fd.body = .stmts body)
   (hbind : bindArgs fd ⟨vals, kw⟩ = pure binds) (hcl : fd.closure = []) (hgl : fd.globals = mainGlobals) (hbl : fd.builtins = builtinsNs) (hco : fd.scope.isCoroutine = false) (hgen : fd.scope.isGenerator = false) (hk : fd.scope.kind = .function)
   (hcell : (fd.scope.names.all fun x => x.2 != .cell) = true) (hloc : (binds.all fun x => fd.scope.names.lookup x.1 == some .local) = true) (hns : (ns.all fun n => fd.scope.names.lookup n == some .local) = true) (hnd : ns.Nodup)
   (hρ : initV ns binds = ρ₀)
   (h : ∀ (A' : Around) (env : Env) (L : Addr) (c : Cx) (s' : Shared), EnvOf env fd.scope L [] → Rm A' d u → c = ⟨Mp.of s.heap (nw.map (·.1)), [], m, s.gens, s.os⟩ → Bd w c s.gens m env [L] ρ₀ nw s' → (∀ a o, s.heap.get? a = some o → a < L) →
     wpAny (model PG w) A' (execs body env) (fun fl s' => Q (match fl with | .ret v => v | _ => .none) s') (fun kq kq => False) s') :
   wpAny (model PG w) A (call (.ref f) vals kw) Q E s := by
 refine enterF R b l ho hcd hbody hbind hcl hgl hbl hco hgen hk hcell hloc hns hnd hρ fun A' env L c s' kq kq h1 h2 h3 h4 h5 => an (h A' env L c s' h1 h2 h3 h4 h5) (fun kq kq q => q) fun kq kq x => x.elim
theorem Bd.done {c : Cx} {γ : Array GenState} {m' : Mp} {env : Env} {own : List Addr} {ρ : List VE} {nw' : Led} {s' : Shared} (hc : c = ⟨Mp.of s.heap (nw.map (·.1)), [], m, s.gens, s.os⟩) (l : LedOk m s nw)
   (B : Bd w c γ m' env own ρ nw' s') (hkeys : ∀ p ∈ nw, p.1 ∈ nw'.map (·.1)) : Aft (nw.map (·.1)) m s m' s' := by
 subst hc; refine ⟨B.ble, B.ok, fun a o e ha => B.old a o (Mp.get_of e ha), fun a o e => ?_, B.os, fun i x e => ?_, ?_⟩
 · by_cases ha : a ∈ nw.map (·.1)
   · obtain ⟨p, hp, rfl⟩ := mMa ha; rw [(B.out _ (List.mem_append.mpr (.inr (hkeys p hp)))).1, l.out p hp]
   exact B.low a o (Mp.get_of e ha)
 · rw [B.gens]; exact B.gpre i x e
 rw [B.gens]; exact B.bare
theorem av {l : List Addr} : ∀ p ∈ ([] : Led), p.1 ∈ l := fun kq h => nomatch h
end
end
section
section
variable {w : World} {c : Cx} {γ : Array GenState} {m : Mp} {env : Env} {own : List Addr} {ρ ρ' : List VE} {nw nw' : Led} {s : Shared}
variable {A : Around} {E : VP}
theorem i_add {a b : Int} {t u : Tok} {Q : VP} (B : Bd w c γ m env own ρ nw s) (h : ∀ t s', Bd w c γ m env own ρ nw s' → Q (.int (a + b) t) s') :
   wpAny (model PG w) A (binaryOp .Add (.int a t) (.int b u)) Q E s := by with_reducible exact PyProof.Rows.add_int  (h _ _ (B.tk _ _))
theorem i_sub {a b : Int} {t u : Tok} {Q : VP} (B : Bd w c γ m env own ρ nw s) (h : ∀ t s', Bd w c γ m env own ρ nw s' → Q (.int (a - b) t) s') :
   wpAny (model PG w) A (binaryOp .Sub (.int a t) (.int b u)) Q E s := by with_reducible exact PyProof.Rows.sub_int  (h _ _ (B.tk _ _))
theorem i_mod {a b : Int} {t u : Tok} {Q : VP} (B : Bd w c γ m env own ρ nw s) (hb : b ≠ 0) (h : ∀ t s', Bd w c γ m env own ρ nw s' → Q (.int (a.fmod b) t) s') :
   wpAny (model PG w) A (binaryOp .Mod (.int a t) (.int b u)) Q E s := by with_reducible exact PyProof.Rows.mod_int' hb (h _ _ (B.tk _ _))
theorem i_and {a b : Int} {t u : Tok} {Q : VP} (B : Bd w c γ m env own ρ nw s) (h : ∀ t s', Bd w c γ m env own ρ nw s' → Q (.int (Builtin.bitAnd a b) t) s') :
   wpAny (model PG w) A (binaryOp .BitAnd (.int a t) (.int b u)) Q E s := by with_reducible exact PyProof.Rows.and_int  (h _ _ (B.tk _ _))
theorem i_or {a b : Int} {t u : Tok} {Q : VP} (B : Bd w c γ m env own ρ nw s) (h : ∀ t s', Bd w c γ m env own ρ nw s' → Q (.int (Builtin.bitOr a b) t) s') :
   wpAny (model PG w) A (binaryOp .BitOr (.int a t) (.int b u)) Q E s := by with_reducible exact PyProof.Rows.or_int  (h _ _ (B.tk _ _))
theorem i_xor {a b : Int} {t u : Tok} {Q : VP} (B : Bd w c γ m env own ρ nw s) (h : ∀ t s', Bd w c γ m env own ρ nw s' → Q (.int (Builtin.bitXor a b) t) s') :
   wpAny (model PG w) A (binaryOp .BitXor (.int a t) (.int b u)) Q E s := by with_reducible exact PyProof.Rows.xor_int  (h _ _ (B.tk _ _))
theorem i_shl {a b : Int} {t u : Tok} {Q : VP} (B : Bd w c γ m env own ρ nw s) (h0 : 0 ≤ b) (h1 : b ≤ 1000000) (h2 : a.natAbs < 2 ^ 64) (h : ∀ t s', Bd w c γ m env own ρ nw s' → Q (.int (a * 2 ^ b.toNat) t) s') :
   wpAny (model PG w) A (binaryOp .LShift (.int a t) (.int b u)) Q E s := by with_reducible exact PyProof.Rows.lshift_int_small h0 h1 h2 (h _ _ (B.tk _ _))
theorem i_shr {a b : Int} {t u : Tok} {Q : VP} (B : Bd w c γ m env own ρ nw s) (h0 : 0 ≤ b) (h : ∀ t s', Bd w c γ m env own ρ nw s' → Q (.int (a.fdiv (2 ^ b.toNat)) t) s') :
   wpAny (model PG w) A (binaryOp .RShift (.int a t) (.int b u)) Q E s := by with_reducible exact PyProof.Rows.rshift_int h0 (h _ _ (B.tk _ _))
theorem i_pow {a b : Int} {t u : Tok} {Q : VP} (B : Bd w c γ m env own ρ nw s) (h0 : 0 ≤ b) (h1 : b ≤ 1000000) (h2 : a.natAbs < 2 ^ 64) (h : ∀ t s', Bd w c γ m env own ρ nw s' → Q (.int (a ^ b.toNat) t) s') :
   wpAny (model PG w) A (binaryOp .Pow (.int a t) (.int b u)) Q E s := by with_reducible exact PyProof.Rows.pow_int_small h0 h1 h2 (h _ _ (B.tk _ _))
theorem i_iadd {a b : Int} {t u : Tok} {Q : VP} (B : Bd w c γ m env own ρ nw s) (h : ∀ t s', Bd w c γ m env own ρ nw s' → Q (.int (a + b) t) s') :
   wpAny (model PG w) A (inplaceOp .Add (.int a t) (.int b u)) Q E s := by with_reducible exact PyProof.Rows.iadd_int  (h _ _ (B.tk _ _))
theorem i_isub {a b : Int} {t u : Tok} {Q : VP} (B : Bd w c γ m env own ρ nw s) (h : ∀ t s', Bd w c γ m env own ρ nw s' → Q (.int (a - b) t) s') :
   wpAny (model PG w) A (inplaceOp .Sub (.int a t) (.int b u)) Q E s := by with_reducible exact PyProof.Rows.isub_int  (h _ _ (B.tk _ _))
theorem i_ixor {a b : Int} {t u : Tok} {Q : VP} (B : Bd w c γ m env own ρ nw s) (h : ∀ t s', Bd w c γ m env own ρ nw s' → Q (.int (Builtin.bitXor a b) t) s') :
   wpAny (model PG w) A (inplaceOp .BitXor (.int a t) (.int b u)) Q E s := by with_reducible exact PyProof.Rows.ixor_int  (h _ _ (B.tk _ _))
theorem i_ior {a b : Int} {t u : Tok} {Q : VP} (B : Bd w c γ m env own ρ nw s) (h : ∀ t s', Bd w c γ m env own ρ nw s' → Q (.int (Builtin.bitOr a b) t) s') :
   wpAny (model PG w) A (inplaceOp .BitOr (.int a t) (.int b u)) Q E s := by with_reducible exact PyProof.Rows.ior_int  (h _ _ (B.tk _ _))
theorem i_mul {a b : Int} {t u : Tok} {Q : VP} (B : Bd w c γ m env own ρ nw s) (hm : IntMulOk a b) (h : ∀ t s', Bd w c γ m env own ρ nw s' → Q (.int (a * b) t) s') :
   wpAny (model PG w) A (binaryOp .Mult (.int a t) (.int b u)) Q E s := by with_reducible exact PyProof.Rows.mul_int (h _ _ (B.tk _ _)) hm
theorem i_div {a b : Int} {t u : Tok} {Q : VP} (B : Bd w c γ m env own ρ nw s) (hb : b ≠ 0) (hp : Builtin.divisionGoesByPylong a b = false) (h : ∀ t s', Bd w c γ m env own ρ nw s' → Q (.int (a.fdiv b) t) s') :
   wpAny (model PG w) A (binaryOp .FloorDiv (.int a t) (.int b u)) Q E s := by with_reducible exact PyProof.Rows.floordiv_int hb (h _ _ (B.tk _ _)) (.inl hp)
theorem i_ishl {a b : Int} {t u : Tok} {Q : VP} (B : Bd w c γ m env own ρ nw s) (h0 : 0 ≤ b) (h1 : b ≤ 1000000) (h2 : a.natAbs < 2 ^ 64) (h : ∀ t s', Bd w c γ m env own ρ nw s' → Q (.int (a * 2 ^ b.toNat) t) s') :
   wpAny (model PG w) A (inplaceOp .LShift (.int a t) (.int b u)) Q E s := by with_reducible exact PyProof.Rows.ilshift_int_small h0 h1 h2 (h _ _ (B.tk _ _))
theorem k_int {i : Int} {k : Nat} {pos : Pos} {Q : VP} (B : Bd w c γ m env own ρ nw s) (h : ∀ t s', Bd w c γ m env own ρ nw s' → Q (.int i t) s') :
   wpAny (model PG w) A (eval (.Constant (.int i) k pos) env) Q E s := by with_reducible exact wpAny_Constant_int (h _ _ (B.tk _ _))
theorem k_str {x : Str} {k : Nat} {pos : Pos} {Q : VP} (B : Bd w c γ m env own ρ nw s) (h : ∀ t s', Bd w c γ m env own ρ nw s' → Q (.str x t) s') :
   wpAny (model PG w) A (eval (.Constant (.str x) k pos) env) Q E s := by with_reducible exact Calls.Constant_str (h _ _ (B.tk _ _))
theorem cG {x y : Str} {t u : Tok} {Q : VP} (B : Bd w c γ m env own ρ nw s) (hz : x.length + y.length ≤ sizeLine) (h : ∀ t s', Bd w c γ m env own ρ nw s' → Q (.str (x ++ y) t) s') :
   wpAny (model PG w) A (binaryOp .Add (.str x t) (.str y u)) Q E s := by with_reducible exact PyProof.Rows.add_str (fun t' k => h _ _ (B.tk _ _)) hz
theorem ar {h : Heap} (o : Obj) : ∀ a ob, h.get? a = some ob → (h.push o).get? a = some ob := fun kq kq e => Heap.get?_push_of_some o e
theorem Bd.pushK {o : Obj} {d : Drawn} {t : Nat} (B : Bd w c γ m env own ρ nw s) (hf : o.isFreed = false) : Bd w c γ (m.put s.heap.objs.size o) env own ρ nw ⟨s.heap.push o, s.gens, d, t, s.os⟩ := by
 refine x03 B.fresh fun h1 h2 h3 => ?_; exact (B.grow (h' := s.heap.push o) (d := d) (t := t) (ar o)).addK (Heap.get?_push_size _ hf) h1 h2 h3
theorem Bd.pushL {o : Obj} {P : Obj → Prop} {d : Drawn} {t : Nat} (B : Bd w c γ m env own ρ nw s) (hf : o.isFreed = false) (hP : P o) : Bd w c γ m env own ρ ((s.heap.objs.size, P) :: nw) ⟨s.heap.push o, s.gens, d, t, s.os⟩ := by
 refine x03 B.fresh fun h1 h2 h3 => ?_; exact (B.grow (h' := s.heap.push o) (d := d) (t := t) (ar o)).addL (Heap.get?_push_size _ hf) hP h1 h2 h3
theorem Bd.freshLe (B : Bd w c γ m env own ρ nw s) (o : Obj) : m.le (m.put s.heap.objs.size o) := Mp.le_put B.fresh.1
noncomputable def au (vs : List Value) (o : Obj) : Prop := ∃ n, o = { cls := .type "list", data := .seq vs.toArray n }
noncomputable def ki (vs : List Value) (o : Obj) : Prop := o.cls = .type "tuple" ∧ ∃ n, o.data = .seq vs.toArray n
noncomputable def At (a : Addr) (P : Obj → Prop) (h : Heap) : Prop := ∃ o, h.get? a = some o ∧ P o
theorem At.list {a : Addr} {vs : List Value} {h : Heap} (x : At a (au vs) h) : h.IsList a vs.toArray := by obtain ⟨o, ho, n, e⟩ := x; exact ⟨o, ho, e ▸ rfl, n, e ▸ rfl⟩
theorem At.plain {a : Addr} {vs : List Value} {h : Heap} (x : At a (au vs) h) : ∃ n, h.get? a = some { cls := .type "list", data := .seq vs.toArray n } := by obtain ⟨o, ho, n, e⟩ := x; exact ⟨n, e ▸ ho⟩
theorem At.tup {a : Addr} {vs : List Value} {h : Heap} (x : At a (ki vs) h) : h.IsTuple a vs.toArray := by obtain ⟨o, ho, hc, n, hd⟩ := x; exact ⟨o, ho, hc, n, hd⟩
theorem Bd.at {a : Addr} {P : Obj → Prop} (B : Bd w c γ m env own ρ nw s) (h : (a, P) ∈ nw) : At a P s.heap := B.ledok _ h
theorem Bd.kn {P : Heap → Prop} (B : Bd w c γ m env own ρ nw s) (k : Kn m P) : P s.heap := k _ B.ok
theorem n_list {vs : List Value} {Q : VP} (B : Bd w c γ m env own ρ nw s) (hz : vs.length ≤ sizeLine)
   (h : ∀ a m' s', m.le m' → Kn m' (At a (au vs)) → Bd w c γ m' env own ρ nw s' → Q (.ref a) s') : wpAny (model PG w) A (newList vs) Q E s :=
 wpAny_newList (h _ _ _ (B.freshLe _) (fun kq ok => ⟨_, ok _ _ Mp.put_self, _, rfl⟩) (B.pushK rfl)) hz
theorem n_listL {vs : List Value} {Q : VP} (B : Bd w c γ m env own ρ nw s) (hz : vs.length ≤ sizeLine)
   (h : ∀ a s', Bd w c γ m env own ρ ((a, au vs) :: nw) s' → Q (.ref a) s') : wpAny (model PG w) A (newList vs) Q E s :=
 wpAny_newList (h _ _ (B.pushL rfl ⟨_, rfl⟩)) hz
theorem n_tuple {vs : List Value} {Q : VP} (B : Bd w c γ m env own ρ nw s) (hz : vs.length ≤ sizeLine)
   (h : ∀ a m' s', m.le m' → Kn m' (At a (ki vs)) → Bd w c γ m' env own ρ nw s' → Q (.ref a) s') : wpAny (model PG w) A (newTuple vs) Q E s :=
 wpAny_newTuple (h _ _ _ (B.freshLe _) (fun kq ok => ⟨_, ok _ _ Mp.put_self, rfl, _, rfl⟩) (B.pushK rfl)) hz
theorem c8 {l r : Addr} {vs ws : List Value} {Q : VP} (B : Bd w c γ m env own ρ nw s) (hl : At l (au vs) s.heap) (hr : At r (au ws) s.heap) (hz : vs.length + ws.length ≤ sizeLine)
   (h : ∀ a m' s', m.le m' → Kn m' (At a (au (vs ++ ws))) → Bd w c γ m' env own ρ nw s' → Q (.ref a) s') : wpAny (model PG w) A (binaryOp .Add (.ref l) (.ref r)) Q E s := by
 obtain ⟨n, ho⟩ := hl.plain; obtain ⟨n2, ho2⟩ := hr.plain; have e : vs.toArray ++ ws.toArray = (vs ++ ws).toArray := by simp
 refine concat_meets ⟨_, ho, rfl⟩ ⟨_, ho2, rfl⟩ noFill_list_add seq_list_add PySem.F.slot_list_add PySem.F.entry_list_add (PySem.F.args_list_add_2 _ _) (list_addW l r vs.toArray ws.toArray n n2 none none #[] #[] (by simpa using hz)) ⟨ho, ho2, ?_⟩; rw [e]; exact h _ _ _ (B.freshLe _) (fun kq ok => ⟨_, ok _ _ Mp.put_self, _, rfl⟩) (B.pushK rfl)
theorem bH {l : Addr} {vs : List Value} {x : Value} {Q : VP} (B : Bd w c γ m env own ρ nw s) (u : Upd l (au vs) (au (vs ++ [x])) nw nw') (hz : vs.length ≤ sizeLine)
   (h : ∀ s', Bd w c γ m env own ρ nw' s' → Q .none s') : wpAny (model PG w) A (call (.builtin "list.append") [.ref l, x]) Q E s := by
 obtain ⟨n, ho⟩ := (B.at u.mem).plain; refine append_at ho (fun h' hs hl => h _ (B.turn u (fun b o hb e => hs.extBut b o hb e) ⟨_, hl, n + 1, by simp⟩)) (by simpa using hz)
end
end
section
section
variable {w : World} {c : Cx} {γ : Array GenState} {m : Mp} {env : Env} {own : List Addr} {ρ ρ' : List VE} {nw nw' : Led} {s : Shared}
variable {A : Around} {E : VP}
theorem callWith_f {f : Addr} {e : Expr} {rest : List Expr} {pos : Pos} {Q : VP} {oc : Value} {od : Option Addr} {osl : Array (Option Value)} {fd : FuncData}
   (ho : (KH w.params).lookup f = some ⟨oc, od, .func fd, osl⟩)
   (h : wpAny (model PG w) A (spliced (backTo pos (starEach (e :: rest) env))) (fun vs s₁ => Grd w s₁.heap ∧ wpAny (model PG w) A (call (.ref f) vs) Q E s₁) E s)
   (he : starEach (e :: rest) env = (false, eval e env) :: starEach rest env := by rfl) :
   wpAny (model PG w) A (callWith pos (.ref f) [] (backTo pos (starEach (e :: rest) env)) []) Q E s :=
 callWith_def (o := ⟨oc, od, .func fd, osl⟩) rfl (an h (fun vs s₁ q => ⟨q.1.k _ _ ho, q.2⟩) fun kq kq x => x) he
theorem bZ {b : Bool} {P R : Prop} (hb : b = true) (h : P) : if b = true then P else R := by rw [if_pos hb]; exact h
theorem aY {b : Bool} {P R : Prop} (hb : b = false) (h : R) : if b = true then P else R := by rw [if_neg (by rw [hb]; decide)]; exact h
theorem br {b : Bool} {P R : Prop} (h1 : b = true → P) (h2 : b = false → R) : if b = true then P else R := by
 cases b with
 | true => exact bZ rfl (h1 rfl)
 | false => exact aY rfl (h2 rfl)
end
section
variable {w : World} {c : Cx} {γ : Array GenState} {m : Mp} {env : Env} {own : List Addr} {ρ : List VE} {nw : Led} {s : Shared} {A : Around} {E : VP}
noncomputable abbrev okn (x : Str) : Prop := (x == ("__debug__" : Str)) = false ∧ (x == ("__classdict__" : Str)) = false
inductive EvI (ρ : List VE) : Expr → Int → Prop
 | name {x k a u p} (hm : (⟨x, k, some (.int a u)⟩ : VE) ∈ ρ) (hd : okn x) : EvI ρ (.Name x p) a
 | lit {a k p} : EvI ρ (.Constant (.int a) k p) a
 | add {l r p a b} (hl : EvI ρ l a) (hr : EvI ρ r b) : EvI ρ (.BinOp l .Add r p) (a + b)
 | sub {l r p a b} (hl : EvI ρ l a) (hr : EvI ρ r b) : EvI ρ (.BinOp l .Sub r p) (a - b)
inductive Ev (ρ : List VE) : Expr → (Tok → Value) → Prop
 | name {x k v p} (hm : (⟨x, k, some v⟩ : VE) ∈ ρ) (hd : okn x) : Ev ρ (.Name x p) (fun kq => v)
 | int {e a} (h : EvI ρ e a) : Ev ρ e (fun t => .int a t)
 | str {x k p} : Ev ρ (.Constant (.str x) k p) (fun t => .str x t)
 | bool {b k p} : Ev ρ (.Constant (.bool b) k p) (fun kq => .bool b)
 | none {k p} : Ev ρ (.Constant .none k p) (fun kq => .none)
theorem ev_i {e : Expr} {a : Int} (h : EvI ρ e a) : ∀ {s : Shared} {Q : VP}, Bd w c γ m env own ρ nw s → (∀ t s', Bd w c γ m env own ρ nw s' → Q (.int a t) s') → wpAny (model PG w) A (eval e env) Q E s := by
 induction h with
 | name hm hd => exact fun B k => r_var B hm hd.1 hd.2 (k _ _ B)
 | lit => exact fun B k => k_int B k
 | add _ _ i1 i2 => exact fun B k => wpAny_BinOp (i1 B fun t s' B' => i2 B' fun u s'' B'' => i_add B'' k)
 | sub _ _ i1 i2 => exact fun B k => wpAny_BinOp (i1 B fun t s' B' => i2 B' fun u s'' B'' => i_sub B'' k)
theorem ev {e : Expr} {f : Tok → Value} (h : Ev ρ e f) {Q : VP} (B : Bd w c γ m env own ρ nw s) (k : ∀ t s', Bd w c γ m env own ρ nw s' → Q (f t) s') : wpAny (model PG w) A (eval e env) Q E s := by
 cases h with
 | name hm hd => exact r_var B hm hd.1 hd.2 (k 0 _ B)
 | int h => exact ev_i h B k
 | str => exact k_str B k
 | bool => exact wpAny_Constant_bool (k 0 _ B)
 | none => exact wpAny_Constant_none (k 0 _ B)
theorem ev_star {e : Expr} {f : Tok → Value} (h : Ev ρ e f) (rest : List Expr) : starEach (e :: rest) env = (false, eval e env) :: starEach rest env := by
 cases h with
 | int h => cases h <;> rfl
 | _ => rfl
theorem co {e : Expr} {rest : List Expr} {pos : Pos} {f : Tok → Value} (h : Ev ρ e f) {Q : List Value → Shared → Prop} (B : Bd w c γ m env own ρ nw s)
   (k : ∀ t s', Bd w c γ m env own ρ nw s' → wpAny (model PG w) A (spliced (backTo pos (starEach rest env))) (fun vs s₂ => Q (f t :: vs) s₂) E s') : wpAny (model PG w) A (spliced (backTo pos (starEach (e :: rest) env))) Q E s :=
 spliced_more (ev h B k) (ev_star h rest)
section
variable {e1 e2 e3 e4 : Expr} {f1 f2 f3 f4 : Tok → Value} {pos : Pos} {Q : List Value → Shared → Prop}
theorem sp1 (B : Bd w c γ m env own ρ nw s) (h1 : Ev ρ e1 f1) (k : ∀ t1 s', Bd w c γ m env own ρ nw s' → Q [f1 t1] s') : wpAny (model PG w) A (spliced (backTo pos (starEach [e1] env))) Q E s :=
 co h1 B fun t1 kq B => spliced_none (k t1 _ B)
theorem sp2 (B : Bd w c γ m env own ρ nw s) (h1 : Ev ρ e1 f1) (h2 : Ev ρ e2 f2) (k : ∀ t1 t2 s', Bd w c γ m env own ρ nw s' → Q [f1 t1, f2 t2] s') : wpAny (model PG w) A (spliced (backTo pos (starEach [e1, e2] env))) Q E s :=
 co h1 B fun t1 kq B => co h2 B fun t2 kq B => spliced_none (k t1 t2 _ B)
theorem sp3 (B : Bd w c γ m env own ρ nw s) (h1 : Ev ρ e1 f1) (h2 : Ev ρ e2 f2) (h3 : Ev ρ e3 f3) (k : ∀ t1 t2 t3 s', Bd w c γ m env own ρ nw s' → Q [f1 t1, f2 t2, f3 t3] s') : wpAny (model PG w) A (spliced (backTo pos (starEach [e1, e2, e3] env))) Q E s :=
 co h1 B fun t1 kq B => co h2 B fun t2 kq B => co h3 B fun t3 kq B => spliced_none (k t1 t2 t3 _ B)
theorem sp4 (B : Bd w c γ m env own ρ nw s) (h1 : Ev ρ e1 f1) (h2 : Ev ρ e2 f2) (h3 : Ev ρ e3 f3) (h4 : Ev ρ e4 f4) (k : ∀ t1 t2 t3 t4 s', Bd w c γ m env own ρ nw s' → Q [f1 t1, f2 t2, f3 t3, f4 t4] s') : wpAny (model PG w) A (spliced (backTo pos (starEach [e1, e2, e3, e4] env))) Q E s :=
 co h1 B fun t1 kq B => co h2 B fun t2 kq B => co h3 B fun t3 kq B => co h4 B fun t4 kq B => spliced_none (k t1 t2 t3 t4 _ B)
variable {x1 x2 x3 : Str} {k1 k2 k3 : Option Addr} {v1 v2 v3 : Value} {p1 p2 p3 : Pos}
theorem na1 (B : Bd w c γ m env own ρ nw s) (h1 : (⟨x1, k1, some v1⟩ : VE) ∈ ρ) (d1 : okn x1) (k : Q [v1] s) : wpAny (model PG w) A (spliced (backTo pos (starEach [.Name x1 p1] env))) Q E s :=
 spliced_more (r_var B h1 d1.1 d1.2 (spliced_none k)) rfl
theorem na2 (B : Bd w c γ m env own ρ nw s) (h1 : (⟨x1, k1, some v1⟩ : VE) ∈ ρ) (h2 : (⟨x2, k2, some v2⟩ : VE) ∈ ρ) (d1 : okn x1) (d2 : okn x2) (k : Q [v1, v2] s) : wpAny (model PG w) A (spliced (backTo pos (starEach [.Name x1 p1, .Name x2 p2] env))) Q E s :=
 spliced_more (r_var B h1 d1.1 d1.2 (spliced_more (r_var B h2 d2.1 d2.2 (spliced_none k)) rfl)) rfl
theorem na3 (B : Bd w c γ m env own ρ nw s) (h1 : (⟨x1, k1, some v1⟩ : VE) ∈ ρ) (h2 : (⟨x2, k2, some v2⟩ : VE) ∈ ρ) (h3 : (⟨x3, k3, some v3⟩ : VE) ∈ ρ) (d1 : okn x1) (d2 : okn x2) (d3 : okn x3) (k : Q [v1, v2, v3] s) : wpAny (model PG w) A (spliced (backTo pos (starEach [.Name x1 p1, .Name x2 p2, .Name x3 p3] env))) Q E s :=
 spliced_more (r_var B h1 d1.1 d1.2 (spliced_more (r_var B h2 d2.1 d2.2 (spliced_more (r_var B h3 d3.1 d3.2 (spliced_none k)) rfl)) rfl)) rfl
end
section
variable {l r : Expr} {f g : Tok → Value} {pos : Pos}
theorem ev_cmp {op : CmpOp} {Q : VP} (B : Bd w c γ m env own ρ nw s) (h1 : Ev ρ l f) (h2 : Ev ρ r g) (hb : behindInMarks op r = false) (k : ∀ t u s', Bd w c γ m env own ρ nw s' → wpAny (model PG w) A (compareOp op (f t) (g u)) Q E s') :
   wpAny (model PG w) A (eval (.Compare l [op] [r] pos) env) Q E s := wpAny_Compare1 (ev h1 B fun t kq B => ev h2 B fun u kq B => k t u _ B) hb
theorem ev_test {op : CmpOp} {whole : Sem Value} {Q : Bool → Shared → Prop} (B : Bd w c γ m env own ρ nw s) (h1 : Ev ρ l f) (h2 : Ev ρ r g) (hb : behindInMarks op r = false) (k : ∀ t u s', Bd w c γ m env own ρ nw s' → wpAny (model PG w) A (compareOp op (f t) (g u)) (fun v s₃ => wpAny (model PG w) A (truthy v) Q E s₃) E s') :
   wpAny (model PG w) A (PySem.isTrue (.Compare l [op] [r] pos) env whole) Q E s := wpAny_isTrue_Compare1 (ev h1 B fun t kq B => ev h2 B fun u kq B => k t u _ B) hb
theorem ev_bin {op : Operator} {Q : VP} (B : Bd w c γ m env own ρ nw s) (h1 : Ev ρ l f) (h2 : Ev ρ r g) (k : ∀ t u s', Bd w c γ m env own ρ nw s' → wpAny (model PG w) A (binaryOp op (f t) (g u)) Q E s') :
   wpAny (model PG w) A (eval (.BinOp l op r pos) env) Q E s := wpAny_BinOp (ev h1 B fun t kq B => ev h2 B fun u kq B => k t u _ B)
theorem ev_sub {Q : VP} (B : Bd w c γ m env own ρ nw s) (h1 : Ev ρ l f) (h2 : Ev ρ r g) (k : ∀ t u s', Bd w c γ m env own ρ nw s' → wpAny (model PG w) A (subscriptTail l r (f t) (g u)) Q E s') :
   wpAny (model PG w) A (eval (.Subscript l r pos) env) Q E s := Subscript_ (ev h1 B fun t kq B => ev h2 B fun u kq B => k t u _ B)
end
end
theorem mem0 {α : Type} {x : α} {l : List α} : x ∈ x :: l := .head _
theorem mem1 {α : Type} {a0 x : α} {l : List α} : x ∈ a0 :: x :: l := .tail _ (.head _)
theorem mem2 {α : Type} {a0 a1 x : α} {l : List α} : x ∈ a0 :: a1 :: x :: l := .tail _ (.tail _ (.head _))
theorem mem3 {α : Type} {a0 a1 a2 x : α} {l : List α} : x ∈ a0 :: a1 :: a2 :: x :: l := .tail _ (.tail _ (.tail _ (.head _)))
theorem mem4 {α : Type} {a0 a1 a2 a3 x : α} {l : List α} : x ∈ a0 :: a1 :: a2 :: a3 :: x :: l := .tail _ (.tail _ (.tail _ (.tail _ (.head _))))
theorem mem5 {α : Type} {a0 a1 a2 a3 a4 x : α} {l : List α} : x ∈ a0 :: a1 :: a2 :: a3 :: a4 :: x :: l := .tail _ (.tail _ (.tail _ (.tail _ (.tail _ (.head _)))))
theorem mem6 {α : Type} {a0 a1 a2 a3 a4 a5 x : α} {l : List α} : x ∈ a0 :: a1 :: a2 :: a3 :: a4 :: a5 :: x :: l := .tail _ (.tail _ (.tail _ (.tail _ (.tail _ (.tail _ (.head _))))))
theorem mem7 {α : Type} {a0 a1 a2 a3 a4 a5 a6 x : α} {l : List α} : x ∈ a0 :: a1 :: a2 :: a3 :: a4 :: a5 :: a6 :: x :: l := .tail _ (.tail _ (.tail _ (.tail _ (.tail _ (.tail _ (.tail _ (.head _)))))))
theorem mem8 {α : Type} {a0 a1 a2 a3 a4 a5 a6 a7 x : α} {l : List α} : x ∈ a0 :: a1 :: a2 :: a3 :: a4 :: a5 :: a6 :: a7 :: x :: l := .tail _ (.tail _ (.tail _ (.tail _ (.tail _ (.tail _ (.tail _ (.tail _ (.head _))))))))
theorem mem9 {α : Type} {a0 a1 a2 a3 a4 a5 a6 a7 a8 x : α} {l : List α} : x ∈ a0 :: a1 :: a2 :: a3 :: a4 :: a5 :: a6 :: a7 :: a8 :: x :: l := .tail _ (.tail _ (.tail _ (.tail _ (.tail _ (.tail _ (.tail _ (.tail _ (.tail _ (.head _)))))))))
theorem mem10 {α : Type} {a0 a1 a2 a3 a4 a5 a6 a7 a8 a9 x : α} {l : List α} : x ∈ a0 :: a1 :: a2 :: a3 :: a4 :: a5 :: a6 :: a7 :: a8 :: a9 :: x :: l := .tail _ (.tail _ (.tail _ (.tail _ (.tail _ (.tail _ (.tail _ (.tail _ (.tail _ (.tail _ (.head _))))))))))
theorem mem11 {α : Type} {a0 a1 a2 a3 a4 a5 a6 a7 a8 a9 a10 x : α} {l : List α} : x ∈ a0 :: a1 :: a2 :: a3 :: a4 :: a5 :: a6 :: a7 :: a8 :: a9 :: a10 :: x :: l := .tail _ (.tail _ (.tail _ (.tail _ (.tail _ (.tail _ (.tail _ (.tail _ (.tail _ (.tail _ (.tail _ (.head _)))))))))))
theorem mem12 {α : Type} {a0 a1 a2 a3 a4 a5 a6 a7 a8 a9 a10 a11 x : α} {l : List α} : x ∈ a0 :: a1 :: a2 :: a3 :: a4 :: a5 :: a6 :: a7 :: a8 :: a9 :: a10 :: a11 :: x :: l := .tail _ (.tail _ (.tail _ (.tail _ (.tail _ (.tail _ (.tail _ (.tail _ (.tail _ (.tail _ (.tail _ (.tail _ (.head _))))))))))))
theorem mem13 {α : Type} {a0 a1 a2 a3 a4 a5 a6 a7 a8 a9 a10 a11 a12 x : α} {l : List α} : x ∈ a0 :: a1 :: a2 :: a3 :: a4 :: a5 :: a6 :: a7 :: a8 :: a9 :: a10 :: a11 :: a12 :: x :: l := .tail _ (.tail _ (.tail _ (.tail _ (.tail _ (.tail _ (.tail _ (.tail _ (.tail _ (.tail _ (.tail _ (.tail _ (.tail _ (.head _)))))))))))))
theorem mem14 {α : Type} {a0 a1 a2 a3 a4 a5 a6 a7 a8 a9 a10 a11 a12 a13 x : α} {l : List α} : x ∈ a0 :: a1 :: a2 :: a3 :: a4 :: a5 :: a6 :: a7 :: a8 :: a9 :: a10 :: a11 :: a12 :: a13 :: x :: l := .tail _ (.tail _ (.tail _ (.tail _ (.tail _ (.tail _ (.tail _ (.tail _ (.tail _ (.tail _ (.tail _ (.tail _ (.tail _ (.tail _ (.head _))))))))))))))
theorem mem15 {α : Type} {a0 a1 a2 a3 a4 a5 a6 a7 a8 a9 a10 a11 a12 a13 a14 x : α} {l : List α} : x ∈ a0 :: a1 :: a2 :: a3 :: a4 :: a5 :: a6 :: a7 :: a8 :: a9 :: a10 :: a11 :: a12 :: a13 :: a14 :: x :: l := .tail _ (.tail _ (.tail _ (.tail _ (.tail _ (.tail _ (.tail _ (.tail _ (.tail _ (.tail _ (.tail _ (.tail _ (.tail _ (.tail _ (.tail _ (.head _)))))))))))))))
theorem mem16 {α : Type} {a0 a1 a2 a3 a4 a5 a6 a7 a8 a9 a10 a11 a12 a13 a14 a15 x : α} {l : List α} : x ∈ a0 :: a1 :: a2 :: a3 :: a4 :: a5 :: a6 :: a7 :: a8 :: a9 :: a10 :: a11 :: a12 :: a13 :: a14 :: a15 :: x :: l := .tail _ (.tail _ (.tail _ (.tail _ (.tail _ (.tail _ (.tail _ (.tail _ (.tail _ (.tail _ (.tail _ (.tail _ (.tail _ (.tail _ (.tail _ (.tail _ (.head _))))))))))))))))
theorem mem17 {α : Type} {a0 a1 a2 a3 a4 a5 a6 a7 a8 a9 a10 a11 a12 a13 a14 a15 a16 x : α} {l : List α} : x ∈ a0 :: a1 :: a2 :: a3 :: a4 :: a5 :: a6 :: a7 :: a8 :: a9 :: a10 :: a11 :: a12 :: a13 :: a14 :: a15 :: a16 :: x :: l := .tail _ (.tail _ (.tail _ (.tail _ (.tail _ (.tail _ (.tail _ (.tail _ (.tail _ (.tail _ (.tail _ (.tail _ (.tail _ (.tail _ (.tail _ (.tail _ (.tail _ (.head _)))))))))))))))))
theorem mem18 {α : Type} {a0 a1 a2 a3 a4 a5 a6 a7 a8 a9 a10 a11 a12 a13 a14 a15 a16 a17 x : α} {l : List α} : x ∈ a0 :: a1 :: a2 :: a3 :: a4 :: a5 :: a6 :: a7 :: a8 :: a9 :: a10 :: a11 :: a12 :: a13 :: a14 :: a15 :: a16 :: a17 :: x :: l := .tail _ (.tail _ (.tail _ (.tail _ (.tail _ (.tail _ (.tail _ (.tail _ (.tail _ (.tail _ (.tail _ (.tail _ (.tail _ (.tail _ (.tail _ (.tail _ (.tail _ (.tail _ (.head _))))))))))))))))))
theorem mem19 {α : Type} {a0 a1 a2 a3 a4 a5 a6 a7 a8 a9 a10 a11 a12 a13 a14 a15 a16 a17 a18 x : α} {l : List α} : x ∈ a0 :: a1 :: a2 :: a3 :: a4 :: a5 :: a6 :: a7 :: a8 :: a9 :: a10 :: a11 :: a12 :: a13 :: a14 :: a15 :: a16 :: a17 :: a18 :: x :: l := .tail _ (.tail _ (.tail _ (.tail _ (.tail _ (.tail _ (.tail _ (.tail _ (.tail _ (.tail _ (.tail _ (.tail _ (.tail _ (.tail _ (.tail _ (.tail _ (.tail _ (.tail _ (.tail _ (.head _)))))))))))))))))))
theorem mem20 {α : Type} {a0 a1 a2 a3 a4 a5 a6 a7 a8 a9 a10 a11 a12 a13 a14 a15 a16 a17 a18 a19 x : α} {l : List α} : x ∈ a0 :: a1 :: a2 :: a3 :: a4 :: a5 :: a6 :: a7 :: a8 :: a9 :: a10 :: a11 :: a12 :: a13 :: a14 :: a15 :: a16 :: a17 :: a18 :: a19 :: x :: l := .tail _ (.tail _ (.tail _ (.tail _ (.tail _ (.tail _ (.tail _ (.tail _ (.tail _ (.tail _ (.tail _ (.tail _ (.tail _ (.tail _ (.tail _ (.tail _ (.tail _ (.tail _ (.tail _ (.tail _ (.head _))))))))))))))))))))
theorem mem21 {α : Type} {a0 a1 a2 a3 a4 a5 a6 a7 a8 a9 a10 a11 a12 a13 a14 a15 a16 a17 a18 a19 a20 x : α} {l : List α} : x ∈ a0 :: a1 :: a2 :: a3 :: a4 :: a5 :: a6 :: a7 :: a8 :: a9 :: a10 :: a11 :: a12 :: a13 :: a14 :: a15 :: a16 :: a17 :: a18 :: a19 :: a20 :: x :: l := .tail _ (.tail _ (.tail _ (.tail _ (.tail _ (.tail _ (.tail _ (.tail _ (.tail _ (.tail _ (.tail _ (.tail _ (.tail _ (.tail _ (.tail _ (.tail _ (.tail _ (.tail _ (.tail _ (.tail _ (.tail _ (.head _)))))))))))))))))))))
theorem mem22 {α : Type} {a0 a1 a2 a3 a4 a5 a6 a7 a8 a9 a10 a11 a12 a13 a14 a15 a16 a17 a18 a19 a20 a21 x : α} {l : List α} : x ∈ a0 :: a1 :: a2 :: a3 :: a4 :: a5 :: a6 :: a7 :: a8 :: a9 :: a10 :: a11 :: a12 :: a13 :: a14 :: a15 :: a16 :: a17 :: a18 :: a19 :: a20 :: a21 :: x :: l := .tail _ (.tail _ (.tail _ (.tail _ (.tail _ (.tail _ (.tail _ (.tail _ (.tail _ (.tail _ (.tail _ (.tail _ (.tail _ (.tail _ (.tail _ (.tail _ (.tail _ (.tail _ (.tail _ (.tail _ (.tail _ (.tail _ (.head _))))))))))))))))))))))
theorem mem23 {α : Type} {a0 a1 a2 a3 a4 a5 a6 a7 a8 a9 a10 a11 a12 a13 a14 a15 a16 a17 a18 a19 a20 a21 a22 x : α} {l : List α} : x ∈ a0 :: a1 :: a2 :: a3 :: a4 :: a5 :: a6 :: a7 :: a8 :: a9 :: a10 :: a11 :: a12 :: a13 :: a14 :: a15 :: a16 :: a17 :: a18 :: a19 :: a20 :: a21 :: a22 :: x :: l := .tail _ (.tail _ (.tail _ (.tail _ (.tail _ (.tail _ (.tail _ (.tail _ (.tail _ (.tail _ (.tail _ (.tail _ (.tail _ (.tail _ (.tail _ (.tail _ (.tail _ (.tail _ (.tail _ (.tail _ (.tail _ (.tail _ (.tail _ (.head _)))))))))))))))))))))))
theorem mem24 {α : Type} {a0 a1 a2 a3 a4 a5 a6 a7 a8 a9 a10 a11 a12 a13 a14 a15 a16 a17 a18 a19 a20 a21 a22 a23 x : α} {l : List α} : x ∈ a0 :: a1 :: a2 :: a3 :: a4 :: a5 :: a6 :: a7 :: a8 :: a9 :: a10 :: a11 :: a12 :: a13 :: a14 :: a15 :: a16 :: a17 :: a18 :: a19 :: a20 :: a21 :: a22 :: a23 :: x :: l := .tail _ (.tail _ (.tail _ (.tail _ (.tail _ (.tail _ (.tail _ (.tail _ (.tail _ (.tail _ (.tail _ (.tail _ (.tail _ (.tail _ (.tail _ (.tail _ (.tail _ (.tail _ (.tail _ (.tail _ (.tail _ (.tail _ (.tail _ (.tail _ (.head _))))))))))))))))))))))))
theorem put0 {x : Str} {k : Option Addr} {u : Option Value} {v : Value} {r : List VE} : PutV x k v (⟨x, k, u⟩ :: r) (⟨x, k, some v⟩ :: r) := .head
theorem put1 {x : Str} {k : Option Addr} {u : Option Value} {v : Value} {a0 : VE} {r : List VE} : PutV x k v (a0 :: ⟨x, k, u⟩ :: r) (a0 :: ⟨x, k, some v⟩ :: r) := .tail (.head)
theorem put2 {x : Str} {k : Option Addr} {u : Option Value} {v : Value} {a0 a1 : VE} {r : List VE} : PutV x k v (a0 :: a1 :: ⟨x, k, u⟩ :: r) (a0 :: a1 :: ⟨x, k, some v⟩ :: r) := .tail (.tail (.head))
theorem put3 {x : Str} {k : Option Addr} {u : Option Value} {v : Value} {a0 a1 a2 : VE} {r : List VE} : PutV x k v (a0 :: a1 :: a2 :: ⟨x, k, u⟩ :: r) (a0 :: a1 :: a2 :: ⟨x, k, some v⟩ :: r) := .tail (.tail (.tail (.head)))
theorem put4 {x : Str} {k : Option Addr} {u : Option Value} {v : Value} {a0 a1 a2 a3 : VE} {r : List VE} : PutV x k v (a0 :: a1 :: a2 :: a3 :: ⟨x, k, u⟩ :: r) (a0 :: a1 :: a2 :: a3 :: ⟨x, k, some v⟩ :: r) := .tail (.tail (.tail (.tail (.head))))
theorem put5 {x : Str} {k : Option Addr} {u : Option Value} {v : Value} {a0 a1 a2 a3 a4 : VE} {r : List VE} : PutV x k v (a0 :: a1 :: a2 :: a3 :: a4 :: ⟨x, k, u⟩ :: r) (a0 :: a1 :: a2 :: a3 :: a4 :: ⟨x, k, some v⟩ :: r) := .tail (.tail (.tail (.tail (.tail (.head)))))
theorem put6 {x : Str} {k : Option Addr} {u : Option Value} {v : Value} {a0 a1 a2 a3 a4 a5 : VE} {r : List VE} : PutV x k v (a0 :: a1 :: a2 :: a3 :: a4 :: a5 :: ⟨x, k, u⟩ :: r) (a0 :: a1 :: a2 :: a3 :: a4 :: a5 :: ⟨x, k, some v⟩ :: r) := .tail (.tail (.tail (.tail (.tail (.tail (.head))))))
theorem put7 {x : Str} {k : Option Addr} {u : Option Value} {v : Value} {a0 a1 a2 a3 a4 a5 a6 : VE} {r : List VE} : PutV x k v (a0 :: a1 :: a2 :: a3 :: a4 :: a5 :: a6 :: ⟨x, k, u⟩ :: r) (a0 :: a1 :: a2 :: a3 :: a4 :: a5 :: a6 :: ⟨x, k, some v⟩ :: r) := .tail (.tail (.tail (.tail (.tail (.tail (.tail (.head)))))))
theorem put8 {x : Str} {k : Option Addr} {u : Option Value} {v : Value} {a0 a1 a2 a3 a4 a5 a6 a7 : VE} {r : List VE} : PutV x k v (a0 :: a1 :: a2 :: a3 :: a4 :: a5 :: a6 :: a7 :: ⟨x, k, u⟩ :: r) (a0 :: a1 :: a2 :: a3 :: a4 :: a5 :: a6 :: a7 :: ⟨x, k, some v⟩ :: r) := .tail (.tail (.tail (.tail (.tail (.tail (.tail (.tail (.head))))))))
theorem put9 {x : Str} {k : Option Addr} {u : Option Value} {v : Value} {a0 a1 a2 a3 a4 a5 a6 a7 a8 : VE} {r : List VE} : PutV x k v (a0 :: a1 :: a2 :: a3 :: a4 :: a5 :: a6 :: a7 :: a8 :: ⟨x, k, u⟩ :: r) (a0 :: a1 :: a2 :: a3 :: a4 :: a5 :: a6 :: a7 :: a8 :: ⟨x, k, some v⟩ :: r) := .tail (.tail (.tail (.tail (.tail (.tail (.tail (.tail (.tail (.head)))))))))
theorem nocel {own : List Addr} : ∀ a, (none : Option Addr) = some a → a ∈ own := fun kq h => nomatch h
theorem somecel {own : List Addr} {b : Addr} (h : b ∈ own) : ∀ a, some b = some a → a ∈ own := fun a e => by cases e; exact h
theorem ce_nil {P : VE → Prop} : ∀ e ∈ ([] : List VE), P e := fun kq h => nomatch h
theorem ce_cons {n : Str} {a : Addr} {v : Option Value} {l ρ : List VE} (hm : (⟨n, some a, v⟩ : VE) ∈ ρ) (h : ∀ e ∈ l, e ∈ ρ ∧ ∃ a, e.cel = some a) : ∀ e ∈ ((⟨n, some a, v⟩ : VE) :: l), e ∈ ρ ∧ ∃ a, e.cel = some a := fun e he => by
 rcases mCo he with rfl | he
 · exact ⟨hm, a, rfl⟩
 exact h e he
theorem execs_cut {M : Model} {A : Around} {E : VP} {s : Shared} {env : Env} {st : Stmt} {rest : List Stmt} {Q : Flow → Shared → Prop}
   (h : ∀ Q1 : Flow → Shared → Prop, (∀ f s', (match f with | .next => wpAny M A (execs rest env) Q E s' | f => Q f s') → Q1 f s') → wpAny M A (exec st env) Q1 E s) : wpAny M A (execs (st :: rest) env) Q E s :=
 wpAny_execs_cons (h _ fun f s' x => x)
set_option hygiene false in
local macro_rules | `(tactic| ktf_call "mem") => `(tactic| (repeat (first | exact List.Mem.head _ | refine List.Mem.tail _ ?_)))
set_option hygiene false in
local macro_rules | `(tactic| ktf_call "st") => `(tactic| first
 | with_reducible refine wpAny_execs_cons ?_
 | with_reducible refine wpAny_BinOp ?_
 | with_reducible refine wpAny_Return_some ?_)
end
section
noncomputable abbrev NoE : VP := fun kq kq => False
structure Ch (wr : List Addr) (gw : Nat → Prop) (s s' : Shared) : Prop where
 keep : ∀ b o, b ∉ wr → s.heap.get? b = some o → s'.heap.get? b = some o
 gens : ∀ (j : Nat) (x : GenState), ¬ gw j → s.gens[j]? = some x → s'.gens[j]? = some x
 os : s'.os = s.os
 bare : AllBare s.gens → AllBare s'.gens
theorem Ch.heap {wr : List Addr} {gw : Nat → Prop} {s : Shared} {h' : Heap} {d : Drawn} {t : Nat} (k : ∀ b o, b ∉ wr → s.heap.get? b = some o → h'.get? b = some o) : Ch wr gw s ⟨h', s.gens, d, t, s.os⟩ :=
 ⟨k, fun kq kq kq e => e, rfl, id⟩
structure Itr (w : World) (A : Around) (target : Expr) (I : Addr) (fp : List Addr) (gw : Nat → Prop) (n : Nat) (V : VH) (St : List Addr → Nat → Shared → Prop) : Prop where
 frame : ∀ wr i s s', St wr i s → (∀ b ∈ fp, ∀ o, s.heap.get? b = some o → s'.heap.get? b = some o) → (∀ b ∈ wr, ∀ o, s.heap.get? b = some o → s'.heap.get? b = some o) → (∀ (j : Nat) (x : GenState), gw j → s.gens[j]? = some x → s'.gens[j]? = some x) → St wr i s'
 live : ∀ wr i s, St wr i s → ∀ b ∈ wr, ∃ o, s.heap.get? b = some o
 item : ∀ wr i s (Q : VP), i < n → St wr i s → (∀ v s' wr', St wr' (i + 1) s' → (∀ b ∈ wr', b ∈ wr ∨ s.heap.get? b = none) → V i v s'.heap → Ch wr gw s s' → Q v s') →
   wpAny (model PG w) A (pyNext (.ref I)) (fun r s₁ => match r with | none => False | some v => wpAny (model PG w) A (letOwnedTupleGo target (.ref I) v) (fun kq s₂ => Q v s₂) NoE s₁) NoE s
 done : ∀ wr s (Q : Shared → Prop), St wr n s → (∀ s', Ch wr gw s s' → Q s') → wpAny (model PG w) A (pyNext (.ref I)) (fun r s₁ => match r with | none => Q s₁ | some _ => False) NoE s
 self : ∀ wr i s (Q : VP), St wr i s → Q (.ref I) s → wpAny (model PG w) A (pyIter (.ref I)) Q NoE s
noncomputable def Cx.guard (c : Cx) (wr : List Addr) (h : Heap) (γ : Array GenState) : Cx := { c with old := fun a => if a ∈ wr then h.get? a else c.old a, G := γ }
structure Priv (wr : List Addr) (c : Cx) (m : Mp) (own : List Addr) (nw : Led) : Prop where
 m : ∀ b ∈ wr, m b = none
 own : ∀ b ∈ wr, b ∉ own ++ nw.map (·.1)
 old : ∀ b ∈ wr, c.old b = none
section
variable {w : World} {c : Cx} {γ : Array GenState} {m : Mp} {env : Env} {own : List Addr} {ρ ρ' : List VE} {nw nw' : Led} {s s' : Shared} {wr : List Addr} {gw : Nat → Prop}
theorem Bd.ch (B : Bd w c γ m env own ρ nw s) (k : Ch wr gw s s') (p : Priv wr c m own nw) (hg : ∀ j, gw j → c.G[j]? = none) : Bd w c s'.gens m env own ρ nw s' where
 old := fun a o e => k.keep a o (fun h => by rw [p.old a h] at e; cases e) (B.old a o e)
 ok := fun a o e => k.keep a o (fun h => by rw [p.m a h] at e; cases e) (B.ok a o e)
 low := B.low
 gr := B.gr
 ble := B.ble
 os := k.os.trans B.os
 gens := rfl
 gpre := fun i x e => k.gens i x (fun h => by rw [hg i h] at e; cases e) (B.gens ▸ B.gpre i x e)
 bare := k.bare (B.gens ▸ B.bare)
 vars := B.vars.keep fun a o ha e => k.keep a o (fun h => by
   rcases ha with rfl | ⟨x, hx, hc⟩
   · exact p.own _ h (List.mem_append.mpr (.inl B.vars.loc))
   rcases B.cin x hx a hc with q | q
   · exact p.own _ h (List.mem_append.mpr (.inl q))
   obtain ⟨ob, q⟩ := B.caps a q; rw [p.old a h] at q; cases q) e
 cin := B.cin
 caps := B.caps
 ownok := fun a ha => by obtain ⟨o, ho⟩ := B.ownok a ha; exact ⟨o, k.keep a o (fun h => p.own _ h (List.mem_append.mpr (.inl ha))) ho⟩
 ledok := fun q hq => by obtain ⟨o, ho, r⟩ := B.ledok q hq; exact ⟨o, k.keep _ o (fun h => p.own _ h (List.mem_append.mpr (.inr (List.mem_map_of_mem hq)))) ho, r⟩
 nodup := B.nodup
 out := B.out
theorem Bd.privNew {wr' : List Addr} (B : Bd w c γ m env own ρ nw s) (p : Priv wr c m own nw) (h : ∀ b ∈ wr', b ∈ wr ∨ s.heap.get? b = none) : Priv wr' c m own nw := by
 refine ⟨fun b hb => ?_, fun b hb hm => ?_, fun b hb => ?_⟩
 · rcases h b hb with q | q
   · exact p.m b q
   cases e : m b with
   | none => rfl
   | some o => have := B.ok _ _ e; rw [q] at this; cases this
 · rcases h b hb with q | q
   · exact p.own b q hm
   rcases mAp hm with hm | hm
   · obtain ⟨o, ho⟩ := B.ownok b hm; rw [q] at ho; cases ho
   obtain ⟨x, hx, rfl⟩ := mMa hm; refine x12 (B.ledok x hx) fun o ho kq => ?_; rw [q] at ho; cases ho
 rcases h b hb with q | q
 · exact p.old b q
 cases e : c.old b with
 | none => rfl
 | some o => have := B.old _ _ e; rw [q] at this; cases this
theorem Bd.guard (B : Bd w c γ m env own ρ nw s) (p : Priv wr c m own nw) : Bd w (c.guard wr s.heap γ) γ m env own ρ nw s where
 old := fun a o e => by
   simp only [Cx.guard] at e; by_cases h : a ∈ wr
   · rw [if_pos h] at e; exact e
   rw [if_neg h] at e; exact B.old a o e
 ok := B.ok
 low := fun a o e => by
   simp only [Cx.guard] at e; by_cases h : a ∈ wr
   · show m a = c.base a
     rw [p.m a h]; cases q : c.base a with
     | none => rfl
     | some ob => have := B.ble a ob q; rw [p.m a h] at this; cases this
   rw [if_neg h] at e; exact B.low a o e
 gr := B.gr
 ble := B.ble
 os := B.os
 gens := B.gens
 gpre := fun kq kq e => e
 bare := B.bare
 vars := B.vars
 cin := B.cin
 caps := fun a ha => by
   simp only [Cx.guard]; obtain ⟨o, ho⟩ := B.caps a ha; by_cases h : a ∈ wr
   · rw [p.old a h] at ho; cases ho
   rw [if_neg h]; exact ⟨o, ho⟩
 ownok := B.ownok
 ledok := B.ledok
 nodup := B.nodup
 out := fun a ha => ⟨(B.out a ha).1, by
   simp only [Cx.guard]; rw [if_neg (fun h => p.own a h ha)]; exact (B.out a ha).2⟩
theorem Bd.unguard {h₀ : Heap} {γ₀ : Array GenState} {s₀ : Shared} {m₀ : Mp} {env₀ : Env} {own₀ : List Addr} {ρ₀ : List VE} {nw₀ : Led} (B₀ : Bd w c γ₀ m₀ env₀ own₀ ρ₀ nw₀ s₀) (p : ∀ b ∈ wr, c.old b = none) (B : Bd w (c.guard wr h₀ γ₀) γ m env own ρ nw s) : Bd w c γ m env own ρ nw s := by
 have up : ∀ a o, c.old a = some o → (c.guard wr h₀ γ₀).old a = some o := fun a o e => by
   simp only [Cx.guard]; rw [if_neg (fun h => by rw [p a h] at e; cases e)]; exact e
 refine ⟨fun a o e => B.old a o (up a o e), B.ok, fun a o e => B.low a o (up a o e), B.gr, B.ble, B.os, B.gens, fun i x e => B.gpre i x (B₀.gpre i x e), B.bare, B.vars, B.cin, B₀.caps, B.ownok, B.ledok, B.nodup, fun a ha => ⟨(B.out a ha).1, ?_⟩⟩; cases e : c.old a with
 | none => rfl
 | some o => have := (B.out a ha).2; rw [up a o e] at this; cases this
theorem Bd.priv {h₀ : Heap} {γ₀ : Array GenState} {s₀ : Shared} {m₀ : Mp} {env₀ : Env} {own₀ : List Addr} {ρ₀ : List VE} {nw₀ : Led} (B₀ : Bd w c γ₀ m₀ env₀ own₀ ρ₀ nw₀ s₀) (p : Priv wr c m₀ own₀ nw₀) (l : ∀ b ∈ wr, ∃ o, h₀.get? b = some o) (B : Bd w (c.guard wr h₀ γ₀) γ m env own ρ nw s) :
   Priv wr c m own nw ∧ ∀ b ∈ wr, ∀ o, h₀.get? b = some o → s.heap.get? b = some o := by
 have at' : ∀ b ∈ wr, ∀ o, h₀.get? b = some o → (c.guard wr h₀ γ₀).old b = some o := fun b hb o e => by
   simp only [Cx.guard]; rw [if_pos hb]; exact e
 refine ⟨⟨fun b hb => ?_, fun b hb h => ?_, p.old⟩, fun b hb o e => B.old b o (at' b hb o e)⟩
 · obtain ⟨o, ho⟩ := l b hb; have h1 : m b = c.base b := B.low b o (at' b hb o ho); rw [h1]; cases q : c.base b with
   | none => rfl
   | some ob => have := B₀.ble b ob q; rw [p.m b hb] at this; cases this
 obtain ⟨o, ho⟩ := l b hb; have := (B.out b h).2; rw [at' b hb o ho] at this; cases this
end
end
section
theorem eP {M : Model} {Γ : PySem.Ctx} {p : Pos} {t : Sem Fin} {fs : List Frame} {s : Shared} {e : End} {s' : Shared} (h : Runs M Γ p t fs s e s') : s.toks ≤ s'.toks := by
 induction h <;> first
   | exact Nat.le_refl _
   | assumption
   | (rename_i ih; exact ae (Nat.le_succ _) ih)
   | (rename_i ih1 ih2; exact ae ih1 ih2)
   | (rename_i ih1 _ ih2; exact ae ih1 ih2)
theorem jH {M : Model} {Γ : PySem.Ctx} {p : Pos} {g : Nat} {r : Resume} {s : Shared} {res : GenResult} {s' : Shared} (h : Wakes M Γ p g r s res s') : s.toks ≤ s'.toks := by
 unfold Wakes at h; split at h
 · exact h.elim
 · split at h
   · obtain ⟨e₁, s₁, h1, _, _, rfl⟩ := h; have := eP h1; exact this
   · obtain ⟨_, rfl⟩ := h; exact Nat.le_refl _
   obtain ⟨_, rfl⟩ := h; exact Nat.le_refl _
 · obtain ⟨e₁, s₁, h1, _, _, rfl⟩ := h; have := eP h1; exact this
 · obtain ⟨_, rfl⟩ := h; exact Nat.le_refl _
 obtain ⟨_, rfl⟩ := h; exact Nat.le_refl _
theorem wp_toks {α : Type} {M : Model} {Γ : PySem.Ctx} {k : Nat} : ∀ (t : Sem α) {Q : α → Pos → Shared → Prop} {E : Value → Pos → Shared → Prop} {p : Pos} {s : Shared}, k ≤ s.toks →
   Sem.wp M Γ t (fun a p' s' => k ≤ s'.toks → Q a p' s') (fun e p' s' => k ≤ s'.toks → E e p' s') p s → Sem.wp M Γ t Q E p s := by
 intro t; induction t with
 | pure a => intro Q E p s hk h; rw [Sem.wp] at h ⊢; exact h hk
 | raise e => intro Q E p s hk h; rw [Sem.wp] at h ⊢; exact h hk
 | «unsupported» w => intro Q E p s hk h; rw [Sem.wp] at h; exact h.elim
 | finish e => intro Q E p s hk h; rw [Sem.wp] at h; exact h.elim
 | rule tag k ih => intro Q E p s hk h; rw [Sem.wp] at h ⊢; exact ih _ hk h
 | «at» p' k ih => intro Q E p s hk h; rw [Sem.wp] at h ⊢; exact ih _ hk h
 | load a part k ih => intro Q E p s hk h; rw [Sem.wp] at h ⊢; refine x12 h fun o ho h => ?_; exact ⟨o, ho, ih _ hk h⟩
 | update a part f k ih => intro Q E p s hk h; rw [Sem.wp] at h ⊢; exact ⟨h.1, ih _ hk h.2⟩
 | loadIfAlive a k ih => intro Q E p s hk h; rw [Sem.wp] at h ⊢; exact ih _ hk h
 | point l k ih => intro Q E p s hk h; rw [Sem.wp] at h ⊢; exact ih _ hk h
 | register a k ih => intro Q E p s hk h; rw [Sem.wp] at h; exact h.elim
 | alloc o k ih => intro Q E p s hk h; rw [Sem.wp] at h ⊢; exact ih _ hk h
 | fresh k ih => intro Q E p s hk h; rw [Sem.wp] at h ⊢; exact ih _ (Nat.le_succ_of_le hk) h
 | ask k ih => intro Q E p s hk h; rw [Sem.wp] at h ⊢; exact ih _ hk h
 | choose src n k ih => intro Q E p s hk h; rw [Sem.wp] at h ⊢; exact ⟨h.1, ih _ hk h.2⟩
 | os q l k ih => intro Q E p s hk h; rw [Sem.wp] at h ⊢; exact ih _ hk h
 | call c hd g l k ih =>
   intro Q E p s hk h; rw [Sem.wp] at h ⊢; refine x22 h fun r s' h1 h2 => ?_; exact ⟨r, s', h1, ih _ (ae hk (eP h1)) h2⟩
 | handled own k ih => intro Q E p s hk h; rw [Sem.wp] at h ⊢; exact ih _ hk h
 | genState g k ih => intro Q E p s hk h; rw [Sem.wp] at h ⊢; refine x12 h fun o ho h => ?_; exact ⟨o, ho, ih _ hk h⟩
 | newGen c k ih => intro Q E p s hk h; rw [Sem.wp] at h ⊢; exact ih _ hk h
 | resume g r l k ih =>
   intro Q E p s hk h; rw [Sem.wp] at h ⊢; refine x22 h fun r s' h1 h2 => ?_; exact ⟨r, s', h1, ih _ (ae hk (jH h1)) h2⟩
 | yield v g l k ih => intro Q E p s hk h; rw [Sem.wp] at h; exact h.elim
 | stack k ih => intro Q E p s hk h; rw [Sem.wp] at h ⊢; exact ih _ hk h
 | fork c k ih => intro Q E p s hk h; rw [Sem.wp] at h; exact h.elim
 | thread k ih => intro Q E p s hk h; rw [Sem.wp] at h ⊢; exact ih _ hk h
 | await a f d l k ih => intro Q E p s hk h; rw [Sem.wp] at h; exact h.elim
theorem bn {α : Type} {M : Model} {A : Around} {t : Sem α} {k : Nat} {Q : α → Shared → Prop} {E : VP} {s : Shared} (hk : k ≤ s.toks) (h : wpAny M A t (fun a s' => k ≤ s'.toks → Q a s') (fun e s' => k ≤ s'.toks → E e s') s) : wpAny M A t Q E s :=
 fun Γ p hΓ => wp_toks t hk (h Γ p hΓ)
end
section
noncomputable abbrev bt (ifs : List Expr) (env : Env) : Sem Bool := forIn ifs true fun c r => if r = true then do let ok ← isTrue c env (eval c env); pure (ForInStep.yield ok) else pure (ForInStep.yield r)
theorem noE {α : Type} {A : Around} {E : VP} {s : Shared} {t : Sem α} {Q' : α → Shared → Prop} {M : Model} (h : wpAny M A t Q' NoE s) : wpAny M A t Q' E s := an h (fun kq kq q => q) fun kq kq x => x.elim
noncomputable def TurnD (elt target iter : Expr) (ifs : List Expr) (gens : List Comprehension) (d : Nat) (scope : Scope) (pos : Pos) (it acc : Value) (env : Env) : Prop :=
   compTurn (.ListComp elt gens scope pos) d it acc env = (do
     standAt iter.pos
     match ← pyNext it with
     | none => pure (.done .next)
     | some v =>
       letOwnedTupleGo target it v
       assign target env v
       let mut ok := true
       for c in ifs do
         if ok then ok ← isTrue c env (eval c env)
       if ok then
         (do let _ ← call (.builtin "list.append") [acc, ← eval elt env])
       again (.compLoop (.ListComp elt gens scope pos) d it acc env))
theorem TurnD.one {elt target iter : Expr} {ifs : List Expr} {scope : Scope} {pos : Pos} {it acc : Value} {env : Env} : TurnD elt target iter ifs [⟨target, iter, ifs, 0⟩] 0 scope pos it acc env := rfl
theorem TurnD.two {elt t1 i1 target iter : Expr} {ifs : List Expr} {scope : Scope} {pos : Pos} {it acc : Value} {env : Env} : TurnD elt target iter ifs [⟨t1, i1, [], 0⟩, ⟨target, iter, ifs, 0⟩] 1 scope pos it acc env := rfl
theorem j8 {w : World} {A : Around} {R : Result → Shared → Prop} {s : Shared} {elt target iter : Expr} {ifs : List Expr} {gens : List Comprehension} {d : Nat} {scope : Scope} {pos : Pos} {it acc : Value} {env : Env} (heq : TurnD elt target iter ifs gens d scope pos it acc env) (I : Nat → Shared → Prop)
   (turn : ∀ n s, I n s → wpAny (model PG w) A (pyNext it) (fun r s₁ => match r with
     | none => R (.ok .next) s₁
     | some v => wpAny (model PG w) A (letOwnedTupleGo target it v) (fun kq s₁' => wpAny (model PG w) A (assign target env v) (fun kq s₂ =>
         wpAny (model PG w) A (bt ifs env) (fun ok s₃ =>
           if ok = true then wpAny (model PG w) A (eval elt env) (fun x s₄ =>
             wpAny (model PG w) A (call (.builtin "list.append") [acc, x]) (fun kq s₅ => ∃ m, m < n ∧ I m s₅) NoE s₄) NoE s₃
           else ∃ m, m < n ∧ I m s₃) NoE s₂) NoE s₁') NoE s₁) NoE s)
   (n : Nat) (h : I n s) :
   codeAny (model PG w) A (.compLoop (.ListComp elt gens scope pos) d it acc env) R s := by
 refine codeAny_loop rfl I (fun n s hI => ?_) n h; show wpAny _ A ((compTurn (.ListComp elt gens scope pos) d it acc env).onRaise (fun x => do noteFrame x env; theTreesLotGoes x)) _ _ s
 refine wpAny_noted ?_; rw [heq]; refine aj (wpAny_standAt (aj (an (turn n s hI) (fun r s₁ h₁ => ?_) fun kq kq x => x.elim))); cases r with
 | none => exact wpAny_pure h₁
 | some v =>
   refine aj (an h₁ (fun kq s₁' h₁' => ?_) fun kq kq x => x.elim); refine aj (an h₁' (fun kq s₂ h₂ => aj (an h₂ (fun ok s₃ h₃ => ?_) fun kq kq x => x.elim)) fun kq kq x => x.elim); cases ok with
   | false => exact wpAny_pure ⟨rfl, h₃⟩
   | true =>
     exact aj (aj (an h₃ (fun x s₄ h₄ => aj (an h₄ (fun kq s₅ h₅ => wpAny_pure (wpAny_pure ⟨rfl, h₅⟩)) fun kq kq x => x.elim)) fun kq kq x => x.elim))
section
variable {w : World} {c : Cx} {γ : Array GenState} {m : Mp} {env : Env} {own : List Addr} {ρ ρ' : List VE} {nw nw' : Led} {s s' : Shared} {wr : List Addr} {gw : Nat → Prop} {A : Around} {target : Expr} {I : Addr} {fp : List Addr} {n : Nat} {V : VH} {St : List Addr → Nat → Shared → Prop} {m₀ : Mp} {t0 : Nat}
inductive Sit (w : World) (c : Cx) (env : Env) (own : List Addr) (m₀ : Mp) (n : Nat) (St : List Addr → Nat → Shared → Prop) (t0 : Nat) (P : Nat → Mp → List VE → Led → Prop) (k : Nat) (s : Shared) : Prop
 | mk (wr : List Addr) (i : Nat) (γ : Array GenState) (m : Mp) (ρ : List VE) (nw : Led) (hk : k = n - i) (hi : i ≤ n) (ht : t0 ≤ s.toks) (hP : P i m ρ nw) (hm : m₀.le m) (B : Bd w c γ m env own ρ nw s) (hst : St wr i s) (p : Priv wr c m own nw)
theorem gz {P : Nat → Mp → List VE → Led → Prop} {k : Nat} {Z : Shared → Prop} {Y : VP} (T : Itr w A target I fp gw n V St) (hfp : ∀ b ∈ fp, ∃ o, m₀ b = some o) (hgw : ∀ j, gw j → c.G[j]? = none) (h : Sit w c env own m₀ n St t0 P k s)
   (turn : ∀ i v c1 γ m ρ nw s', i < n → t0 ≤ s'.toks → P i m ρ nw → m₀.le m → V i v s'.heap → Bd w c1 γ m env own ρ nw s' → (∀ γ m ρ nw s, Bd w c1 γ m env own ρ nw s → Bd w c γ m env own ρ nw s) →
     (∀ γ' m' ρ' nw' s₃, t0 ≤ s₃.toks → P (i + 1) m' ρ' nw' → m₀.le m' → Bd w c1 γ' m' env own ρ' nw' s₃ → ∃ k', k' < k ∧ Sit w c env own m₀ n St t0 P k' s₃) → Y v s')
   (fin : ∀ γ m ρ nw s', P n m ρ nw → m₀.le m → Bd w c γ m env own ρ nw s' → Z s') :
   wpAny (model PG w) A (pyNext (.ref I)) (fun r s₁ => match r with
     | none => Z s₁
     | some v => wpAny (model PG w) A (letOwnedTupleGo target (.ref I) v) (fun kq s₂ => Y v s₂) NoE s₁) NoE s := by
 cases h with
 | mk wr i γ m ρ nw hk hi ht hP hm B hst p =>
   by_cases hlt : i < n
   · refine bn ht (an (T.item wr i s (fun v s₁ => t0 ≤ s₁.toks → Y v s₁) hlt hst fun v s' wr' hst' hwr hv ch ht1 => ?_) (fun r s₁ h ht1 => ?_) fun kq kq x => x.elim)
     · have B' := B.ch ch p hgw; have p' := B.privNew p hwr; refine turn i v _ _ m ρ nw s' hlt ht1 hP hm hv (B'.guard p') (fun kq kq kq kq kq b => B'.unguard p'.old b) fun γ' m' ρ' nw' s₃ ht3 hP' hm' B₃ => ?_; have q := B'.priv p' (T.live _ _ _ hst') B₃; refine ⟨n - (i + 1), a14 hk hlt, .mk wr' (i + 1) γ' m' ρ' nw' rfl hlt ht3 hP' hm' (B'.unguard p'.old B₃) (T.frame _ _ _ _ hst' (fun b hb o e => ?_) q.2 fun j x hj e => ?_) q.1⟩
       · obtain ⟨ob, h⟩ := hfp b hb; have h1 := B'.ok b ob (hm b ob h); rw [e] at h1; cases h1
         exact B₃.ok b o (hm' b o h)
       rw [B₃.gens]; exact B₃.gpre j x e
     cases r with
     | none => exact h.elim
     | some v => exact bn ht1 (an h (fun kq kq q => q) fun kq kq x => x.elim)
   have : i = n := a13 hi hlt; subst this; refine an (T.done wr s Z hst fun s' ch => fin _ m ρ nw s' hP hm (B.ch ch p hgw)) (fun r s₁ h => ?_) fun kq kq x => x; cases r with
   | none => exact h
   | some _ => exact h.elim
theorem gI {elt iter : Expr} {ifs : List Expr} {gens : List Comprehension} {d : Nat} {scope : Scope} {pos : Pos} {acc : Addr} {R : Result → Shared → Prop} {xs : List Value}
   (heq : TurnD elt target iter ifs gens d scope pos (.ref I) (.ref acc) env) (T : Itr w A target I fp gw n V St) (Inv : Nat → List Value → Mp → List VE → Led → Prop)
   (hfp : ∀ b ∈ fp, ∃ o, m₀ b = some o) (hgw : ∀ j, gw j → c.G[j]? = none)
   (turn : ∀ i v c1 γ m ρ xs nw s, i < n → t0 ≤ s.toks → Inv i xs m ρ nw → m₀.le m → V i v s.heap → Bd w c1 γ m env own ρ ((acc, au xs) :: nw) s → (∀ γ m ρ nw s, Bd w c1 γ m env own ρ nw s → Bd w c γ m env own ρ nw s) →
     wpAny (model PG w) A (assign target env v) (fun kq s₂ => wpAny (model PG w) A (bt ifs env) (fun ok s₃ =>
         if ok = true then wpAny (model PG w) A (eval elt env) (fun x s₄ => ∃ γ' m' ρ' nw', xs.length ≤ sizeLine ∧ Inv (i + 1) (xs ++ [x]) m' ρ' nw' ∧ m₀.le m' ∧ Bd w c1 γ' m' env own ρ' ((acc, au xs) :: nw') s₄) NoE s₃
         else ∃ γ' m' ρ' nw', Inv (i + 1) xs m' ρ' nw' ∧ m₀.le m' ∧ Bd w c1 γ' m' env own ρ' ((acc, au xs) :: nw') s₃) NoE s₂) NoE s)
   (fin : ∀ γ m ρ xs nw s, Inv n xs m ρ nw → m₀.le m → Bd w c γ m env own ρ ((acc, au xs) :: nw) s → R (.ok .next) s)
   (h0 : Inv 0 xs m ρ nw) (hm : m₀.le m) (B : Bd w c γ m env own ρ ((acc, au xs) :: nw) s) (ht : t0 ≤ s.toks) (hst : St wr 0 s) (p : Priv wr c m own ((acc, au xs) :: nw)) :
   codeAny (model PG w) A (.compLoop (.ListComp elt gens scope pos) d (.ref I) (.ref acc) env) R s := by
 refine j8 heq (fun k s => Sit w c env own m₀ n St t0 (fun i m ρ nw => ∃ xs nw', nw = (acc, au xs) :: nw' ∧ Inv i xs m ρ nw') k s) (fun k s h => gz T hfp hgw h ?_ ?_) n (.mk wr 0 γ m ρ _ rfl (Nat.zero_le _) ht ⟨xs, nw, rfl, h0⟩ hm B hst p)
 · rintro i v c1 γ m ρ _ s' hlt ht1 ⟨xs, nw, rfl, hI⟩ hm hv B _ tail; refine bn ht1 (an (turn i v c1 γ m ρ xs nw s' hlt ht1 hI hm hv B ‹_›) (fun kq s₂ h2 ht2 => bn ht2 (an h2 (fun ok s₃ h3 ht3 => ?_) fun kq kq x => x.elim)) fun kq kq x => x.elim); cases ok with
   | true =>
     refine bn ht3 (an h3 (fun x s₄ h4 ht4 => ?_) fun kq kq x => x.elim); refine x44 h4 fun γ' m' ρ' nw' hz hI' hm' B₄ => ?_; exact bn ht4 (bH B₄ .head hz fun s₅ B₅ ht5 => tail _ _ _ _ s₅ ht5 ⟨_, _, rfl, hI'⟩ hm' B₅)
   | false =>
     refine x43 h3 fun γ' m' ρ' nw' hI' hm' B₄ => ?_; exact tail _ _ _ _ s₃ ht3 ⟨_, _, rfl, hI'⟩ hm' B₄
 rintro γ m ρ _ s' ⟨xs, nw, rfl, hI⟩ hm B; exact fin _ _ _ _ _ _ hI hm B
end
end
section
noncomputable def bc (f : Str → Option Addr) : List (Str × NameKind) → List (Str × Addr) → List (Str × Addr)
 | [], acc => acc
 | (n, k) :: r, acc => bc f r (if k == .free then (n, (f n).getD 0) :: acc else acc)
theorem ci {f : Str → Option Addr} {x : Str} {a : Addr} (hx : f x = some a) : ∀ (names : List (Str × NameKind)) (acc : List (Str × Addr)), (names.lookup x = some .free ∨ acc.lookup x = some a) → (∀ b, acc.lookup x = some b → b = a) →
   (bc f names acc).lookup x = some a
 | [], acc, h, _ => by
   rcases h with h | h
   · cases h
   exact h
 | (n, k) :: r, acc, h, hu => by
   unfold bc; by_cases hk : (k == NameKind.free) = true
   · rw [if_pos hk]; refine ci hx r _ ?_ ?_
     · by_cases hn : (x == n) = true
       · right; rw [List.lookup_cons, hn]; rw [← beq_iff_eq.mp hn, hx]; rfl
       rcases h with h | h
       · left; rw [List.lookup_cons] at h; simpa only [hn] using h
       right; rw [List.lookup_cons]; simpa only [hn] using h
     intro b hb; rw [List.lookup_cons] at hb; by_cases hn : (x == n) = true
     · rw [hn] at hb; rw [← beq_iff_eq.mp hn, hx] at hb; exact (Option.some.inj hb).symm
     simp only [hn] at hb; exact hu b hb
   rw [if_neg hk]; refine ci hx r _ ?_ hu; rcases h with h | h
   · by_cases hn : (x == n) = true
     · rw [List.lookup_cons, hn] at h; exact absurd (by rw [Option.some.inj h]; rfl) hk
     left; rw [List.lookup_cons] at h; simpa only [hn] using h
   exact .inr h
theorem gK {scope : Scope} {env : Env} (h : ∀ x ∈ scope.names, x.2 = .free → ∃ a, env.cells.lookup x.1 = some a) : closureFor scope env = pure (bc (fun n => env.cells.lookup n) scope.names []) := by
 unfold closureFor
 have go : ∀ (names : List (Str × NameKind)) (acc : List (Str × Addr)), (∀ x ∈ names, x.2 = .free → ∃ a, env.cells.lookup x.1 = some a) →
     (forIn names acc (fun (x : Str × NameKind) (r : List (Str × Addr)) => (match x with
       | (name, kind) => if kind == .free then do let a ← cellOf env name; pure (ForInStep.yield ((name, a) :: r)) else pure (ForInStep.yield r) : Sem (ForInStep (List (Str × Addr)))))) = pure (bc (fun n => env.cells.lookup n) names acc) := by
   intro names; induction names with
   | nil => intro acc _; rfl
   | cons x r ih =>
     intro acc hx; obtain ⟨n, k⟩ := x; rw [List.forIn_cons]; unfold bc; by_cases hk : (k == NameKind.free) = true
     · obtain ⟨a, ha⟩ := hx (n, k) (.head _) (beq_iff_eq.mp hk); have e : cellOf env n = pure a := by unfold cellOf; rw [show env.cells.lookup n = some a from ha]
       simp only [hk, if_true, e, pure_bind]; rw [show env.cells.lookup n = some a from ha]
       exact ih _ fun y hy => hx y (.tail _ hy)
     simp only [hk, if_false, pure_bind, Bool.false_eq_true]; exact ih _ fun y hy => hx y (.tail _ hy)
 have := go scope.names [] h; simp only [bind_pure] at this ⊢; first | exact this | (rw [← this]; rfl) | (rw [← this]; congr; funext x r; obtain ⟨n, k⟩ := x; cases k <;> rfl)
theorem bl {env : Env} : ∀ {names : List (Str × NameKind)} {x : Str}, names.lookup x = some .free →
   (names.map fun (n, k) => if (k == NameKind.free && env.scope.kind == .function && env.kindOf n == some .cell) then (n, NameKind.cell) else (n, k)).lookup x = some .cell ∨
   (names.map fun (n, k) => if (k == NameKind.free && env.scope.kind == .function && env.kindOf n == some .cell) then (n, NameKind.cell) else (n, k)).lookup x = some .free
 | [], _, h => by simp at h
 | (n, k) :: r, x, h => by
   have ih := @bl env r x; simp only [ai]; cases hx : x == n with
   | true =>
     simp only [List.lookup_cons, hx] at h; cases h
     by_cases hc : (NameKind.free == NameKind.free && env.scope.kind == .function && env.kindOf n == some .cell) = true
     · rw [if_pos hc]; left; simp only [List.lookup_cons, hx]
     rw [if_neg hc]; right; simp only [List.lookup_cons, hx]
   | false =>
     simp only [List.lookup_cons, hx] at h; have go : ∀ k', List.lookup x ((n, k') :: (r.map fun (n, k) => if (k == NameKind.free && env.scope.kind == .function && env.kindOf n == some .cell) then (n, NameKind.cell) else (n, k))) = List.lookup x (r.map fun (n, k) => if (k == NameKind.free && env.scope.kind == .function && env.kindOf n == some .cell) then (n, NameKind.cell) else (n, k)) := fun k' => by simp only [List.lookup_cons, hx]
     by_cases hc : (k == NameKind.free && env.scope.kind == .function && env.kindOf n == some .cell) = true
     · rw [if_pos hc, go]; exact ih h
     rw [if_neg hc, go]; exact ih h
noncomputable def Cx.inner (c : Cx) (own : List Addr) (h : Heap) (caps : List Addr) : Cx := { c with old := fun a => if a ∈ own then h.get? a else c.old a, caps := caps }
section
variable {w : World} {c : Cx} {γ γ' : Array GenState} {m m' : Mp} {env cenv : Env} {own : List Addr} {ρ ρ' : List VE} {nw nw' : Led} {s s' : Shared}
theorem Bd.comeback {caps own' : List Addr} (B : Bd w c γ m env own ρ nw s) (C : Bd w (c.inner own s.heap caps) γ' m' cenv own' ρ' nw' s') : Bd w c γ' m' env own ρ nw' s' := by
 have up : ∀ a o, c.old a = some o → (c.inner own s.heap caps).old a = some o := fun a o e => by
   simp only [Cx.inner]; rw [if_neg (fun h => by rw [(B.out a (List.mem_append.mpr (.inl h))).2] at e; cases e)]; exact e
 have at' : ∀ a ∈ own, ∀ o, s.heap.get? a = some o → (c.inner own s.heap caps).old a = some o := fun a ha o e => by
   simp only [Cx.inner]; rw [if_pos ha]; exact e
 have hn := C.nodup; rw [List.nodup_append] at hn; have hB := B.nodup; rw [List.nodup_append] at hB; have ne : ∀ a ∈ own, a ∉ nw'.map (·.1) := fun a ha h => by
   obtain ⟨o, ho⟩ := B.ownok a ha; have := (C.out a (List.mem_append.mpr (.inr h))).2; rw [at' a ha o ho] at this; cases this
 refine ⟨fun a o e => C.old a o (up a o e), C.ok, fun a o e => C.low a o (up a o e), C.gr, C.ble, C.os, C.gens, C.gpre, C.bare, B.vars.keep fun a o h e => ?_, B.cin, B.caps, fun a ha => ?_, C.ledok, ?_, fun a ha => ?_⟩
 · rcases h with rfl | ⟨x, hx, hc⟩
   · exact C.old _ o (at' _ B.vars.loc o e)
   rcases B.cin x hx a hc with q | q
   · exact C.old _ o (at' _ q o e)
   obtain ⟨ob, q⟩ := B.caps a q; have := B.old a ob q; rw [e] at this; cases this
   exact C.old _ o (up a o q)
 · obtain ⟨o, ho⟩ := B.ownok a ha; exact ⟨o, C.old a o (at' a ha o ho)⟩
 · rw [List.nodup_append]; exact ⟨hB.1, hn.2.1, fun x hx y hy e => ne x hx (e ▸ hy)⟩
 rcases mAp ha with ha | ha
 · obtain ⟨o, ho⟩ := B.ownok a ha; refine ⟨?_, (B.out a (List.mem_append.mpr (.inl ha))).2⟩; rw [C.low a o (at' a ha o ho)]; show c.base a = none
   cases q : c.base a with
   | none => rfl
   | some ob => have := B.ble a ob q; rw [(B.out a (List.mem_append.mpr (.inl ha))).1] at this; cases this
 have := C.out a (List.mem_append.mpr (.inr ha)); refine ⟨this.1, ?_⟩; cases q : c.old a with
 | none => rfl
 | some ob => rw [up a ob q] at this; cases this.2
theorem Bd.lose {a : Addr} {h' : Heap} {d : Drawn} {tk : Nat} (B : Bd w c γ m env own ρ nw s) (k : ∀ b o, b ≠ a → s.heap.get? b = some o → h'.get? b = some o) (h1 : m a = none) (h2 : a ∉ own ++ nw.map (·.1)) (h3 : c.old a = none) : Bd w c γ m env own ρ nw ⟨h', s.gens, d, tk, s.os⟩ := by
 have e : γ = s.gens := B.gens.symm; subst e; exact B.ch (wr := [a]) (gw := fun kq => False) (s' := ⟨h', s.gens, d, tk, s.os⟩) (.heap fun b o hb e => k b o (fun q => hb (by simp [q])) e) ⟨fun b hb => by rcases mSg hb with rfl; exact h1, fun b hb => by rcases mSg hb with rfl; exact h2, fun b hb => by rcases mSg hb with rfl; exact h3⟩ (fun kq h => h.elim)
theorem Bd.lose1 {a : Addr} {P : Obj → Prop} {h' : Heap} {d : Drawn} {tk : Nat} (B : Bd w c γ m env own ρ ((a, P) :: nw) s) (k : ∀ b o, b ≠ a → s.heap.get? b = some o → h'.get? b = some o) : Bd w c γ m env own ρ nw ⟨h', s.gens, d, tk, s.os⟩ := by
 have ha : a ∈ own ++ ((a, P) :: nw).map (·.1) := List.mem_append.mpr (.inr (.head _)); have hn := B.nodup; rw [ai, List.nodup_append] at hn; refine B.drop1.lose k (B.out a ha).1 (fun h => ?_) (B.out a ha).2; rcases mAp h with h | h
 · exact hn.2.2 a h a (.head _) rfl
 exact (List.nodup_cons.mp hn.2.1).1 h
end
noncomputable def fe (scope : Scope) (ce : List VE) : Bool := scope.names.all fun x => x.2 != .free || ce.any fun e => e.name == x.1
noncomputable def NsO (o : Obj) : Prop := ∃ es ep, o.data = .dict es ep ∧ StrKeys es
theorem NsO.of {h : Heap} {a : Addr} {mp : Str → Option Value} (x : h.Ns a mp) : At a NsO h := by obtain ⟨o, es, ep, ho, hd, hk, _⟩ := x; exact ⟨o, ho, es, ep, hd, hk⟩
theorem NsO.ns {h : Heap} {a : Addr} (x : At a NsO h) : ∃ mp, h.Ns a mp := by obtain ⟨o, ho, es, ep, hd, hk⟩ := x; exact ⟨fun n => nsFind es n, o, es, ep, ho, hd, hk, fun kq => rfl⟩
section
variable {w : World} {c : Cx} {γ γ' : Array GenState} {m m' : Mp} {env cenv : Env} {own : List Addr} {ρ ρ' : List VE} {nw nw' : Led} {s s' : Shared} {A : Around}
theorem Bd.out1 {caps : List Addr} {L : Addr} (B : Bd w c γ m env own ρ nw s) (C : Bd w (c.inner own s.heap caps) γ' m' cenv [L] ρ' nw' s') (hL : cenv.locals = L) : Bd w c γ' m' env own ρ ((L, NsO) :: nw') s' := by
 refine x12 C.vars.ns fun mp hn kq => ?_; rw [hL] at hn; refine x12 (NsO.of hn) fun o ho hP => ?_; have hLo := C.out L (List.mem_append.mpr (.inl (.head _))); have hnd := C.nodup; rw [List.nodup_append] at hnd; have hin : ∀ b ∈ own, b ≠ L := fun b hb e => by
   obtain ⟨ob, h⟩ := B.ownok b hb; have := hLo.2; simp only [Cx.inner] at this; rw [if_pos (e ▸ hb)] at this; rw [e, this] at h; cases h
 refine (B.comeback C).addL ho hP hLo.1 ?_ fun h => ?_
 · have := hLo.2; simp only [Cx.inner] at this; rwa [if_neg (fun h => hin L h rfl)] at this
 rcases mAp h with h | h
 · exact hin L h rfl
 exact hnd.2.2 L (.head _) L h rfl
theorem d8 {ce : List VE} (hV : (ρ.filterMap (·.cel)).Nodup) : ∀ {ce : List VE}, (∀ e ∈ ce, e ∈ ρ) → (ce.map (·.name)).Nodup → (ce.filterMap (·.cel)).Nodup
 | [], _, _ => .nil
 | e :: r, h, hn => by
   rw [ai] at hn; have ih := d8 (ce := ce) hV (fun x hx => h x (.tail _ hx)) (List.nodup_cons.mp hn).2; rw [List.filterMap_cons]; cases hc : e.cel with
   | none => exact ih
   | some a =>
     refine List.nodup_cons.mpr ⟨fun hm => ?_, ih⟩; refine x12 (List.mem_filterMap.mp hm) fun e' he' hc' => ?_; have := gN hV (h e (.head _)) (h e' (.tail _ he')) hc hc'; subst this; exact (List.nodup_cons.mp hn).1 (List.mem_map_of_mem he')
structure CompOk (scope : Scope) (ns : List Str) (ce ρ : List VE) : Prop where
 hk : scope.kind = .function
 hcell : (scope.names.all fun x => x.2 != .cell) = true
 hns : (ns.all fun n => scope.names.lookup n == some .local) = true
 hce : ∀ e ∈ ce, e ∈ ρ ∧ ∃ a, e.cel = some a
 hcf : (ce.all fun e => scope.names.lookup e.name == some .free) = true
 hnd : (ns ++ ce.map (·.name)).Nodup
theorem jB {t0 : Nat} {elt target iter : Expr} {ifs : List Expr} {gens : List Comprehension} {scope : Scope} {pos : Pos} {I : Addr} {ns : List Str} {ce : List VE} {R : Value → Addr → Result → Shared → Prop}
   {fp wr : List Addr} {gw : Nat → Prop} {n : Nat} {V : VH} {St : List Addr → Nat → Shared → Prop}
   (B : Bd w c γ m env own ρ nw s) (T : Itr w A target I fp gw n V St)
   (ok : CompOk scope ns ce ρ)
   (ht : t0 ≤ s.toks) (hst : St wr 0 s) (p : Priv wr c m own nw)
   (loop : ∀ c1 cenv L acc s2, EnvOf cenv (relabel scope env) L (bc (fun n => env.cells.lookup n) scope.names []) → c1.G = c.G → t0 ≤ s2.toks → Bd w c1 γ m cenv [L] (ns.map (fun n => ⟨n, none, none⟩) ++ ce) ((acc, au []) :: nw) s2 → St wr 0 s2 → Priv wr c1 m [L] ((acc, au []) :: nw) →
     (∀ γ' m' ρ' xs nw' s', Bd w c1 γ' m' cenv [L] ρ' ((acc, au xs) :: nw') s' → Bd w c γ' m' env own ρ ((L, NsO) :: (acc, au xs) :: nw') s') → codeAny (model PG w) A (.compLoop (.ListComp elt (⟨target, iter, ifs, 0⟩ :: gens) scope pos) 0 (.ref I) (.ref acc) cenv) (R (.ref acc) L) s2) :
   wpAny (model PG w) A (newList []) (fun acc s₃ => wpAny (model PG w) A (newFunctionEnv scope env.globals (bc (fun n => env.cells.lookup n) scope.names []) [] env.qual none .none (some env)) (fun cenv s₄ =>
     codeAny (model PG w) A (.compStart (.ListComp elt (⟨target, iter, ifs, 0⟩ :: gens) scope pos) 0 (.ref I) acc { cenv with scope := relabel scope env }) (R acc cenv.locals) s₄) NoE s₃) NoE s := by
 obtain ⟨hk, hcell, hns, hce, hcf, hnd⟩ := ok; refine wpAny_newList ?_ (by decide); have hf0 := B.fresh; have B1 : Bd w c γ m env own ρ ((s.heap.objs.size, au []) :: nw) ⟨s.heap.push { cls := .type "list", data := .seq ([] : List Value).toArray }, s.gens, s.drawn, s.toks, s.os⟩ := B.pushL rfl ⟨_, rfl⟩; generalize hacc : s.heap.objs.size = acc at *
 generalize hs1 : (⟨s.heap.push { cls := .type "list", data := .seq ([] : List Value).toArray }, s.gens, s.drawn, s.toks, s.os⟩ : Shared) = s1 at *
 have hs1' : s1 = ⟨s.heap.push { cls := .type "list", data := .seq ([] : List Value).toArray }, s.gens, s.drawn, s.toks, s.os⟩ := hs1.symm; have k1 : ∀ a o, s.heap.get? a = some o → s1.heap.get? a = some o := fun a o e => by rw [hs1']; exact ar _ a o e
 have g1 : s1.gens = s.gens := by rw [hs1']
 refine wpAny_newFunctionEnv (fun x hx e => ?_) (fun x hx => nomatch hx) (fun h' hns' hsb => ?_) hk
 · have := List.all_eq_true.mp hcell x hx; rw [e] at this; exact absurd this (by decide)
 have hf1 := B1.fresh; generalize hL : s1.heap.objs.size = L at *
 have k2 : ∀ a o, s1.heap.get? a = some o → h'.get? a = some o := fun a o e => hsb.extBut a o (Nat.ne_of_lt (hL ▸ Heap.lt_size e)) (ar _ a o e); have V := B1.vars; have hco : ∀ e ∈ ce, ∀ a, e.cel = some a → (∃ o, s1.heap.get? a = some o) ∧ (a ∈ own ∨ a ∈ c.caps) := fun e he a ha => by
   obtain ⟨hr, _⟩ := hce e he; obtain ⟨_, _, _, v, ⟨o, ho, _⟩, _⟩ := V.kc e hr a ha; exact ⟨⟨o, ho⟩, B1.cin e hr a ha⟩
 have up : ∀ a o, c.old a = some o → (c.inner own s1.heap (ce.filterMap (·.cel))).old a = some o := fun a o e => by
   simp only [Cx.inner]; rw [if_neg (fun h => by rw [(B1.out a (List.mem_append.mpr (.inl h))).2] at e; cases e)]; exact e
 have C : Bd w (c.inner own s1.heap (ce.filterMap (·.cel))) γ m { (newEnv scope L env.globals (bc (fun n => env.cells.lookup n) scope.names []) env.qual none .none (some env) builtinsNs) with scope := relabel scope env } [L] (ns.map (fun n => ⟨n, none, none⟩) ++ ce) ((acc, au []) :: nw)
     ⟨h', s1.gens, s1.drawn, s1.toks + 0, s1.os⟩ := by
   have mem : ∀ e ∈ (ns.map (fun n => (⟨n, none, none⟩ : VE)) ++ ce), (∃ n ∈ ns, e = ⟨n, none, none⟩) ∨ e ∈ ce := fun e he => by
     rcases mAp he with he | he
     · obtain ⟨n, hn, rfl⟩ := mMa he; exact .inl ⟨n, hn, rfl⟩
     exact .inr he
   have hB := B1.nodup; rw [List.nodup_append] at hB; refine ⟨fun a o e => ?_, fun a o e => k2 _ _ (B1.ok a o e), fun a o e => ?_, B1.gr, B1.ble, B1.os, B1.gens, B1.gpre, B1.bare, ⟨hk, V.glob, V.bltn, .head _, ⟨_, hns', fun e he hc v hv => ?_⟩, fun e he hc => ?_, fun e he a ha => ?_, ?_, ?_⟩, fun e he a ha => ?_, fun a ha => ?_, fun a ha => ?_, fun p hp => ?_, ?_, fun a ha => ?_⟩
   · simp only [Cx.inner] at e; by_cases h : a ∈ own
     · rw [if_pos h] at e; exact k2 _ _ e
     rw [if_neg h] at e; exact k2 _ _ (B1.old a o e)
   · simp only [Cx.inner] at e; by_cases h : a ∈ own
     · have h1 := (B1.out a (List.mem_append.mpr (.inl h))).1; show m a = c.base a
       rw [h1]; cases q : c.base a with
       | none => rfl
       | some ob => have := B1.ble a ob q; rw [h1] at this; cases this
     rw [if_neg h] at e; exact B1.low a o e
   · rcases mem e he with ⟨n, _, rfl⟩ | h
     · cases hv
     obtain ⟨_, a, ha⟩ := hce e h; rw [hc] at ha; cases ha
   · rcases mem e he with ⟨n, hn, rfl⟩ | h
     · have := List.all_eq_true.mp hns n hn; exact lookup_relabel_local (by simpa using this)
     obtain ⟨_, a, ha⟩ := hce e h; rw [hc] at ha; cases ha
   · rcases mem e he with ⟨n, hn, rfl⟩ | h
     · cases ha
     obtain ⟨hr, _⟩ := hce e h; obtain ⟨y1, y2, y3, v, ⟨o, ho, hd⟩, y5⟩ := V.kc e hr a ha; have hfr := List.all_eq_true.mp hcf e h; refine ⟨bl (by simpa using hfr), ci y2 _ _ (.inl (by simpa using hfr)) (fun b hb => nomatch hb), fun q => ?_, v, ⟨o, k2 _ _ ho, hd⟩, y5⟩; have : a = L := q; rw [this, ← hL] at ho; exact absurd (Heap.lt_size ho) (Nat.lt_irrefl _)
   · rw [List.map_append, List.map_map]; have : (ns.map ((fun (x : VE) => x.name) ∘ fun n => (⟨n, none, none⟩ : VE))) = ns := List.map_id' _; rw [this]; exact hnd
   · rw [List.filterMap_append, List.filterMap_map]; have : (ns.filterMap ((fun (x : VE) => x.cel) ∘ fun n => (⟨n, none, none⟩ : VE))) = [] := by
       rw [List.filterMap_eq_nil_iff]; intro a _; rfl
     rw [this, List.nil_append]; rw [List.nodup_append] at hnd; exact d8 (ce := ce) V.cels (fun e he => (hce e he).1) hnd.2.1
   · rcases mem e he with ⟨n, hn, rfl⟩ | h
     · cases ha
     exact .inr (List.mem_filterMap.mpr ⟨e, h, ha⟩)
   · refine x12 (List.mem_filterMap.mp ha) fun e he ha => ?_; obtain ⟨⟨o, ho⟩, q⟩ := hco e he a ha; simp only [Cx.inner]; by_cases h : a ∈ own
     · rw [if_pos h]; exact ⟨o, ho⟩
     rw [if_neg h]; exact B1.caps a (q.resolve_left h)
   · rcases mSg ha with rfl
     refine x32 hns' fun o kq kq ho kq => ?_; exact ⟨o, ho⟩
   · refine x12 (B1.ledok p hp) fun o ho q => ?_; exact ⟨o, k2 _ _ ho, q⟩
   · rw [List.nodup_append]; refine ⟨List.nodup_cons.mpr ⟨by simp, .nil⟩, hB.2.1, fun x hx y hy e => ?_⟩; rcases mSg hx with rfl
     exact hf1.2.2 (List.mem_append.mpr (.inr (e ▸ hy)))
   rcases mAp ha with ha | ha
   · rcases mSg ha with rfl
     refine ⟨hf1.1, ?_⟩; simp only [Cx.inner]; rw [if_neg (fun h => hf1.2.2 (List.mem_append.mpr (.inl h)))]; exact hf1.2.1
   have := B1.out a (List.mem_append.mpr (.inr ha)); refine ⟨this.1, ?_⟩; simp only [Cx.inner]; rw [if_neg (fun h => hB.2.2 a h a ha rfl)]; exact this.2
 generalize hs2 : (⟨h', s1.gens, s1.drawn, s1.toks + 0, s1.os⟩ : Shared) = s2 at C; have ht2 : t0 ≤ s2.toks := by rw [← hs2, hs1']; exact ht
 have st2 : St wr 0 s2 := T.frame wr 0 s s2 hst (fun b kq o e => by rw [← hs2]; exact k2 _ _ (k1 _ _ e)) (fun b kq o e => by rw [← hs2]; exact k2 _ _ (k1 _ _ e)) (fun j x kq e => by rw [← hs2]; show s1.gens[j]? = _; rw [g1]; exact e)
 have p2 : Priv wr (c.inner own s1.heap (ce.filterMap (·.cel))) m [L] ((acc, au []) :: nw) := by
   have ex : ∀ b ∈ wr, ∃ o, s.heap.get? b = some o := T.live wr 0 s hst; refine ⟨p.m, fun b hb h => ?_, fun b hb => ?_⟩
   · obtain ⟨o, ho⟩ := ex b hb; rcases mAp h with h | h
     · rcases mSg h with rfl
       have := Heap.lt_size (k1 _ _ ho); rw [hL] at this; exact Nat.lt_irrefl _ this
     rw [ai] at h; rcases mCo h with rfl | h
     · have := Heap.lt_size ho; rw [hacc] at this; exact Nat.lt_irrefl _ this
     exact p.own b hb (List.mem_append.mpr (.inr h))
   simp only [Cx.inner]; rw [if_neg (fun h => p.own b hb (List.mem_append.mpr (.inl h)))]; exact p.old b hb
 have loop := loop (c.inner own s1.heap (ce.filterMap (·.cel))) _ L acc s2 ⟨rfl, rfl, rfl⟩ rfl ht2 C st2 p2 fun γ' m' ρ' xs nw' s' B' => B1.out1 B' rfl; exact codeAny_compStart_list loop (an (Q := fun it' s' => codeAny (model PG w) A (.compLoop (.ListComp elt (⟨target, iter, ifs, 0⟩ :: gens) scope pos) 0 it' (.ref acc) { (newEnv scope L env.globals (bc (fun n => env.cells.lookup n) scope.names []) env.qual none .none (some env) builtinsNs) with scope := relabel scope env }) (R (.ref acc) L) s') (T.self wr 0 s2 _ st2 loop) (fun kq kq q => q) fun kq kq x => x.elim)
theorem comp_core {t0 : Nat} {elt target iter : Expr} {ifs : List Expr} {scope : Scope} {pos : Pos} {I : Addr} {ns : List Str} {ce : List VE} {R : Value → Addr → Result → Shared → Prop}
   {fp wr : List Addr} {gw : Nat → Prop} {n : Nat} {V : VH} {St : List Addr → Nat → Shared → Prop}
   (B : Bd w c γ m env own ρ nw s) (T : Itr w A target I fp gw n V St) (Inv : Nat → List Value → Mp → List VE → Led → Prop)
   (ok : CompOk scope ns ce ρ)
   (hfp : ∀ b ∈ fp, ∃ o, m b = some o) (hgw : ∀ j, gw j → c.G[j]? = none) (ht : t0 ≤ s.toks) (hst : St wr 0 s) (p : Priv wr c m own nw)
   (turn : ∀ i v c1 cenv L acc γ m1 ρ' xs nw' s, i < n → t0 ≤ s.toks → EnvOf cenv (relabel scope env) L (bc (fun n => env.cells.lookup n) scope.names []) → Inv i xs m1 ρ' nw' → m.le m1 → V i v s.heap → Bd w c1 γ m1 cenv [L] ρ' ((acc, au xs) :: nw') s →
     wpAny (model PG w) A (assign target cenv v) (fun kq s₂ => wpAny (model PG w) A (bt ifs cenv) (fun ok s₃ =>
         if ok = true then wpAny (model PG w) A (eval elt cenv) (fun x s₄ => ∃ γ' m' ρ' nw', xs.length ≤ sizeLine ∧ Inv (i + 1) (xs ++ [x]) m' ρ' nw' ∧ m.le m' ∧ Bd w c1 γ' m' cenv [L] ρ' ((acc, au xs) :: nw') s₄) NoE s₃
         else ∃ γ' m' ρ' nw', Inv (i + 1) xs m' ρ' nw' ∧ m.le m' ∧ Bd w c1 γ' m' cenv [L] ρ' ((acc, au xs) :: nw') s₃) NoE s₂) NoE s)
   (h0 : Inv 0 [] m (ns.map (fun n => ⟨n, none, none⟩) ++ ce) nw)
   (fin : ∀ γ' m' ρ' xs nw' L acc s', Inv n xs m' ρ' nw' → m.le m' → Bd w c γ' m' env own ρ ((L, NsO) :: (acc, au xs) :: nw') s' → R (.ref acc) L (.ok .next) s') :
   wpAny (model PG w) A (newList []) (fun acc s₃ => wpAny (model PG w) A (newFunctionEnv scope env.globals (bc (fun n => env.cells.lookup n) scope.names []) [] env.qual none .none (some env)) (fun cenv s₄ =>
     codeAny (model PG w) A (.compStart (.ListComp elt [⟨target, iter, ifs, 0⟩] scope pos) 0 (.ref I) acc { cenv with scope := relabel scope env }) (R acc cenv.locals) s₄) NoE s₃) NoE s := by
 exact jB (t0 := t0) B T ok ht hst p fun c1 cenv L acc s2 hE hG ht2 C st2 p2 back => gI (t0 := t0) .one T Inv hfp (hG ▸ hgw) (fun i v c2 γ m ρ xs nw s hi htk hI hm hv B' kq => turn i v c2 _ L acc γ m ρ xs nw s hi htk hE hI hm hv B') (fun γ' m' ρ' xs nw' s' hI hm B' => fin γ' m' ρ' xs nw' L acc s' hI hm (back _ _ _ _ _ _ B')) h0 .rfl C ht2 st2 p2
end
end
section
theorem fK {a b : Nat} (h : ¬ a = b) : @Ne Addr a b := h
noncomputable def Src (w : World) (A : Around) (target : Expr) (c : Cx) (m : Mp) (own : List Addr) (nw : Led) (I : Addr) (n : Nat) (V : VH) (s : Shared) : Prop :=
 ∃ fp gw St wr, Itr w A target I fp gw n V St ∧ (∀ b ∈ fp, ∃ o, m b = some o) ∧ (∀ j, gw j → c.G[j]? = none) ∧ St wr 0 s ∧ Priv wr c m own nw
section
variable {w : World} {A : Around} {I : Addr} {fp wr : List Addr} {n : Nat}
theorem jV {x : Str} {p : Pos} {it v : Value} {M : Model} {Q : Unit → Shared → Prop} {E : VP} {s : Shared} (h : Q () s) : wpAny M A (letOwnedTupleGo (.Name x p) it v) Q E s := by
 unfold letOwnedTupleGo; exact wpAny_pure h
theorem Itr.ofW {x : Str} {p : Pos} {P : Nat → Value → Prop} {St : Nat → Heap → Prop} (W : Walks PG w A I fp wr n P St) (fk : List Addr) (hf : ∀ b ∈ fp, b ∈ wr ∨ b ∈ fk) (live : ∀ i h, St i h → ∀ b ∈ wr, ∃ o, h.get? b = some o) :
   Itr w A (.Name x p) I fk (fun kq => False) n (fun i v kq => P i v) (fun wr' i s => wr' = wr ∧ St i s.heap) where
 frame := fun wr' i s s' h k kw kq => ⟨h.1, W.frame i _ _ h.2 fun b hb o e => by
   rcases hf b hb with q | q
   · exact kw b (h.1 ▸ q) o e
   exact k b q o e⟩
 live := fun wr' i s h b hb => live i _ h.2 b (h.1 ▸ hb)
 item := fun wr' i s Q hi hst h => by
   obtain ⟨rfl, hst⟩ := hst; exact W.item i s _ _ hi hst fun v h' tk hP hst' k => jV (h v _ _ ⟨rfl, hst'⟩ (fun b hb => .inl hb) hP (.heap k))
 done := fun wr' s Q hst h => by
   obtain ⟨rfl, hst⟩ := hst; exact W.done s _ _ hst fun h' tk k => h _ (.heap k)
 self := fun wr' i s Q hst h => W.self i s _ _ hst.2 h
theorem Itr.ofU {elts : List Expr} {k : Nat} {p : Pos} {Pt : Nat → Array Value → Prop} {St : Nat → Heap → Prop} {Mid : Nat → Addr → Heap → Prop} (W : WalksU PG w A I fp wr n Pt St Mid) (wx fk : List Addr) (hw : ∀ b ∈ wr, b ∈ wx) (hf : ∀ b ∈ fp, b ∈ wx ∨ b ∈ fk) (live : ∀ i h, St i h → ∀ b ∈ wx, ∃ o, h.get? b = some o) :
   Itr w A (.Tuple elts k p) I fk (fun kq => False) n (fun i v h => ∃ T vals, v = .ref T ∧ Pt i vals ∧ h.IsTuple T vals) (fun wr' i s => wr' = wx ∧ St i s.heap) where
 frame := fun wr' i s s' h k kw kq => ⟨h.1, W.frame i _ _ h.2 fun b hb o e => by
   rcases hf b hb with q | q
   · exact kw b (h.1 ▸ q) o e
   exact k b q o e⟩
 live := fun wr' i s h b hb => live i _ h.2 b (h.1 ▸ hb)
 item := fun wr' i s Q hi hst h => by
   obtain ⟨rfl, hst⟩ := hst; exact W.item i s _ _ hi hst fun T vals h' tk hP hT hm kk => W.go elts k p i T _ _ _ hm fun h'' hst' kk' => h _ _ _ ⟨rfl, hst'⟩ (fun b hb => .inl hb) ⟨T, vals, rfl, hP, hT.at fun o e => kk' T o (W.apart _ _ _ hm) e⟩ (.heap fun b o hb e => kk' b o (fun q => hb (hw b q)) (kk b o (fun q => hb (hw b q)) e))
 done := fun wr' s Q hst h => by
   obtain ⟨rfl, hst⟩ := hst; exact W.done s _ _ hst fun h' tk k => h _ (.heap fun b o hb e => k b o (fun q => hb (hw b q)) e)
 self := fun wr' i s Q hst h => W.self i s _ _ hst.2 h
theorem Itr.list (hh : A.handled = none) {target : Expr} {l : Addr} (hne : l ≠ I) (vs : List Value) :
   Itr w A target I [l] (fun kq => False) vs.length (fun i v kq => vs[i]? = some v) (fun wr i s => wr = [I] ∧ s.heap.IsListIter I l i ∧ s.heap.IsList l vs.toArray) where
 frame := fun wr i s s' h k kw kq => ⟨h.1, (Walks.list (prog := PG) (w := w) hh I l hne vs.toArray).frame i _ _ h.2 fun b hb o e => by
   rcases mCo hb with rfl | hb
   · exact kw _ (by rw [h.1]; exact .head _) o e
   exact k b hb o e⟩
 live := fun wr i s h b hb => by
   obtain ⟨rfl, h, _⟩ := h; rcases mSg hb with rfl
   refine x12 h fun o ho kq => ?_; exact ⟨o, ho⟩
 item := fun wr i s Q hi hst h => by
   obtain ⟨rfl, hst⟩ := hst; exact (Walks.list (prog := PG) (w := w) hh I l hne vs.toArray).item i s _ _ (by simpa using hi) hst fun v h' tk hP hst' k => PyProof.Rows.letGo_listiter hst'.1 (h v _ _ ⟨rfl, hst'⟩ (fun b hb => .inl hb) (by simpa using hP) (.heap k))
 done := fun wr s Q hst h => by
   obtain ⟨rfl, hst⟩ := hst; exact (Walks.list (prog := PG) (w := w) hh I l hne vs.toArray).done s _ _ (by simpa using hst) fun h' tk k => h _ (.heap k)
 self := fun wr i s Q hst h => (Walks.list (prog := PG) (w := w) hh I l hne vs.toArray).self i s _ _ hst.2 h
end
section
variable {w : World} {c : Cx} {γ γ' : Array GenState} {m m' : Mp} {env cenv : Env} {own : List Addr} {ρ ρ' : List VE} {nw nw' : Led} {s s' : Shared} {A : Around} {E : VP}
theorem Bd.privOf {wr : List Addr} (B : Bd w c γ m env own ρ nw s) (h : ∀ b ∈ wr, s.heap.objs.size ≤ b) : Priv wr c m own nw := by
 have none_of : ∀ b, s.heap.objs.size ≤ b → s.heap.get? b = none := fun b hb => by
   cases e : s.heap.get? b with
   | none => rfl
   | some o => exact absurd (Heap.lt_size e) (Nat.not_lt.mpr hb)
 refine ⟨fun b hb => ?_, fun b hb hm => ?_, fun b hb => ?_⟩
 · cases e : m b with
   | none => rfl
   | some o => have := B.ok _ _ e; rw [none_of b (h b hb)] at this; cases this
 · rcases mAp hm with hm | hm
   · obtain ⟨o, ho⟩ := B.ownok b hm; rw [none_of b (h b hb)] at ho; cases ho
   obtain ⟨p, hp, rfl⟩ := mMa hm; refine x12 (B.ledok p hp) fun o ho kq => ?_; rw [none_of _ (h _ hb)] at ho; cases ho
 cases e : c.old b with
 | none => rfl
 | some o => have := B.old _ _ e; rw [none_of b (h b hb)] at this; cases this
theorem aC {l : Addr} {vs : List Value} {target : Expr} {Q : VP} (B : Bd w c γ m env own ρ nw s) (hh : A.handled = none) (hk : ∃ o, m l = some o ∧ au vs o)
   (h : ∀ I s', Bd w c γ m env own ρ nw s' → Src w A target c m own nw I vs.length (fun i v kq => vs[i]? = some v) s' → Q (.ref I) s') : wpAny (model PG w) A (pyIter (.ref l)) Q E s := by
 refine x12 hk fun o ho hP => ?_; have hl : s.heap.IsList l vs.toArray := At.list ⟨o, B.ok _ _ ho, hP⟩; refine wpAny_pyIter_list hl (h _ _ (B.grow (ar _)) ⟨[l], _, _, [s.heap.objs.size], Itr.list hh (Nat.ne_of_lt (Heap.lt_size (B.ok _ _ ho))) vs, fun b hb => ?_, fun kq h => h.elim, ⟨rfl, ⟨_, Heap.get?_push_size _ rfl, rfl, rfl⟩, hl.at fun o e => ar _ _ o e⟩, B.privOf fun b hb => by simp at hb; exact Nat.le_of_eq hb.symm⟩); rcases mSg hb with rfl
 exact ⟨o, ho⟩
theorem eH {l : Addr} {vs : List Value} {x : Str} {p : Pos} {Q : VP} (B : Bd w c γ m env own ρ nw s) (hh : A.handled = none) (hk : ∃ o, m l = some o ∧ ki vs o)
   (h : ∀ I s', Bd w c γ m env own ρ nw s' → Src w A (.Name x p) c m own nw I vs.length (fun i v kq => vs[i]? = some v) s' → Q (.ref I) s') : wpAny (model PG w) A (pyIter (.ref l)) Q E s := by
 refine x12 hk fun o ho hP => ?_; have hl : s.heap.IsTuple l vs.toArray := At.tup ⟨o, B.ok _ _ ho, hP⟩; have T := Itr.ofW (x := x) (p := p) (Walks.tuple (prog := PG) (w := w) hh s.heap.objs.size l (Nat.ne_of_lt (Heap.lt_size (B.ok _ _ ho))) vs.toArray) [l] (fun b hb => by simpa using hb) fun i h st b hb => by
   rcases mSg hb with rfl
   refine x12 st.1 fun o ho kq => ?_; exact ⟨o, ho⟩
 simp only [List.size_toArray, List.getElem?_toArray] at T; refine wpAny_pyIter_tuple hl (h _ _ (B.grow (ar _)) ⟨[l], _, _, _, T, fun b hb => ?_, fun kq h => h.elim, ⟨rfl, ⟨_, Heap.get?_push_size _ rfl, rfl, rfl⟩, hl.at fun o e => ar _ _ o e⟩, B.privOf fun b hb => by simp at hb; exact Nat.le_of_eq hb.symm⟩); rcases mSg hb with rfl
 exact ⟨o, ho⟩
theorem dT {a b : Int} (h : a ≤ b) : Builtin.Range.rangeSize a b 1 = b - a := by
 unfold Builtin.Range.rangeSize; split
 · rename_i h; simp at h; split <;> simp_all <;> exact a27 h (by assumption)
 simp_all
theorem bu {k : Nat} {t : Tok} {x : Str} {p : Pos} {Q : VP} (B : Bd w c γ m env own ρ nw s) (hh : A.handled = none) (hsm : Builtin.Range.small 0 k 1 = true)
   (h : ∀ I s', Bd w c γ m env own ρ nw s' → Src w A (.Name x p) c m own nw I k (fun i v kq => ∃ t, v = .int i t) s' → Q (.ref I) s') :
   wpAny (model PG w) A (call (.type "range") [.int k t]) (fun r s₁ => wpAny (model PG w) A (pyIter r) Q E s₁) E s := by
 refine call_range_1 (wpAny_pyIter_range (Heap.get?_push_size _ rfl) hsm ?_); have B1 : Bd w c γ m env own ρ nw ⟨s.heap.push { cls := .type "range", data := .fields #[.int 0 s.toks, .int k t, .int 1 (s.toks + 1)] }, s.gens, s.drawn, s.toks + 1 + 1, s.os⟩ := B.grow (ar _); generalize hs1 : (⟨s.heap.push { cls := .type "range", data := .fields #[.int 0 s.toks, .int k t, .int 1 (s.toks + 1)] }, s.gens, s.drawn, s.toks + 1 + 1, s.os⟩ : Shared) = s1 at *
 have hh1 : s1.heap = s.heap.push { cls := .type "range", data := .fields #[.int 0 s.toks, .int k t, .int 1 (s.toks + 1)] } := by rw [← hs1]
 have T := Itr.ofW (x := x) (p := p) (Walks.range (prog := PG) (w := w) hh s1.heap.objs.size 0 1 k) [] (fun b hb => .inl hb) fun i h st b hb => by
   rcases mSg hb with rfl
   exact ⟨_, st⟩
 simp only [Int.zero_add, Int.mul_one] at T; have := h s1.heap.objs.size ⟨s1.heap.push { cls := .type "range_iterator", data := .fields #[rawInt 0, rawInt (Builtin.Range.rangeSize 0 k 1), rawInt 1] }, s1.gens, s1.drawn, s1.toks, s1.os⟩ (B1.grow (ar _)) ⟨[], _, _, _, T, fun b hb => (nomatch hb), fun kq h => h.elim, ⟨rfl, ?_⟩, B1.privOf fun b hb => by simp at hb; first | exact Nat.le_of_eq hb.symm | (rcases hb with hb | hb <;> subst hb <;> first | exact Nat.le_refl _ | exact Nat.le_add_right _ _) | (rcases hb with hb | hb | hb | hb | hb <;> subst hb <;> first | exact Nat.le_refl _ | exact Nat.le_add_right _ _)⟩
 · subst hs1; exact this
 show (Heap.get? _ _) = _
 rw [show (⟨s1.heap.push { cls := .type "range_iterator", data := .fields #[rawInt 0, rawInt (Builtin.Range.rangeSize 0 k 1), rawInt 1] }, s1.gens, s1.drawn, s1.toks, s1.os⟩ : Shared).heap.get? s1.heap.objs.size = _ from Heap.get?_push_size _ rfl, dT (a12)]
 simp
theorem src_str {z : Str} {t : Tok} {x : Str} {p : Pos} {Q : VP} (B : Bd w c γ m env own ρ nw s) (hh : A.handled = none)
   (h : ∀ I s', Bd w c γ m env own ρ nw s' → Src w A (.Name x p) c m own nw I z.cps.size (fun i v kq => SignAt z i v) s' → Q (.ref I) s') : wpAny (model PG w) A (pyIter (.str z t)) Q E s := by
 refine wpAny_pyIter_strU (h _ _ (B.grow (ar _)) ?_); by_cases ha : z.cps.all (· < 128) = true
 · have e : strIterType z = "str_ascii_iterator" := by unfold strIterType; rw [if_pos ha]
   rw [e]; exact ⟨[], _, _, _, Itr.ofW (x := x) (p := p) (Walks.strAscii (prog := PG) (w := w) hh s.heap.objs.size z t) [] (fun b hb => .inl hb) (fun i h st b hb => by rcases mSg hb with rfl; refine x12 st fun o ho kq => ?_; exact ⟨o, ho⟩), fun b hb => (nomatch hb), fun kq h => h.elim, ⟨rfl, _, Heap.get?_push_size _ rfl, rfl, rfl⟩, B.privOf fun b hb => by simp at hb; first | exact Nat.le_of_eq hb.symm | (rcases hb with hb | hb <;> subst hb <;> first | exact Nat.le_refl _ | exact Nat.le_add_right _ _) | (rcases hb with hb | hb | hb | hb | hb <;> subst hb <;> first | exact Nat.le_refl _ | exact Nat.le_add_right _ _)⟩
 have e : strIterType z = "str_iterator" := by unfold strIterType; rw [if_neg ha]
 rw [e]; exact ⟨[], _, _, _, Itr.ofW (x := x) (p := p) (Walks.strWide (prog := PG) (w := w) hh s.heap.objs.size z t) [] (fun b hb => .inl hb) (fun i h st b hb => by rcases mSg hb with rfl; refine x12 st fun o ho kq => ?_; exact ⟨o, ho⟩), fun b hb => (nomatch hb), fun kq h => h.elim, ⟨rfl, _, Heap.get?_push_size _ rfl, rfl, rfl⟩, B.privOf fun b hb => by simp at hb; first | exact Nat.le_of_eq hb.symm | (rcases hb with hb | hb <;> subst hb <;> first | exact Nat.le_refl _ | exact Nat.le_add_right _ _) | (rcases hb with hb | hb | hb | hb | hb <;> subst hb <;> first | exact Nat.le_refl _ | exact Nat.le_add_right _ _)⟩
noncomputable def EnV (P : Nat → Value → Prop) (i : Nat) (v : Value) (h : Heap) : Prop := ∃ T t x, v = .ref T ∧ P i x ∧ h.IsTuple T #[.int i t, x]
theorem bJ {l : Addr} {vs : List Value} {elts : List Expr} {k : Nat} {p : Pos} {Q : VP} (B : Bd w c γ m env own ρ nw s) (hh : A.handled = none) (hk : ∃ o, m l = some o ∧ au vs o)
   (h : ∀ I s', Bd w c γ m env own ρ nw s' → Src w A (.Tuple elts k p) c m own nw I vs.length (EnV fun i x => vs[i]? = some x) s' → Q (.ref I) s') :
   wpAny (model PG w) A (call (.type "enumerate") [.ref l]) (fun r s₁ => wpAny (model PG w) A (pyIter r) Q E s₁) E s := by
 refine x12 hk fun o ho hP => ?_; have hl : s.heap.IsList l vs.toArray := At.list ⟨o, B.ok _ _ ho, hP⟩; have hlt : @LT.lt Nat _ l s.heap.objs.size := Heap.lt_size (B.ok _ _ ho); refine call_enumerate_list hl fun h' he hit hz hk => wpAny_pyIter_enum he (h _ _ (B.grow hk) ?_); have W := (WalksT.enumerate (prog := PG) (w := w) hh (s.heap.objs.size + 1) s.heap.objs.size l (fK (a24)) (fK (a26 hlt)) (fK (a25 hlt)) vs.toArray).toU; have T := Itr.ofU (elts := elts) (k := k) (p := p) W [s.heap.objs.size + 1, s.heap.objs.size] [l] (fun b hb => hb) (fun b hb => by simp at hb ⊢; rcases hb with q | q | q <;> simp [q]) fun i h st b hb => by
   obtain ⟨⟨old, e1⟩, ⟨o2, e2, _⟩, _⟩ := st; rcases mCo hb with rfl | hb
   · exact ⟨_, e1⟩
   rcases mSg hb with rfl
   exact ⟨_, e2⟩
 refine ⟨_, _, _, _, ⟨T.frame, T.live, fun wr i s Q hi hst h => T.item wr i s Q (by simpa using hi) hst fun v s' wr' a fr z1 d => by obtain ⟨T, vals, b1, ⟨t, x, b2, b3⟩, b4⟩ := z1; exact h v s' wr' a fr ⟨T, t, x, b1, by simpa using b2, b3 ▸ b4⟩ d, fun wr s Q hst h => T.done wr s Q (by simpa using hst) h, T.self⟩, fun b hb => ?_, fun kq h => h.elim, ⟨rfl, ⟨_, he⟩, hit, hl.at fun o e => hk _ o e⟩, B.privOf fun b hb => by simp at hb; rcases hb with hb | hb <;> subst hb <;> first | exact Nat.le_refl _ | exact Nat.le_add_right _ _⟩
 rcases mSg hb with rfl
 exact ⟨o, ho⟩
theorem src_enumS {z : Str} {t : Tok} {elts : List Expr} {k : Nat} {p : Pos} {Q : VP} (B : Bd w c γ m env own ρ nw s) (hh : A.handled = none)
   (h : ∀ I s', Bd w c γ m env own ρ nw s' → Src w A (.Tuple elts k p) c m own nw I z.cps.size (EnV (SignAt z)) s' → Q (.ref I) s') :
   wpAny (model PG w) A (call (.type "enumerate") [.str z t]) (fun r s₁ => wpAny (model PG w) A (pyIter r) Q E s₁) E s := by
 refine call_enumerate_str fun h' he hit hz hk => wpAny_pyIter_enum he (h _ _ (B.grow hk) ?_)
 have fin : ∀ (St : Nat → Heap → Prop), Draws PG w A.in1 s.heap.objs.size [s.heap.objs.size] z.cps.size (SignAt z) St → St 0 h' →
     Src w A (.Tuple elts k p) c m own nw (s.heap.objs.size + 1) z.cps.size (EnV (SignAt z)) ⟨h', s.gens, s.drawn, s.toks, s.os⟩ := fun St D hst => by
   have T := Itr.ofU (elts := elts) (k := k) (p := p) (WalksT.enumerateD D (s.heap.objs.size + 1) (fK (a24)) (by simp) (by simp)).toU [s.heap.objs.size + 1, s.heap.objs.size] [] (fun b hb => hb) (fun b hb => .inl hb) fun i h st b hb => by
     obtain ⟨⟨old, e1⟩, e2⟩ := st; rcases mCo hb with rfl | hb
     · exact ⟨_, e1⟩
     rcases mSg hb with rfl
     exact D.live _ _ e2
   exact ⟨_, _, _, _, ⟨T.frame, T.live, fun wr i s Q hi hst h => T.item wr i s Q hi hst fun v s' wr' a fr z1 d => by obtain ⟨T, vals, b1, ⟨t, x, b2, b3⟩, b4⟩ := z1; exact h v s' wr' a fr ⟨T, t, x, b1, b2, b3 ▸ b4⟩ d, T.done, T.self⟩, fun b hb => (nomatch hb), fun kq h => h.elim, ⟨rfl, ⟨_, he⟩, hst⟩, B.privOf fun b hb => by simp at hb; rcases hb with hb | hb <;> subst hb <;> first | exact Nat.le_refl _ | exact Nat.le_add_right _ _⟩
 by_cases ha : z.cps.all (· < 128) = true
 · have e : strIterType z = "str_ascii_iterator" := by unfold strIterType; rw [if_pos ha]
   rw [e] at hit; exact fin _ (Draws.strAscii (prog := PG) (w := w) (A := A.in1) hh s.heap.objs.size z t) hit
 have e : strIterType z = "str_iterator" := by unfold strIterType; rw [if_neg ha]
 rw [e] at hit; exact fin _ (Draws.strWide (prog := PG) (w := w) (A := A.in1) hh s.heap.objs.size z t) hit
theorem src_zip {l l' : Addr} {vs vs' : List Value} {elts : List Expr} {k : Nat} {p : Pos} {Q : VP} (B : Bd w c γ m env own ρ nw s) (hh : A.handled = none) (hk : ∃ o, m l = some o ∧ au vs o) (hk' : ∃ o, m l' = some o ∧ au vs' o)
   (h : ∀ I s', Bd w c γ m env own ρ nw s' → Src w A (.Tuple elts k p) c m own nw I (min vs.length vs'.length) (fun i v h => ∃ T x y, v = .ref T ∧ vs[i]? = some x ∧ vs'[i]? = some y ∧ h.IsTuple T #[x, y]) s' → Q (.ref I) s') :
   wpAny (model PG w) A (call (.type "zip") [.ref l, .ref l']) (fun r s₁ => wpAny (model PG w) A (pyIter r) Q E s₁) E s := by
 refine x12 hk fun o ho hP => ?_; refine x12 hk' fun o' ho' hP' => ?_; have hl : s.heap.IsList l vs.toArray := At.list ⟨o, B.ok _ _ ho, hP⟩; have hl' : s.heap.IsList l' vs'.toArray := At.list ⟨o', B.ok _ _ ho', hP'⟩; have hlt : @LT.lt Nat _ l s.heap.objs.size := Heap.lt_size (B.ok _ _ ho); have hlt' : @LT.lt Nat _ l' s.heap.objs.size := Heap.lt_size (B.ok _ _ ho'); refine call_zip_2 hl hl' fun h' hz hp1 hp2 hi1 hi2 hsz hk => wpAny_pyIter_zip hz (h _ _ (B.grow hk) ?_); have W := (WalksT.zip2 (prog := PG) (w := w) hh (s.heap.objs.size + 4) (s.heap.objs.size + 2) (s.heap.objs.size + 3) s.heap.objs.size (s.heap.objs.size + 1) l l' (by constructor <;> refine fK ?_ <;> (first | lia | omega)) vs.toArray vs'.toArray).toU
 have T := Itr.ofU (elts := elts) (k := k) (p := p) W ((s.heap.objs.size + 2) :: [s.heap.objs.size + 4, s.heap.objs.size + 3, s.heap.objs.size, s.heap.objs.size + 1]) [l, l'] (fun b hb => .tail _ hb) (fun b hb => by simp at hb ⊢; rcases hb with q | q | q | q | q | q | q <;> simp [q]) fun i h st b hb => by
   obtain ⟨e1, e2, ⟨x, y, e3⟩, ⟨_, e4, _⟩, ⟨_, e5, _⟩, _⟩ := st; rcases mCo hb with rfl | hb
   · exact ⟨_, e2⟩
   rcases mCo hb with rfl | hb
   · exact ⟨_, e1⟩
   rcases mCo hb with rfl | hb
   · exact ⟨_, e3⟩
   rcases mCo hb with rfl | hb
   · exact ⟨_, e4⟩
   rcases mCo hb with rfl | hb
   · exact ⟨_, e5⟩
   cases hb
 refine ⟨_, _, _, _, ⟨T.frame, T.live, fun wr i s Q hi hst h => T.item wr i s Q (by simpa using hi) hst fun v s' wr' a fr z1 d => by obtain ⟨T, vals, b1, ⟨x, y, b2, b3, b4⟩, b5⟩ := z1; exact h v s' wr' a fr ⟨T, x, y, b1, by simpa using b2, by simpa using b3, b4 ▸ b5⟩ d, fun wr s Q hst h => T.done wr s Q (by simpa using hst) h, T.self⟩, fun b hb => ?_, fun kq h => h.elim, ⟨rfl, hz, hp1, ⟨_, _, hp2⟩, hi1, hi2, hl.at fun o e => hk _ o e, hl'.at fun o e => hk _ o e⟩, B.privOf fun b hb => by simp at hb; rcases hb with hb | hb | hb | hb | hb <;> subst hb <;> first | exact Nat.le_refl _ | exact Nat.le_add_right _ _⟩
 rcases mCo hb with rfl | hb
 · exact ⟨_, ho⟩
 rcases mSg hb with rfl
 exact ⟨_, ho'⟩
end
end
section
inductive All2 {α β : Type} (R : α → β → Prop) : List α → List β → Prop
 | nil : All2 R [] []
 | cons {a b as bs} : R a b → All2 R as bs → All2 R (a :: as) (b :: bs)
theorem All2.append {α β : Type} {R : α → β → Prop} {as as' : List α} {bs bs' : List β} (x : All2 R as bs) (y : All2 R as' bs') : All2 R (as ++ as') (bs ++ bs') := by
 induction x with
 | nil => exact y
 | cons h _ ih => exact .cons h ih
theorem All2.length {α β : Type} {R : α → β → Prop} {as : List α} {bs : List β} (x : All2 R as bs) : as.length = bs.length := by
 induction x with
 | nil => rfl
 | cons _ _ ih => rw [List.length_cons, List.length_cons, ih]
theorem All2.imp {α β : Type} {R S : α → β → Prop} (f : ∀ a b, R a b → S a b) {as : List α} {bs : List β} (x : All2 R as bs) : All2 S as bs := by
 induction x with
 | nil => exact .nil
 | cons h _ ih => exact .cons (f _ _ h) ih
theorem All2.get {α β : Type} {R : α → β → Prop} {as : List α} {bs : List β} (x : All2 R as bs) {i : Nat} {a : α} (h : as[i]? = some a) : ∃ b, bs[i]? = some b ∧ R a b := by
 induction x generalizing i with
 | nil => simp at h
 | cons hr _ ih =>
   cases i with
   | zero => simp at h; subst h; exact ⟨_, rfl, hr⟩
   | succ i => exact ih (by simpa using h)
theorem All2.map_r {α β β' : Type} {R : α → β → Prop} {S : α → β' → Prop} {f : β → β'} (g : ∀ a b, R a b → S a (f b)) {as : List α} {bs : List β} (x : All2 R as bs) : All2 S as (bs.map f) := by
 induction x with
 | nil => exact .nil
 | cons h _ ih => exact .cons (g _ _ h) ih
noncomputable def cV (ρ : List VE) : List VE := ρ.map fun e => ⟨e.name, e.cel, if e.cel.isSome then e.val else none⟩
noncomputable def bB (w : World) (c : Cx) (env : Env) (own : List Addr) (ρ : List VE) (nw : Led) (m₀ : Mp) (P : Heap → Prop) (s : Shared) : Prop :=
 ∃ γ' m' ρ', m₀.le m' ∧ Kn m' P ∧ cV ρ' = cV ρ ∧ Bd w c γ' m' env own ρ' nw s
noncomputable def kj (w : World) (A : Around) (env : Env) (elt target iter : Expr) (ifs : List Expr) (scope : Scope) (pos : Pos) (use : Option (Value → Sem Unit)) (E : VP) (Q : VP) (it : Value) (s : Shared) : Prop :=
 wpAny (model PG w) A (newList []) (fun acc s₃ => wpAny (model PG w) A (newFunctionEnv scope env.globals (bc (fun n => env.cells.lookup n) scope.names []) [] env.qual none .none (some env)) (fun cenv s₄ =>
     codeAny (model PG w) A (.compStart (.ListComp elt [⟨target, iter, ifs, 0⟩] scope pos) 0 it acc { cenv with scope := relabel scope env }) (compPost (model PG w) A E use Q acc cenv.locals) s₄) NoE s₃) NoE s
section
variable {w : World} {c : Cx} {γ γ' : Array GenState} {m m' : Mp} {env cenv : Env} {own : List Addr} {ρ ρ' : List VE} {nw nw' : Led} {s s' : Shared} {A : Around} {E : VP}
theorem Bd.forget (B : Bd w c γ m env own ρ nw s) : Bd w c γ m env own (cV ρ) nw s := by
 have mem : ∀ e ∈ cV ρ, ∃ e' ∈ ρ, e = ⟨e'.name, e'.cel, if e'.cel.isSome then e'.val else none⟩ := fun e he => by
   obtain ⟨e', h, rfl⟩ := mMa he; exact ⟨e', h, rfl⟩
 have V := B.vars; refine ⟨B.old, B.ok, B.low, B.gr, B.ble, B.os, B.gens, B.gpre, B.bare, ⟨V.kind, V.glob, V.bltn, V.loc, ?_, fun e he hc => ?_, fun e he a ha => ?_, ?_, ?_⟩, fun e he a ha => ?_, B.caps, B.ownok, B.ledok, B.nodup, B.out⟩
 · obtain ⟨mp, hn, hm⟩ := V.ns; refine ⟨mp, hn, fun e he hc v hv => ?_⟩; obtain ⟨e', h, rfl⟩ := mem e he; simp only at hc hv; rw [hc] at hv; simp at hv
 · obtain ⟨e', h, rfl⟩ := mem e he; exact V.kl e' h hc
 · obtain ⟨e', h, rfl⟩ := mem e he; obtain ⟨y1, y2, y3, v, y4, y5⟩ := V.kc e' h a ha; refine ⟨y1, y2, y3, v, y4, fun u hu => ?_⟩; have : e'.cel.isSome = true := by have : e'.cel = some a := ha; rw [this]; rfl
   simp only [this, if_true] at hu; exact y5 u hu
 · rw [cV, List.map_map]; exact V.names
 · rw [cV, List.filterMap_map]; exact V.cels
 obtain ⟨e', h, rfl⟩ := mem e he; exact B.cin e' h a ha
theorem cC {scope : Scope} {ce : List VE} (B : Bd w c γ m env own ρ nw s) (hce : ∀ e ∈ ce, e ∈ ρ ∧ ∃ a, e.cel = some a) (hf : fe scope ce = true) : closureFor scope env = pure (bc (fun n => env.cells.lookup n) scope.names []) := by
 refine gK fun x hx hfr => ?_; have := List.all_eq_true.mp hf x hx; rw [hfr] at this; simp at this
 obtain ⟨e, he, hn⟩ := this; obtain ⟨h1, a, h2⟩ := hce e he; refine x03 (B.vars.kc e h1 a h2) fun kq y2 kq => ?_; exact ⟨a, by rw [← hn]; exact y2⟩
theorem lc_eval {elt target iter : Expr} {ifs : List Expr} {scope : Scope} {pos : Pos} {Q : VP} (B : Bd w c γ m env own ρ nw s) (ce : List VE)
   (hce : ∀ e ∈ ce, e ∈ ρ ∧ ∃ a, e.cel = some a) (hf : fe scope ce = true) (hk : scope.kind = .function) (hnm : (scope.names.all fun z => z.2 != .local || scope.names.lookup z.1 == some .local) = true)
   (h : wpAny (model PG w) A (eval iter env) (fun x s₁ => wpAny (model PG w) A (pyIter x) (fun it s₂ => kj w A env elt target iter ifs scope pos none E Q it s₂) NoE s₁) NoE s)
   (hs : ∀ x, foldedSetIterable iter env x = pure x := by intro _; rfl) : wpAny (model PG w) A (eval (.ListComp elt [⟨target, iter, ifs, 0⟩] scope pos) env) Q E s := by
 rw [eval_ListComp]; refine wpAny_comprehension_free (use := none) rfl hs (cC B hce hf) hk (fun z hz hl => ?_) (noE (an h (fun xv s₁ h₁ => noE (an h₁ (fun it s₂ h₂ => ?_) fun kq kq e => e)) fun kq kq e => e))
 · have := List.all_eq_true.mp hnm z hz; rw [hl] at this; simpa using this
 exact noE (an h₂ (fun kq kq h₃ => noE h₃) fun kq kq e => e)
theorem swaps_t {elt : Expr} {gens : List Comprehension} {scope : Scope} {pos : Pos} {y : Str} {py spos : Pos} (V : Vars env own s.heap ρ) (hy : env.kindOf y = some .local)
   (h : (py.line == (Expr.ListComp elt gens scope pos).pos.line && !(scope.names.any fun (n, k) => n == y && (k == .local || k == .cell))) = true) :
   swapsWith (.ListComp elt gens scope pos) (some (.Name y py)) spos.line env = pure true := by
 have hb : env.blockKind = .function := by unfold Env.blockKind; rw [V.kind]; rfl
 show (pure (env.blockKind == .function && env.kindOf y == some .local && py.line == (Expr.ListComp elt gens scope pos).pos.line && !(scope.names.any fun (n, k) => n == y && (k == .local || k == .cell))) : Sem Bool) = pure true
 rw [hb, hy, Bool.and_assoc, h]; rfl
theorem swaps_f {elt : Expr} {gens : List Comprehension} {scope : Scope} {pos : Pos} {y : Str} {py spos : Pos} {k : NameKind} (V : Vars env own s.heap ρ) (hy : env.kindOf y = some k) (hk : (k == .local) = false) :
   swapsWith (.ListComp elt gens scope pos) (some (.Name y py)) spos.line env = pure false := by
 show (pure (env.blockKind == .function && env.kindOf y == some .local && py.line == (Expr.ListComp elt gens scope pos).pos.line && !(scope.names.any fun (n, k) => n == y && (k == .local || k == .cell))) : Sem Bool) = pure false
 have : (some k == some NameKind.local) = false := by cases k <;> first | rfl | (exact absurd hk (by decide))
 rw [hy, this, Bool.and_false, Bool.false_and, Bool.false_and]
theorem lc_assign {elt target iter : Expr} {ifs : List Expr} {scope : Scope} {pos py spos : Pos} {y : Str} {Q : Flow → Shared → Prop} (B : Bd w c γ m env own ρ nw s) (ce : List VE)
   (hce : ∀ e ∈ ce, e ∈ ρ ∧ ∃ a, e.cel = some a) (hf : fe scope ce = true) (hk : scope.kind = .function) (hnm : (scope.names.all fun z => z.2 != .local || scope.names.lookup z.1 == some .local) = true)
   (hy : env.kindOf y = some .local) (hsw : (py.line == (Expr.ListComp elt [⟨target, iter, ifs, 0⟩] scope pos).pos.line && !(scope.names.any fun (n, k) => n == y && (k == .local || k == .cell))) = true)
   (h : wpAny (model PG w) A (eval iter env) (fun x s₁ => wpAny (model PG w) A (pyIter x) (fun it s₂ => kj w A env elt target iter ifs scope pos (some (assign (.Name y py) env)) E (fun kq s' => Q .next s') it s₂) NoE s₁) NoE s)
   (hs : ∀ x, foldedSetIterable iter env x = pure x := by intro _; rfl) : wpAny (model PG w) A (exec (.Assign [.Name y py] (.ListComp elt [⟨target, iter, ifs, 0⟩] scope pos) spos) env) Q E s := by
 rw [exec_Assign_Name_used _ _ _ _ (swaps_t B.vars hy hsw)]; refine aj (wpAny_standAt (aj ?_)); show wpAny _ A (do let _ ← comprehension (.ListComp elt [⟨target, iter, ifs, 0⟩] scope pos) scope env _ (newList []) false (eval iter env) (some (assign (.Name y py) env))) _ _ s
 refine aj (an (wpAny_comprehension_free (use := some (assign (.Name y py) env)) (Q := fun kq s' => Q .next s') rfl hs (cC B hce hf) hk (fun z hz hl => ?_)
   (noE (an h (fun xv s₁ h₁ => noE (an h₁ (fun it s₂ h₂ => ?_) fun kq kq e => e)) fun kq kq e => e))) (fun kq s' hq => wpAny_pure (wpAny_pure hq)) fun kq kq e => e)
 · have := List.all_eq_true.mp hnm z hz; rw [hl] at this; simpa using this
 exact noE (an h₂ (fun kq kq h₃ => noE h₃) fun kq kq e => e)
theorem d5 {elt : Expr} {gens : List Comprehension} {scope : Scope} {pos py spos : Pos} {y : Str} {k : NameKind} {Q : Flow → Shared → Prop} (B : Bd w c γ m env own ρ nw s)
   (hy : env.kindOf y = some k) (hk : (k == .local) = false)
   (h : wpAny (model PG w) A (eval (.ListComp elt gens scope pos) env) (fun v s₁ => wpAny (model PG w) A (storeName env y v) (fun kq => Q .next) E s₁) E s) :
   wpAny (model PG w) A (exec (.Assign [.Name y py] (.ListComp elt gens scope pos) spos) env) Q E s :=
 wpAny_Assign_Name h (swaps_f B.vars hy hk)
theorem aM {a : Addr} {h h' : Heap} (x : Heap.SameBut a h h') : ∀ b o, b ≠ a → h.get? b = some o → h'.get? b = some o := fun b o hb e => x.extBut b o hb e
section
variable {elt target iter : Expr} {ifs : List Expr} {scope : Scope} {pos : Pos} {I : Addr} {n : Nat} {V : VH}
theorem iM {t0 : Nat} {R : Value → Addr → Result → Shared → Prop} (B : Bd w c γ m env own ρ nw s) (T : Src w A target c m own nw I n V s) (ht : t0 ≤ s.toks) (ce : List VE) (ns : List Str) (p : Nat → Bool) (W : VH)
   (ok : CompOk scope ns ce ρ) (hz : n ≤ sizeLine)
   (turn : ∀ i v c1 cenv L γ m1 nw1 s, i < n → t0 ≤ s.toks → EnvOf cenv (relabel scope env) L (bc (fun n => env.cells.lookup n) scope.names []) → m.le m1 → V i v s.heap → (∀ q ∈ nw, q ∈ nw1) →
     Bd w c1 γ m1 cenv [L] (ns.map (fun n => ⟨n, none, none⟩) ++ ce) nw1 s →
     wpAny (model PG w) A (assign target cenv v) (fun kq s₂ => wpAny (model PG w) A (bt ifs cenv) (fun ok s₃ =>
         ok = p i ∧ if ok = true then wpAny (model PG w) A (eval elt cenv) (fun x s₄ => bB w c1 cenv [L] (ns.map (fun n => ⟨n, none, none⟩) ++ ce) nw1 m1 (W i x) s₄) NoE s₃
         else bB w c1 cenv [L] (ns.map (fun n => ⟨n, none, none⟩) ++ ce) nw1 m1 (fun kq => True) s₃) NoE s₂) NoE s)
   (fin : ∀ γ' m' xs L acc s', m.le m' → All2 (fun x i => Kn m' (W i x)) xs ((af n).filter p) → Bd w c γ' m' env own ρ ((L, NsO) :: (acc, au xs) :: nw) s' → R (.ref acc) L (.ok .next) s') :
   wpAny (model PG w) A (newList []) (fun acc s₃ => wpAny (model PG w) A (newFunctionEnv scope env.globals (bc (fun n => env.cells.lookup n) scope.names []) [] env.qual none .none (some env)) (fun cenv s₄ =>
     codeAny (model PG w) A (.compStart (.ListComp elt [⟨target, iter, ifs, 0⟩] scope pos) 0 (.ref I) acc { cenv with scope := relabel scope env }) (R acc cenv.locals) s₄) NoE s₃) NoE s := by
 refine x45 T fun fp gw St wr T hfp hgw hst hpr => ?_; have hforg : cV (ns.map (fun n => (⟨n, none, none⟩ : VE)) ++ ce) = ns.map (fun n => ⟨n, none, none⟩) ++ ce := by
   unfold cV; rw [List.map_append, List.map_map]; congr 1
   conv => rhs; rw [← List.map_id ce]
   refine List.map_congr_left fun e he => ?_; obtain ⟨_, a, ha⟩ := ok.hce e he; cases e with
   | mk nm cl vl => simp only at ha; subst ha; rfl
 refine comp_core (t0 := t0) (ns := ns) (ce := ce) B T (fun i xs m1 ρ' nw' => ρ' = ns.map (fun n => ⟨n, none, none⟩) ++ ce ∧ nw' = nw ∧ xs.length ≤ i ∧ All2 (fun x j => Kn m1 (W j x)) xs ((af i).filter p)) ok hfp hgw ht hst hpr ?_ ⟨rfl, rfl, Nat.zero_le _, .nil⟩ ?_
 · rintro i v c1 cenv L acc γ m1 ρ' xs nw' s hi htk hE ⟨rfl, rfl, hlen, hxs⟩ hm hv B; refine an (turn i v c1 cenv L γ m1 _ s hi htk hE hm hv (fun q hq => .tail _ hq) B) (fun kq s₂ h₂ => an h₂ (fun ok s₃ h₃ => ?_) fun kq kq e => e) fun kq kq e => e; obtain ⟨rfl, h₃⟩ := h₃; have hr : (af (i + 1)).filter p = (af i).filter p ++ if p i = true then [i] else [] := by
     rw [List.range_succ, List.filter_append]; congr 1
     rw [List.filter_cons]; split <;> simp
   by_cases hp : p i = true
   · rw [if_pos hp] at h₃ ⊢; refine an h₃ (fun x s₄ h₄ => ?_) fun kq kq e => e; refine x34 h₄ fun γ' m' ρ' h1 h2 h3 h4 => ?_; refine ⟨γ', m', _, nw', by exact a1 hz hi hlen, ⟨rfl, rfl, by simp; exact hlen, ?_⟩, hm.trans h1, by rw [← hforg, ← h3]; exact h4.forget⟩; rw [hr, if_pos hp]; exact (hxs.imp fun kq kq k => k.up h1).append (.cons h2 .nil)
   rw [if_neg hp] at h₃ ⊢; refine x34 h₃ fun γ' m' ρ' h1 h2 h3 h4 => ?_; refine ⟨γ', m', _, nw', ⟨rfl, rfl, by exact a0 hlen, ?_⟩, hm.trans h1, by rw [← hforg, ← h3]; exact h4.forget⟩; rw [hr, if_neg hp, List.append_nil]; exact hxs.imp fun kq kq k => k.up h1
 rintro γ' m' ρ' xs nw' L acc s' ⟨rfl, rfl, _, hxs⟩ hm B; exact fin γ' m' xs L acc s' hm hxs B
theorem lc_go {Q : VP} (B : Bd w c γ m env own ρ nw s) (T : Src w A target c m own nw I n V s) (ce : List VE) (ns : List Str) (p : Nat → Bool) (W : VH)
   (ok : CompOk scope ns ce ρ) (hz : n ≤ sizeLine)
   (turn : ∀ i v c1 cenv L γ m1 nw1 s, i < n → EnvOf cenv (relabel scope env) L (bc (fun n => env.cells.lookup n) scope.names []) → m.le m1 → V i v s.heap → (∀ q ∈ nw, q ∈ nw1) →
     Bd w c1 γ m1 cenv [L] (ns.map (fun n => ⟨n, none, none⟩) ++ ce) nw1 s →
     wpAny (model PG w) A (assign target cenv v) (fun kq s₂ => wpAny (model PG w) A (bt ifs cenv) (fun ok s₃ =>
         ok = p i ∧ if ok = true then wpAny (model PG w) A (eval elt cenv) (fun x s₄ => bB w c1 cenv [L] (ns.map (fun n => ⟨n, none, none⟩) ++ ce) nw1 m1 (W i x) s₄) NoE s₃
         else bB w c1 cenv [L] (ns.map (fun n => ⟨n, none, none⟩) ++ ce) nw1 m1 (fun kq => True) s₃) NoE s₂) NoE s)
   (fin : ∀ γ' m' xs a s', m.le m' → Kn m' (At a (au xs)) → All2 (fun x i => Kn m' (W i x)) xs ((af n).filter p) → Bd w c γ' m' env own ρ nw s' → Q (.ref a) s') :
   kj w A env elt target iter ifs scope pos none E Q (.ref I) s := by
 refine iM (t0 := 0) (R := fun acc C => compPost (model PG w) A E none Q acc C) B T (Nat.zero_le _) ce ns p W ok hz (fun i v c1 cenv L γ m1 nw1 s hi kq => turn i v c1 cenv L γ m1 nw1 s hi) fun γ' m' xs L acc s' hm hxs B' => ?_; obtain ⟨mp, hn⟩ := NsO.ns (B'.at (.head _)); refine ⟨mp, hn, fun h' hs => ?_⟩; have B2 : Bd w c γ' m' env own ρ ((acc, au xs) :: nw) ⟨h', s'.gens, s'.drawn, s'.toks, s'.os⟩ := B'.lose1 (aM hs); refine x13 B2.freeze fun m2 h1 h2 h3 => ?_; exact fin γ' m2 xs acc _ (hm.trans h1) h2 (hxs.imp fun kq kq k => k.up h1) h3
theorem lc_go_to {Q : VP} {y : Str} {py : Pos} (B : Bd w c γ m env own ρ nw s) (T : Src w A target c m own nw I n V s) (ce : List VE) (ns : List Str) (p : Nat → Bool) (W : VH)
   (ok : CompOk scope ns ce ρ) (hz : n ≤ sizeLine)
   (hput : Hn y none ρ)
   (turn : ∀ i v c1 cenv L γ m1 nw1 s, i < n → EnvOf cenv (relabel scope env) L (bc (fun n => env.cells.lookup n) scope.names []) → m.le m1 → V i v s.heap → (∀ q ∈ nw, q ∈ nw1) →
     Bd w c1 γ m1 cenv [L] (ns.map (fun n => ⟨n, none, none⟩) ++ ce) nw1 s →
     wpAny (model PG w) A (assign target cenv v) (fun kq s₂ => wpAny (model PG w) A (bt ifs cenv) (fun ok s₃ =>
         ok = p i ∧ if ok = true then wpAny (model PG w) A (eval elt cenv) (fun x s₄ => bB w c1 cenv [L] (ns.map (fun n => ⟨n, none, none⟩) ++ ce) nw1 m1 (W i x) s₄) NoE s₃
         else bB w c1 cenv [L] (ns.map (fun n => ⟨n, none, none⟩) ++ ce) nw1 m1 (fun kq => True) s₃) NoE s₂) NoE s)
   (fin : ∀ γ' m' xs a ρ' s', m.le m' → Kn m' (At a (au xs)) → All2 (fun x i => Kn m' (W i x)) xs ((af n).filter p) → PutV y none (.ref a) ρ ρ' → Bd w c γ' m' env own ρ' nw s' → Q .none s') :
   kj w A env elt target iter ifs scope pos (some (assign (.Name y py) env)) E Q (.ref I) s := by
 refine iM (t0 := 0) (R := fun acc C => compPost (model PG w) A E (some (assign (.Name y py) env)) Q acc C) B T (Nat.zero_le _) ce ns p W ok hz (fun i v c1 cenv L γ m1 nw1 s hi kq => turn i v c1 cenv L γ m1 nw1 s hi) fun γ' m' xs L acc s' hm hxs B' => ?_; show wpAny _ A (assign (.Name y py) env (.ref acc)) _ _ _
 refine ag (r_storeO B' hput (fun kq h => nomatch h) fun ρ' s'' hV B2 => ?_); obtain ⟨mp, hn⟩ := NsO.ns (B2.at (.head _)); refine ⟨mp, hn, fun h' hs => ?_⟩; have B3 := B2.lose1 (h' := h') (d := s''.drawn) (tk := s''.toks) (aM hs); refine x13 B3.freeze fun m2 h1 h2 h3 => ?_; exact fin γ' m2 xs acc ρ' _ (hm.trans h1) h2 (hxs.imp fun kq kq k => k.up h1) hV h3
end
theorem bQ {Q : Bool → Shared → Prop} (h : Q true s) : wpAny (model PG w) A (bt [] env) Q E s := wpAny_pure h
theorem tests_one {e : Expr} {Q : Bool → Shared → Prop} (h : wpAny (model PG w) A (isTrue e env (eval e env)) Q E s) : wpAny (model PG w) A (bt [e] env) Q E s := by
 unfold bt; rw [List.forIn_cons]; refine aj ?_; rw [if_pos rfl]; refine aj (an h (fun b s₁ q => wpAny_pure ?_) fun kq kq e => e); exact wpAny_pure q
theorem bA {elts : List Expr} {k : Nat} {p : Pos} {T : Addr} {vals : Array Value} {Q : Unit → Shared → Prop} (B : Bd w c γ m env own ρ nw s) (hh : A.handled = none) (ht : s.heap.IsTuple T vals) (hn : (assignEach elts env).length = vals.size) (hstar : (assignEach elts env).findIdx? (·.1) = none)
   (h : ∀ s', Bd w c γ m env own ρ nw s' → wpAny (model PG w) A (assignInOrder ((assignEach elts env).map (·.2)) vals.toList) Q E s') : wpAny (model PG w) A (assign (.Tuple elts k p) env (.ref T)) Q E s := by
 refine wpAny_assign_Tuple hh ht hn hstar fun h' he => h _ (B.grow fun a o e => he a o (Nat.ne_of_lt (Heap.lt_size e)) e)
theorem as_list {elts : List Expr} {k : Nat} {p : Pos} {T : Addr} {vs : List Value} {Q : Unit → Shared → Prop} (B : Bd w c γ m env own ρ nw s) (hh : A.handled = none) (ht : At T (au vs) s.heap) (hn : (assignEach elts env).length = vs.length) (hstar : (assignEach elts env).findIdx? (·.1) = none)
   (h : ∀ s', Bd w c γ m env own ρ nw s' → wpAny (model PG w) A (assignInOrder ((assignEach elts env).map (·.2)) vs) Q E s') : wpAny (model PG w) A (assign (.Tuple elts k p) env (.ref T)) Q E s := by
 rw [arm_assign_Tuple]; refine aj (wpAny_standAt ?_); unfold unpack; rw [hn, hstar]; have hl := ht.list; have := kun_itemsOf (prog := PG) (w := w) (A := A) (E := E) (s := s) (Q := fun vs s => wpAny (model PG w) A (assignInOrder ((assignEach elts env).map (·.2)) vs) Q E s) hh hl fun h' he => by
   have := h _ (B.grow (h' := h') (d := s.drawn) (t := s.toks) fun a o e => he a o (Nat.ne_of_lt (Heap.lt_size e)) e); simpa using this
 simp only [List.size_toArray] at this; exact aj (wpAny_holding this)
theorem Bd.ko {a : Addr} {P : Obj → Prop} (B : Bd w c γ m env own ρ nw s) (k : Kn m (At a P)) : ∃ o, m a = some o ∧ P o := by
 cases e : m a with
 | some o =>
   refine x12 (k _ B.ok) fun o' ho' hP => ?_; have := B.ok a o e; rw [ho'] at this; cases this
   exact ⟨_, rfl, hP⟩
 | none =>
   exfalso
   have hA := k ⟨s.heap.objs.setIfInBounds a ⟨.none, none, .freed, #[]⟩, s.heap.life⟩ (fun b o hb => by
     have hne : b ≠ a := fun q => by rw [q, e] at hb; cases hb
     have := B.ok b o hb; unfold Heap.get? at this ⊢; simp only [Array.getElem?_setIfInBounds_ne (Ne.symm hne)]; exact this)
   refine x12 hA fun o ho kq => ?_; unfold Heap.get? at ho; simp only [Array.getElem?_setIfInBounds_self] at ho; split at ho
   · cases ho
   split at ho
   · rename_i q h
     rw [if_pos h] at q; exact q _ _ _ rfl
   simp_all
end
end
section
noncomputable def initC (names : List (Str × NameKind)) (ns cn : List Str) (binds : List (Str × Value)) (L : Addr) : List VE :=
 ns.map (fun n => ⟨n, none, bindL (fun x => names.lookup x) binds (fun kq => none) n⟩) ++ cn.map (fun n => ⟨n, (cellsFrom (L + 1) names []).lookup n, bindC (fun x => names.lookup x) binds (fun kq => none) n⟩)
section
variable {w : World} {m : Mp} {nw : Led} {s : Shared} {A : Around} {E : VP} {Q : VP}
theorem enterCF {d u : Nat} {f : Addr} {vals : List Value} {oc : Value} {od : Option Addr} {osl : Array (Option Value)} {fd : FuncData} {body : List Stmt} {binds : List (Str × Value)} {ns cn : List Str} {ρ₀ : Addr → List VE} {own₀ : Addr → List Addr}
   (R : Rm A (d + 1) (u + 3)) (b : Bef w m s) (l : LedOk m s nw)
   (ho : (KH w.params).lookup f = some ⟨oc, od, .func fd, osl⟩) (hcd : codeIn (KH w.params) fd.code fd.qualname = true) (hbody : fd.body = .stmts body)
   (hbind : bindArgs fd ⟨vals, []⟩ = pure binds) (hcl : fd.closure = []) (hgl : fd.globals = mainGlobals) (hbl : fd.builtins = builtinsNs) (hco : fd.scope.isCoroutine = false) (hgen : fd.scope.isGenerator = false) (hk : fd.scope.kind = .function)
   (hkind : (binds.all fun x => fd.scope.names.lookup x.1 == some .local || (fd.scope.names.lookup x.1 == some .cell && cn.contains x.1)) = true)
   (hns : (ns.all fun n => fd.scope.names.lookup n == some .local) = true) (hcn : (cn.all fun n => fd.scope.names.lookup n == some .cell) = true) (hnd : (ns ++ cn).Nodup)
   (hown : ∀ L, L :: cn.filterMap (fun n => (cellsFrom (L + 1) fd.scope.names []).lookup n) = own₀ L) (hlen : ∀ L, (own₀ L).length = cn.length + 1) (hρ : ∀ L, initC fd.scope.names ns cn binds L = ρ₀ L)
   (h : ∀ (A' : Around) (env : Env) (L : Addr) (c : Cx) (s' : Shared), A' = A.deeper env → env.frame = some L → EnvOf env fd.scope L (cellsFrom (L + 1) fd.scope.names []) → Rm A' d u → c = ⟨Mp.of s.heap (nw.map (·.1)), [], m, s.gens, s.os⟩ → Bd w c s.gens m env (own₀ L) (ρ₀ L) nw s' → (∀ a o, s.heap.get? a = some o → a < L) →
     wpAny (model PG w) A' (execs body env) (fun fl s' => Q (match fl with | .ret v => v | _ => .none) s') (fun kq kq => False) s') :
   wpAny (model PG w) A (call (.ref f) vals) Q E s := by
 have G := b.gr _ b.ok; have full : ∀ L, ∀ n ∈ cn, ((cellsFrom (L + 1) fd.scope.names []).lookup n).isSome = true := fun L n hn => by
   have h1 := hlen L; rw [← hown L, List.length_cons] at h1; have : ∀ l : List Str, (l.filterMap (fun n => (cellsFrom (L + 1) fd.scope.names []).lookup n)).length ≤ l.length := fun l => List.length_filterMap_le _ _; have go : ∀ l : List Str, (l.filterMap (fun n => (cellsFrom (L + 1) fd.scope.names []).lookup n)).length = l.length → ∀ n ∈ l, ((cellsFrom (L + 1) fd.scope.names []).lookup n).isSome = true := by
     intro l; induction l with
     | nil => intro _ n hn; cases hn
     | cons x r ih =>
       intro he n hn; rw [List.filterMap_cons] at he; cases hx : (cellsFrom (L + 1) fd.scope.names []).lookup x with
       | none =>
         rw [hx] at he; have := this r; simp only [List.length_cons] at he; (first | lia | omega)
       | some c =>
         rw [hx] at he; rcases mCo hn with rfl | hn
         · rw [hx]; rfl
         exact ih (by simpa using he) n hn
   exact go cn (by (first | lia | omega)) n hn
 refine wpAny_call (codeAny_call_cells (fd := fd) (body := body) (binds := binds) (by have := R.depth; exact a2 this) (G.k _ _ ho) rfl G.nolim (codeRec_of G.k hcd) hbody hbind hcl ?_ (fun s₁ X => ?_) hco hgen hk)
 · intro x hx; have := List.all_eq_true.mp hkind x hx; simp only [Bool.or_eq_true, Bool.and_eq_true, beq_iff_eq] at this; rcases this with h | ⟨h, hc⟩
   · exact .inl h
   exact .inr ⟨h, full _ _ (by simpa using hc)⟩
 obtain ⟨⟨⟨h', tk, e⟩, hns₁, hk₁, hfr⟩, hcell, hap, hab⟩ := X; generalize hL : s.heap.objs.size = L at *
 refine an (h _ (callEnvC fd L f) L _ s₁ rfl rfl ⟨rfl, rfl, rfl⟩ R.deeper rfl ?_ fun a o e => hL ▸ Heap.lt_size e) (fun kq kq q => q) (fun kq kq x => x.elim); have old_get : ∀ a o, (Mp.of s.heap (nw.map (·.1))) a = some o → s.heap.get? a = some o := fun a o e => (Mp.of_get e).1; have fresh : ∀ a : Addr, L ≤ a → s.heap.get? a = none := fun a ha => by
   cases e : s.heap.get? a with
   | none => rfl
   | some o => exact absurd (Heap.lt_size e) (Nat.not_lt.mpr (by rw [hL]; exact ha))
 have e1 : s₁.os = s.os := by rw [e]
 have e2 : s₁.gens = s.gens := by rw [e]
 have mem : ∀ x ∈ initC fd.scope.names ns cn binds L, (∃ n ∈ ns, x = ⟨n, none, bindL (fun x => fd.scope.names.lookup x) binds (fun kq => none) n⟩) ∨ (∃ n ∈ cn, x = ⟨n, (cellsFrom (L + 1) fd.scope.names []).lookup n, bindC (fun x => fd.scope.names.lookup x) binds (fun kq => none) n⟩) := fun x hx => by
   rcases mAp hx with hx | hx
   · obtain ⟨n, hn, rfl⟩ := mMa hx; exact .inl ⟨n, hn, rfl⟩
   obtain ⟨n, hn, rfl⟩ := mMa hx; exact .inr ⟨n, hn, rfl⟩
 have cok : ∀ n c, (cellsFrom (L + 1) fd.scope.names []).lookup n = some c → s₁.heap.IsCell c (bindC (fun x => fd.scope.names.lookup x) binds (fun kq => none) n) ∧ L < c := fun n c hc => ⟨hcell n c hc, hab n c (mem_of_lookup hc)⟩; have nd2 := hnd; rw [List.nodup_append] at nd2; have cnd : (cn.filterMap fun n => (cellsFrom (L + 1) fd.scope.names []).lookup n).Nodup := by
   have : ∀ l : List Str, l.Nodup → (l.filterMap fun n => (cellsFrom (L + 1) fd.scope.names []).lookup n).Nodup := by
     intro l; induction l with
     | nil => intro _; exact .nil
     | cons x r ih =>
       intro hl; rw [List.filterMap_cons]; cases hx : (cellsFrom (L + 1) fd.scope.names []).lookup x with
       | none => exact ih (List.nodup_cons.mp hl).2
       | some c =>
         refine List.nodup_cons.mpr ⟨fun hm => ?_, ih (List.nodup_cons.mp hl).2⟩; refine x12 (List.mem_filterMap.mp hm) fun y hy hyc => ?_; have := name_of_addr hap (mem_of_lookup hx) (mem_of_lookup hyc); exact (List.nodup_cons.mp hl).1 (this ▸ hy)
   exact this cn nd2.2.1
 have ownge : ∀ a ∈ own₀ L, L ≤ a ∧ ∃ o, s₁.heap.get? a = some o := fun a ha => by
   rw [← hown L] at ha; rcases mCo ha with rfl | ha
   · refine x32 hns₁ fun o kq kq ho' kq => ?_; exact ⟨Nat.le_refl _, o, ho'⟩
   refine x12 (List.mem_filterMap.mp ha) fun n hn hc => ?_; obtain ⟨⟨o, ho, _⟩, hlt⟩ := cok n a hc; exact ⟨Nat.le_of_lt hlt, o, ho⟩
 refine ⟨fun a o e => hk₁ a o (old_get a o e), fun a o e => hk₁ a o (b.ok a o e), fun kq kq kq => rfl, b.gr, .rfl, e1, e2, fun kq kq e => e, b.bare, ?_, ?_, fun kq h => (nomatch h), ?_, ?_, ?_, ?_⟩
 · rw [← hρ L]; refine ⟨hk, hgl, hbl, ?_, ⟨_, hns₁, fun x hx hc v hv => ?_⟩, fun x hx hc => ?_, fun x hx c hc => ?_, ?_, ?_⟩
   · rw [← hown L]; exact .head _
   · rcases mem x hx with ⟨n, hn, rfl⟩ | ⟨n, hn, rfl⟩
     · exact hv
     have := full L n hn; simp only at hc; rw [hc] at this; cases this
   · rcases mem x hx with ⟨n, hn, rfl⟩ | ⟨n, hn, rfl⟩
     · have := List.all_eq_true.mp hns n hn; show fd.scope.names.lookup n = _
       simpa using this
     have := full L n hn; simp only at hc; rw [hc] at this; cases this
   · rcases mem x hx with ⟨n, hn, rfl⟩ | ⟨n, hn, rfl⟩
     · cases hc
     have hkd := List.all_eq_true.mp hcn n hn; obtain ⟨h1, h2⟩ := cok n c hc; refine ⟨.inl (show fd.scope.names.lookup n = _ by simpa using hkd), hc, fun q => ?_, _, h1, fun u hu => hu⟩
     have : c = L := q; rw [this] at h2; exact Nat.lt_irrefl _ h2
   · unfold initC; rw [List.map_append, List.map_map, List.map_map]; show ((ns.map fun n => n) ++ (cn.map fun n => n)).Nodup
     rw [List.map_id', List.map_id']; exact hnd
   unfold initC; rw [List.filterMap_append, List.filterMap_map, List.filterMap_map]; have e : (ns.filterMap ((fun (e : VE) => e.cel) ∘ fun n => (⟨n, none, bindL (fun x => fd.scope.names.lookup x) binds (fun kq => none) n⟩ : VE))) = [] := by
     rw [List.filterMap_eq_nil_iff]; intro a _; rfl
   rw [e, List.nil_append]; exact cnd
 · rw [← hρ L]; intro x hx a ha; rcases mem x hx with ⟨n, hn, rfl⟩ | ⟨n, hn, rfl⟩
   · cases ha
   left
   rw [← hown L]; exact .tail _ (List.mem_filterMap.mpr ⟨n, hn, ha⟩)
 · exact fun a ha => (ownge a ha).2
 · intro p hp; refine x12 (l.ok p hp) fun o ho' q => ?_; exact ⟨o, hk₁ _ _ ho', q⟩
 · rw [List.nodup_append]; refine ⟨?_, l.nodup, fun x hx y hy e => ?_⟩
   · rw [← hown L]; refine List.nodup_cons.mpr ⟨fun hm => ?_, cnd⟩; refine x12 (List.mem_filterMap.mp hm) fun n hn hc => ?_; exact Nat.lt_irrefl _ (cok n L hc).2
   subst e; refine x12 (mMa hy) fun p hp e => ?_; refine x12 (l.ok p hp) fun o ho' kq => ?_; rw [e, fresh x (ownge x hx).1] at ho'; cases ho'
 intro a ha; rcases mAp ha with ha | ha
 · refine ⟨?_, ?_⟩
   · cases e : m a with
     | none => rfl
     | some o => have := b.ok _ _ e; rw [fresh a (ownge a ha).1] at this; cases this
   show (Mp.of s.heap (nw.map (·.1))) a = none
   cases e : (Mp.of s.heap (nw.map (·.1))) a with
   | none => rfl
   | some o => have := old_get _ _ e; rw [fresh a (ownge a ha).1] at this; cases this
 obtain ⟨p, hp, rfl⟩ := mMa ha; exact ⟨l.out p hp, Mp.of_none (List.mem_map_of_mem hp)⟩
theorem fj {d u : Nat} {f : Addr} {vals : List Value} {oc : Value} {od : Option Addr} {osl : Array (Option Value)} {fd : FuncData} {body : List Stmt} {binds : List (Str × Value)} {ns cn : List Str} {ρ₀ : Addr → List VE} {own₀ : Addr → List Addr}
   (R : Rm A (d + 1) (u + 3)) (b : Bef w m s) (l : LedOk m s nw)
   (ho : (KH w.params).lookup f = some ⟨oc, od, .func fd, osl⟩) (hcd : codeIn (KH w.params) fd.code fd.qualname = true) (hbody : fd.body = .stmts body)
   (hbind : bindArgs fd ⟨vals, []⟩ = pure binds) (hcl : fd.closure = []) (hgl : fd.globals = mainGlobals) (hbl : fd.builtins = builtinsNs) (hco : fd.scope.isCoroutine = false) (hgen : fd.scope.isGenerator = false) (hk : fd.scope.kind = .function)
   (hkind : (binds.all fun x => fd.scope.names.lookup x.1 == some .local || (fd.scope.names.lookup x.1 == some .cell && cn.contains x.1)) = true)
   (hns : (ns.all fun n => fd.scope.names.lookup n == some .local) = true) (hcn : (cn.all fun n => fd.scope.names.lookup n == some .cell) = true) (hnd : (ns ++ cn).Nodup)
   (hown : ∀ L, L :: cn.filterMap (fun n => (cellsFrom (L + 1) fd.scope.names []).lookup n) = own₀ L) (hlen : ∀ L, (own₀ L).length = cn.length + 1) (hρ : ∀ L, initC fd.scope.names ns cn binds L = ρ₀ L)
   (h : ∀ (A' : Around) (env : Env) (L : Addr) (c : Cx) (s' : Shared), EnvOf env fd.scope L (cellsFrom (L + 1) fd.scope.names []) → Rm A' d u → c = ⟨Mp.of s.heap (nw.map (·.1)), [], m, s.gens, s.os⟩ → Bd w c s.gens m env (own₀ L) (ρ₀ L) nw s' → (∀ a o, s.heap.get? a = some o → a < L) →
     wpAny (model PG w) A' (execs body env) (fun fl s' => Q (match fl with | .ret v => v | _ => .none) s') (fun kq kq => False) s') :
   wpAny (model PG w) A (call (.ref f) vals) Q E s := by
 refine enterCF R b l ho hcd hbody hbind hcl hgl hbl hco hgen hk hkind hns hcn hnd hown hlen hρ fun A' env L c s' kq kq h1 h2 h3 h4 h5 => h A' env L c s' h1 h2 h3 h4 h5
end
end
section
noncomputable def LI (a : Addr) (ns : List Int) (h : Heap) : Prop := ∃ vs, At a (au vs) h ∧ IntsAre vs ns
noncomputable def LS (a : Addr) (ys : List Str) (h : Heap) : Prop := ∃ vs, At a (au vs) h ∧ StrsAre vs ys
noncomputable def Live (a : Addr) (h : Heap) : Prop := ∃ o, h.get? a = some o
theorem bz {vs : List Value} {ns : List Int} (h : IntsAre vs ns) : ∀ {i : Nat} {v : Value}, vs[i]? = some v → ∃ n t, ns[i]? = some n ∧ v = .int n t := by
 induction h with
 | nil => intro i v h; simp at h
 | cons n t r ih =>
   intro i v h; cases i with
   | zero => simp at h; exact ⟨n, t, rfl, h.symm⟩
   | succ i => simpa using ih (i := i) (by simpa using h)
theorem ints_get' {vs : List Value} {ns : List Int} (h : IntsAre vs ns) : ∀ {i : Nat} {n : Int}, ns[i]? = some n → ∃ t, vs[i]? = some (.int n t) := by
 induction h with
 | nil => intro i v h; simp at h
 | cons n t r ih =>
   intro i v h; cases i with
   | zero => simp at h; exact ⟨t, by simp [h]⟩
   | succ i => simpa using ih (i := i) (by simpa using h)
theorem aV {vs : List Value} {ns : List Str} (h : StrsAre vs ns) : ∀ {i : Nat} {v : Value}, vs[i]? = some v → ∃ n t, ns[i]? = some n ∧ v = .str n t := by
 induction h with
 | nil => intro i v h; simp at h
 | cons n t r ih =>
   intro i v h; cases i with
   | zero => simp at h; exact ⟨n, t, rfl, h.symm⟩
   | succ i => simpa using ih (i := i) (by simpa using h)
theorem dk {vs : List Value} {ns : List Str} (h : StrsAre vs ns) : ∀ {i : Nat} {n : Str}, ns[i]? = some n → ∃ t, vs[i]? = some (.str n t) := by
 induction h with
 | nil => intro i v h; simp at h
 | cons n t r ih =>
   intro i v h; cases i with
   | zero => simp at h; exact ⟨t, by simp [h]⟩
   | succ i => simpa using ih (i := i) (by simpa using h)
theorem aF {vs : List Value} {ns : List Int} (h : IntsAre vs ns) : vs.length = ns.length := by
 induction h with
 | nil => rfl
 | cons n t r ih => exact congrArg (· + 1) ih
theorem gB {vs vs' : List Value} {ns ns' : List Int} (h : IntsAre vs ns) (k : IntsAre vs' ns') : IntsAre (vs ++ vs') (ns ++ ns') := by
 induction h with
 | nil => exact k
 | cons n t r ih => exact .cons n t ih
theorem ax {vs : List Value} {ns : List Str} (h : StrsAre vs ns) : vs.length = ns.length := by
 induction h with
 | nil => rfl
 | cons n t r ih => exact congrArg (· + 1) ih
theorem bG {vs vs' : List Value} {ns ns' : List Str} (h : StrsAre vs ns) (k : StrsAre vs' ns') : StrsAre (vs ++ vs') (ns ++ ns') := by
 induction h with
 | nil => exact k
 | cons n t r ih => exact .cons n t ih
section
variable {w : World} {c : Cx} {γ γ' : Array GenState} {m m' : Mp} {env cenv : Env} {own : List Addr} {ρ ρ' : List VE} {nw nw' : Led} {s s' : Shared} {A : Around} {E : VP}
theorem Bd.kl {a : Addr} (B : Bd w c γ m env own ρ nw s) (k : Kn m (Live a)) : ∃ o, m a = some o ∧ s.heap.get? a = some o := by
 refine x12 (B.ko (P := fun kq => True) (k.map fun h z1 => by obtain ⟨o, e⟩ := z1; exact ⟨o, e, trivial⟩)) fun o h kq => ?_; exact ⟨o, h, B.ok _ _ h⟩
theorem Bd.koI {a : Addr} {ns : List Int} (B : Bd w c γ m env own ρ nw s) (k : Kn m (LI a ns)) : ∃ vs, (∃ o, m a = some o ∧ au vs o) ∧ IntsAre vs ns := by
 refine x12 (B.kl (k.map fun h z1 => by obtain ⟨vs, ⟨o, ho, _⟩, _⟩ := z1; exact ⟨o, ho⟩)) fun o h1 h2 => ?_; obtain ⟨vs, ⟨o', h3, h4⟩, h5⟩ := B.kn k; rw [h2] at h3; cases h3
 exact ⟨vs, ⟨o, h1, h4⟩, h5⟩
theorem Bd.koS {a : Addr} {ns : List Str} (B : Bd w c γ m env own ρ nw s) (k : Kn m (LS a ns)) : ∃ vs, (∃ o, m a = some o ∧ au vs o) ∧ StrsAre vs ns := by
 refine x12 (B.kl (k.map fun h z1 => by obtain ⟨vs, ⟨o, ho, _⟩, _⟩ := z1; exact ⟨o, ho⟩)) fun o h1 h2 => ?_; obtain ⟨vs, ⟨o', h3, h4⟩, h5⟩ := B.kn k; rw [h2] at h3; cases h3
 exact ⟨vs, ⟨o, h1, h4⟩, h5⟩
theorem Bd.ints {xs : List Value} {is : List Nat} {f : Nat → Int} (B : Bd w c γ m env own ρ nw s) (h : All2 (fun x i => Kn m (fun kq => ∃ t, x = .int (f i) t)) xs is) : IntsAre xs (is.map f) := by
 induction h with
 | nil => exact .nil
 | cons h _ ih => obtain ⟨t, rfl⟩ := B.kn h; exact .cons _ _ ih
theorem Bd.strs {xs : List Value} {is : List Nat} {f : Nat → Str} (B : Bd w c γ m env own ρ nw s) (h : All2 (fun x i => Kn m (fun kq => ∃ t, x = .str (f i) t)) xs is) : StrsAre xs (is.map f) := by
 induction h with
 | nil => exact .nil
 | cons h _ ih => obtain ⟨t, rfl⟩ := B.kn h; exact .cons _ _ ih
theorem fu {P : Heap → Prop} {m₀ : Mp} (B : Bd w c γ m env own ρ nw s) (hm : m₀.le m) (hP : Kn m P) (hf : cV ρ = cV ρ') : bB w c env own ρ' nw m₀ P s := ⟨γ, m, ρ, hm, hP, hf, B⟩
theorem Slice_ {lower upper : Option Expr} {p : Pos} {Q : VP} {M : Model}
   (h : wpAny M A (evalPart lower env) (fun l s₁ => wpAny M A (evalPart upper env) (fun u s₂ => Q (.ref s₂.heap.objs.size) { s₂ with heap := s₂.heap.push { cls := .type "slice", data := .fields #[l, u, .none] } }) E s₁) E s) :
   wpAny M A (eval (.Slice lower upper none p) env) Q E s :=
 wpAny_Slice (an h (fun kq kq q => an q (fun kq kq q => wpAny_evalPart_none q) fun kq kq x => x) fun kq kq x => x)
theorem cy {value slice : Expr} {x : Str} {t : Tok} {vl vu : Value} {lo hi : Option Int} {Q : VP} (B : Bd w c γ m env own ρ nw s) (pl : IsPart vl lo) (pu : IsPart vu hi)
   (h : ∀ t' s', Bd w c γ m env own ρ nw s' → Q (.str (Txt.slice x lo hi) t') s') (hz : x.length ≤ sizeLine)
   (hs : subscripted slice false (.str x t) (.ref s.heap.objs.size) = operate [.ref s.heap.objs.size, .str x t] (getItem (.str x t) (.ref s.heap.objs.size)) := by with_unfolding_all rfl)
   (ht : ∀ r, letTemporaryGo value (.str x t) r = pure () := by intro _; with_unfolding_all rfl) :
   wpAny (model PG w) A (subscriptTail value slice (.str x t) (.ref s.heap.objs.size)) Q E { s with heap := s.heap.push { cls := .type "slice", data := .fields #[vl, vu, .none] } } := by
 have fin : ItemOn (model PG w) A E (.str x t) (.ref s.heap.objs.size) Q { s with heap := s.heap.push { cls := .type "slice", data := .fields #[vl, vu, .none] } } := by
   have hk : KeptH fun h' => ∀ a o, s.heap.get? a = some o → h'.get? a = some o := fun h' ob k a o e => Heap.get?_push_of_some _ (k a o e); cases pl with
   | none =>
     cases pu with
     | none => exact SBH.sliceItem_nn hk (fun kq kq e => e) (fun h' t' k k' => h t' _ (B.grow k')) hz
     | int i u => exact SBH.sliceItem_ns hk (fun kq kq e => e) (fun h' t' k k' => h t' _ (B.grow k')) hz
   | int i u =>
     cases pu with
     | none => exact SBH.sliceItem_sn hk (fun kq kq e => e) (fun h' t' k k' => h t' _ (B.grow k')) hz
     | int i u => exact SBH.sliceItem_ss hk (fun kq kq e => e) (fun h' t' k k' => h t' _ (B.grow k')) hz
 refine x23 fin fun T id h1 h2 h3 => ?_; exact subscriptTail_ops h2 h1 h3 hs ht
theorem gY {value slice : Expr} {x : Str} {t : Tok} {i : Int} {u : Tok} {Q : VP} (B : Bd w c γ m env own ρ nw s) (h0 : -(x.length : Int) ≤ i) (h1 : i < x.length) (hf : fitsSsize i = true)
   (h : ∀ t' s', Bd w c γ m env own ρ nw s' → Q (.str (Txt.item x i) t') s')
   (hs : subscripted slice false (.str x t) (.int i u) = operate [.str x t, .int i u] (getItem (.str x t) (.int i u)) := by with_unfolding_all rfl)
   (ht : ∀ r, letTemporaryGo value (.str x t) r = pure () := by intro _; with_unfolding_all rfl) :
   wpAny (model PG w) A (subscriptTail value slice (.str x t) (.int i u)) Q E s := item_str hf h0 h1 (fun kq => h _ _ (B.tk _ _)) hs ht
theorem aT {value slice : Expr} {a : Addr} {vs : List Value} {i : Int} {u : Tok} {v : Value} {Q : VP} (hl : At a (au vs) s.heap) (h0 : 0 ≤ i) (hz : i < 2 ^ 63) (hv : vs[i.toNat]? = some v) (h : Q v s)
   (hs : subscripted slice false (.ref a) (.int i u) = operate [.ref a, .int i u] (getItem (.ref a) (.int i u)) := by with_unfolding_all rfl) :
   wpAny (model PG w) A (subscriptTail value slice (.ref a) (.int i u)) Q E s := item_listR hl.list h0 hz (by simpa using hv) h hs
theorem s_mul {x : Str} {n : Int} {t u : Tok} {Q : VP} (B : Bd w c γ m env own ρ nw s) (ho : MulOk x n) (h : ∀ t s', Bd w c γ m env own ρ nw s' → Q (.str (Txt.mul x n) t) s') :
   wpAny (model PG w) A (binaryOp .Mult (.str x t) (.int n u)) Q E s := SB.mul ho fun t' k => h _ _ (B.tk _ _)
theorem fh {i : Int} (h0 : -1000000 ≤ i) (h1 : i ≤ 1000000) : fitsSsize i = true := by
 unfold fitsSsize; have a : decide (i < -(2 ^ 63 : Int)) = false := decide_eq_false (a9 h0); have b : decide (i ≥ (2 ^ 63 : Int)) = false := decide_eq_false (a8 h1); rw [a, b]; rfl
theorem jp {x : Str} {i : Int} : (Txt.item x i).length = 1 := rfl
theorem aq {x y : Str} : (x ++ y).length = x.length + y.length := by
 show (x.cps ++ y.cps).size = _
 rw [Array.size_append]; rfl
theorem t_item {value slice : Expr} {a : Addr} {vs : List Value} {i : Int} {u : Tok} {v : Value} {Q : VP} (hl : s.heap.IsTuple a vs.toArray) (h0 : 0 ≤ i) (hz : i < 2 ^ 63) (hv : vs[i.toNat]? = some v) (h : Q v s)
   (hs : subscripted slice false (.ref a) (.int i u) = operate [.ref a, .int i u] (getItem (.ref a) (.int i u)) := by with_unfolding_all rfl)
   (ht : ∀ r, letTemporaryGo value (.ref a) r = pure () := by intro _; with_unfolding_all rfl) :
   wpAny (model PG w) A (subscriptTail value slice (.ref a) (.int i u)) Q E s := by
 have hlt : i.toNat < vs.length := by
   rw [List.getElem?_eq_some_iff] at hv; exact hv.1
 refine item_tuple (j := i.toNat) hl (a7 h0) hz ?_ (by simpa using hv) h hs ht; unfold seqIndex?; simp only [List.size_toArray]; have e : i = (i.toNat : Int) := a6 h0
 rw [e]; split <;> rename_i hh
 · (first | lia | omega)
 first | rfl | (simp; exact a5 hlt)
theorem bx {value slice : Expr} {l : Addr} {vs : List Value} {vl vu : Value} {lo hi : Option Int} {Q : VP} (B : Bd w c γ m env own ρ nw s) (hl : At l (au vs) s.heap) (pl : IsPart vl lo) (pu : IsPart vu hi)
   (h : ∀ a m' s', m.le m' → Kn m' (At a (au (slicePick vs.toArray lo hi none).toList)) → Bd w c γ m' env own ρ nw s' → Q (.ref a) s') (hz : vs.length ≤ sizeLine)
   (hs : subscripted slice false (.ref l) (.ref s.heap.objs.size) = operate [.ref s.heap.objs.size, .ref l] (getItem (.ref l) (.ref s.heap.objs.size)) := by with_unfolding_all rfl)
   (ht : ∀ r, letTemporaryGo value (.ref l) r = pure () := by intro _; with_unfolding_all rfl) :
   wpAny (model PG w) A (subscriptTail value slice (.ref l) (.ref s.heap.objs.size)) Q E { s with heap := s.heap.push { cls := .type "slice", data := .fields #[vl, vu, .none] } } := by
 have hl' := hl.list
 refine subscriptTail_ops (Heap.IsList.typeIs (s := { s with heap := s.heap.push { cls := .type "slice", data := .fields #[vl, vu, .none] } }) (hl'.push _)) list_getitem_lookup
   (wpAny_getItem_list_slice (hl'.push _) (Heap.IsSliceOf.new ..) pl pu .none (by simp) ?_ (by simpa using hz)) hs ht
 have B1 : Bd w c γ m env own ρ nw ⟨s.heap.push { cls := .type "slice", data := .fields #[vl, vu, .none] }, s.gens, s.drawn, s.toks, s.os⟩ := B.grow (ar _); exact h _ _ _ (B1.freshLe _) (fun kq ok => ⟨_, ok _ _ Mp.put_self, _, rfl⟩) (B1.pushK rfl)
theorem gf {x y : Str} {t u : Tok} {Q : VP} (B : Bd w c γ m env own ρ nw s) (hy : (y.length == 0) = false)
   (hz : x.length ≤ sizeLine) (hz2 : (Builtin.Str.partsBetween x (Builtin.Str.occurrences x y 0 x.length (x.length + 1)) y.length).length ≤ sizeLine)
   (h : ∀ a m' s', m.le m' → Kn m' (LS a (Txt.split x y)) → Bd w c γ m' env own ρ nw s' → Q (.ref a) s') : wpAny (model PG w) A (call (.builtin "str.split") [.str x t, .str y u]) Q E s := by
 have fin : ∀ (l : List (Str × Tok)) (k : Nat), l.map (·.1) = Txt.split x y → Q (.ref s.heap.objs.size) ⟨s.heap.push { cls := .type "list", data := .seq (strValues l).toArray }, s.gens, s.drawn, k, s.os⟩ := fun l k hl => by
   refine h _ _ _ (B.freshLe _) (fun hp ok => ⟨strValues l, ⟨_, ok _ _ Mp.put_self, _, rfl⟩, ?_⟩) (B.pushK rfl); rw [← hl]; clear hl ok; induction l with
   | nil => exact .nil
   | cons p r ih => exact .cons p.1 p.2 ih
 cases h1 : (decide (x.length < y.length) || decide (Builtin.Str.strKind x < Builtin.Str.strKind y))
 · cases hf : (Builtin.Str.occurrences x y 0 x.length (x.length + 1)).isEmpty
   · refine call_meets F.slot_str_split (typeIs_str _ _ _) F.entry_str_split (F.args_str_split_2 _ _) (meets_str_split_sep x y t u h1 hy hf hz hz2) ?_; show wants Q E _ { s with toks := _, heap := s.heap.push { cls := .type "list", data := .seq (strsFrom s.toks (Builtin.Str.partsBetween x (Builtin.Str.occurrences x y 0 x.length (x.length + 1)) y.length)).toArray } }
     rw [strsFrom_eq]; exact fin (numbered s.toks _) _ ((numbered_texts _ _).trans ((if_neg (ne_true_of_eq_false h1)).trans (if_neg (ne_true_of_eq_false hf))).symm)
   exact call_meets F.slot_str_split (typeIs_str _ _ _) F.entry_str_split (F.args_str_split_2 _ _) (meets_str_split_not_found x y t u h1 hy hf) (fin [(x, t)] _ ((if_neg (ne_true_of_eq_false h1)).trans (if_pos hf)).symm)
 exact call_meets F.slot_str_split (typeIs_str _ _ _) F.entry_str_split (F.args_str_split_2 _ _) (meets_str_split_cannot_occur x y t u h1) (fin [(x, t)] _ (if_pos h1).symm)
theorem dp {x : Str} {t : Tok} {D : Addr} {vs : List Value} {ys : List Str} {Q : VP} (B : Bd w c γ m env own ρ nw s) (hl : At D (au vs) s.heap) (hs : StrsAre vs ys) (hz : (ys.map (·.length)).sum + ys.length * x.length ≤ 16777216)
   (h : ∀ t s', Bd w c γ m env own ρ nw s' → Q (.str (Txt.join x ys) t) s') : wpAny (model PG w) A (call (.builtin "str.join") [.str x t, .ref D]) Q E s :=
 join_list hl.list (by simpa using hs) hz fun t' k => h _ _ (B.tk _ _)
theorem gm_append {l : Addr} {vs : List Value} {pl : Sem Bool} {Q : Value × List Value → Shared → Prop} (hl : At l (au vs) s.heap) (h : Q (.builtin "list.append", [.ref l]) s) : wpAny (model PG w) A (getMethod (.ref l) (aa "append") pl) Q E s := by
 obtain ⟨n, ho⟩ := hl.plain; exact Calls.getMethod_list_append ho rfl rfl h
theorem s_len {x : Str} {t : Tok} {Q : VP} (B : Bd w c γ m env own ρ nw s) (hz : x.length ≤ sizeLine) (h : ∀ t s', Bd w c γ m env own ρ nw s' → Q (.int x.length t) s') : wpAny (model PG w) A (call (.builtin "len") [.str x t]) Q E s :=
 PyProof.Rows.len_str (by rw [sizeLine_eq] at hz; exact a4 hz) (h _ _ (B.tk _ _))
theorem gv {l : Addr} {vs : List Value} {Q : VP} (B : Bd w c γ m env own ρ nw s) (hl : At l (au vs) s.heap) (hz : vs.length ≤ sizeLine) (h : ∀ t s', Bd w c γ m env own ρ nw s' → Q (.int vs.length t) s') : wpAny (model PG w) A (call (.builtin "len") [.ref l]) Q E s := by
 refine PyProof.Rows.len_list hl.list (by rw [sizeLine_eq] at hz; simp; exact a3 hz) ?_; simpa using h _ _ (B.tk _ _)
end
end
section
section
variable {w : World} {c : Cx} {γ γ' : Array GenState} {m m' : Mp} {env cenv : Env} {own : List Addr} {ρ ρ' : List VE} {nw nw' : Led} {s s' : Shared} {A : Around} {E : VP}
theorem for_goE {target : Expr} {I : Addr} {body orelse : List Stmt} {n : Nat} {V : VH} {Q : Flow → Shared → Prop} (B : Bd w c γ m env own ρ nw s) (T : Src w A target c m own nw I n V s) (Inv : Nat → Mp → List VE → Led → Prop)
   (h0 : Inv 0 m ρ nw)
   (turn : ∀ i v c1 γ m1 ρ nw s, i < n → Inv i m1 ρ nw → m.le m1 → V i v s.heap → Bd w c1 γ m1 env own ρ nw s → (∀ γ m ρ nw s, Bd w c1 γ m env own ρ nw s → Bd w c γ m env own ρ nw s) →
     wpAny (model PG w) A (assign target env v) (fun kq s₂ => wpAny (model PG w) A (execs body env) (fun f s₃ => match f with
       | .next => ∃ γ' m' ρ' nw', Inv (i + 1) m' ρ' nw' ∧ m1.le m' ∧ Bd w c1 γ' m' env own ρ' nw' s₃
       | .cont => ∃ γ' m' ρ' nw', Inv (i + 1) m' ρ' nw' ∧ m1.le m' ∧ Bd w c1 γ' m' env own ρ' nw' s₃
       | .brk => Q .next s₃
       | .ret v => Q (.ret v) s₃) (notedBy (model PG w) A env (cameBackBy (model PG w) A env E)) s₂) NoE s)
   (fin : ∀ γ m' ρ nw s, Inv n m' ρ nw → m.le m' → Bd w c γ m' env own ρ nw s → wpAny (model PG w) A (execs orelse env) Q NoE s) :
   codeAny (model PG w) A (.forLoop target (.ref I) body orelse env) (fun r s' => match r with | .ok f => Q f s' | .error e => cameBackBy (model PG w) A env E e s') s := by
 refine x45 T fun fp gw St wr T hfp hgw hst p => ?_; refine codeAny_forLoop_any (fun k s => Sit w c env own m n St 0 Inv k s) (fun k s hS => ?_) n (.mk wr 0 γ m ρ nw rfl (Nat.zero_le _) (Nat.zero_le _) h0 .rfl B hst p); refine noE (an (gz T hfp hgw hS (Y := fun v s₂ => wpAny (model PG w) A (assign target env v) (fun kq s₂ => wpAny (model PG w) A (execs body env) (fun f s₃ => match f with
       | .next => ∃ k', k' < k ∧ Sit w c env own m n St 0 Inv k' s₃
       | .cont => ∃ k', k' < k ∧ Sit w c env own m n St 0 Inv k' s₃
       | .brk => Q .next s₃
       | .ret v => Q (.ret v) s₃) (notedBy (model PG w) A env (cameBackBy (model PG w) A env E)) s₂) NoE s₂) ?_ fin) (fun r s₁ h => ?_) fun kq kq x => x)
 · intro i v c1 γ m1 ρ nw s' hlt _ hI hm hv B back tail; refine an (turn i v c1 γ m1 ρ nw s' hlt hI hm hv B back) (fun kq s₂ h2 => an h2 (fun f s₃ h3 => ?_) fun kq kq x => x) fun kq kq x => x; cases f with
   | next => refine x43 h3 fun γ' m' ρ' nw' hI' hm' B₃ => ?_; exact tail _ _ _ _ s₃ (Nat.zero_le _) hI' (hm.trans hm') B₃
   | cont => refine x43 h3 fun γ' m' ρ' nw' hI' hm' B₃ => ?_; exact tail _ _ _ _ s₃ (Nat.zero_le _) hI' (hm.trans hm') B₃
   | brk => exact h3
   | ret v => exact h3
 cases r with
 | none => exact noE h
 | some v =>
   refine noE (an h (fun kq s₂ h2 => noE (an h2 (fun kq s₃ h3 => an h3 (fun f s₄ h4 => ?_) fun kq kq x => x) fun kq kq x => x)) fun kq kq x => x); cases f <;> exact h4
theorem for_goC {target : Expr} {I : Addr} {body orelse : List Stmt} {n : Nat} {V : VH} {Q : Flow → Shared → Prop} (B : Bd w c γ m env own ρ nw s) (T : Src w A target c m own nw I n V s) (Inv : Nat → Mp → List VE → Led → Prop)
   (h0 : Inv 0 m ρ nw)
   (turn : ∀ i v c1 γ m1 ρ nw s, i < n → Inv i m1 ρ nw → m.le m1 → V i v s.heap → Bd w c1 γ m1 env own ρ nw s → (∀ γ m ρ nw s, Bd w c1 γ m env own ρ nw s → Bd w c γ m env own ρ nw s) →
     ∀ Qb : Flow → Shared → Prop, (∀ f s₃, (match f with
       | .next => ∃ γ' m' ρ' nw', Inv (i + 1) m' ρ' nw' ∧ m1.le m' ∧ Bd w c1 γ' m' env own ρ' nw' s₃
       | .cont => ∃ γ' m' ρ' nw', Inv (i + 1) m' ρ' nw' ∧ m1.le m' ∧ Bd w c1 γ' m' env own ρ' nw' s₃
       | .brk => Q .next s₃
       | .ret v => Q (.ret v) s₃) → Qb f s₃) →
     wpAny (model PG w) A (assign target env v) (fun kq s₂ => wpAny (model PG w) A (execs body env) Qb NoE s₂) NoE s)
   (fin : ∀ γ m' ρ nw s, Inv n m' ρ nw → m.le m' → Bd w c γ m' env own ρ nw s → wpAny (model PG w) A (execs orelse env) Q NoE s) :
   codeAny (model PG w) A (.forLoop target (.ref I) body orelse env) (fun r s' => match r with | .ok f => Q f s' | .error e => cameBackBy (model PG w) A env E e s') s :=
 for_goE B T Inv h0 (fun i v c1 γ m1 ρ nw s hi hI hm hv B hb => an (turn i v c1 γ m1 ρ nw s hi hI hm hv B hb _ fun kq kq x => x) (fun kq kq h => noE h) fun kq kq x => x) fin
theorem Bd.inter (B : Bd w c γ m env own ρ nw s) : interactive env = false := by
 unfold interactive; rw [B.vars.kind]; rfl
end
end
section
section
variable {x y : Str} {k k' : Option Addr} {v : Value} {u : Option Value} {ρ ρ' ρ₁ ρ₂ : List VE}
theorem PutV.new (p : PutV x k v ρ ρ') : (⟨x, k, some v⟩ : VE) ∈ ρ' := by
 induction p with
 | head => exact .head _
 | tail _ ih => exact .tail _ ih
theorem PutV.keep (p : PutV x k v ρ ρ') (hn : (y == x) = false) (h : (⟨y, k', u⟩ : VE) ∈ ρ) : (⟨y, k', u⟩ : VE) ∈ ρ' := by
 induction p with
 | head =>
   rcases mCo h with e | h
   · cases e; simp at hn
   exact .tail _ h
 | tail _ ih =>
   rcases mCo h with e | h
   · exact e ▸ .head _
   exact .tail _ (ih h)
theorem PutV.has (p : PutV x k v ρ ρ') (h : Hn y k' ρ) : Hn y k' ρ' := by
 induction p with
 | head =>
   obtain ⟨u, h⟩ := h; rcases mCo h with e | h
   · cases e; exact ⟨_, .head _⟩
   exact ⟨u, .tail _ h⟩
 | tail _ ih =>
   obtain ⟨u, h⟩ := h; rcases mCo h with e | h
   · exact ⟨u, e ▸ .head _⟩
   obtain ⟨u, h⟩ := ih ⟨u, h⟩; exact ⟨u, .tail _ h⟩
structure Ow (W : List Str) (ρ ρ' : List VE) : Prop where
 keep' : ∀ {x k u}, W.contains x = false → (⟨x, k, u⟩ : VE) ∈ ρ → (⟨x, k, u⟩ : VE) ∈ ρ'
 has' : ∀ {x k}, Hn x k ρ → Hn x k ρ'
variable {W W' : List Str}
theorem Ow.keep (o : Ow W ρ ρ') (hn : W.contains x = false) (h : (⟨x, k, u⟩ : VE) ∈ ρ) : (⟨x, k, u⟩ : VE) ∈ ρ' := o.keep' hn h
theorem Ow.has (o : Ow W ρ ρ') (h : Hn x k ρ) : Hn x k ρ' := o.has' h
theorem Ow.rfl : Ow W ρ ρ := ⟨fun kq h => h, fun h => h⟩
theorem Ow.put (o : Ow W ρ ρ₁) (p : PutV x k v ρ₁ ρ₂) (hx : W.contains x = true) : Ow W ρ ρ₂ :=
 ⟨fun {y k' u} hn h => p.keep (by
   cases e : y == x with
   | false => exact Eq.refl _
   | true => rw [eq_of_beq e, hx] at hn; cases hn) (o.keep hn h), fun h => p.has (o.has h)⟩
theorem Ow.trans (o : Ow W ρ ρ₁) (p : Ow W' ρ₁ ρ₂) (hx : W'.all W.contains = true) : Ow W ρ ρ₂ :=
 ⟨fun {y k' u} hn h => p.keep (by
   cases e : W'.contains y with
   | false => exact Eq.refl _
   | true => rw [List.all_eq_true.mp hx y (by simpa using e)] at hn; cases hn) (o.keep hn h), fun h => p.has (o.has h)⟩
end
section
variable {w : World} {c : Cx} {γ γ' : Array GenState} {m m' : Mp} {env cenv : Env} {own : List Addr} {ρ ρ' : List VE} {nw nw' : Led} {s s' : Shared} {A : Around} {E : VP}
noncomputable def Back (w : World) (c1 c : Cx) (env : Env) (own : List Addr) : Prop := ∀ γ m ρ nw s, Bd w c1 γ m env own ρ nw s → Bd w c γ m env own ρ nw s
theorem Back.go {c1 : Cx} (b : Back w c1 c env own) (B : Bd w c1 γ m env own ρ nw s) : Bd w c γ m env own ρ nw s := b _ _ _ _ _ B
theorem fg {target : Expr} {I : Addr} {body orelse : List Stmt} {n : Nat} {V : VH} {Q : Flow → Shared → Prop} {σ : Type} {x₀ : σ} (f : σ → Led) (B : Bd w c γ m env own ρ (f x₀) s) (T : Src w A target c m own (f x₀) I n V s) (W : List Str) (P : Nat → Mp → List VE → σ → Prop)
   (h0 : P 0 m ρ x₀)
   (turn : ∀ i v c1 γ m1 ρ1 s x, i < n → Ow W ρ ρ1 → P i m1 ρ1 x → m.le m1 → V i v s.heap → Bd w c1 γ m1 env own ρ1 (f x) s → Back w c1 c env own →
     ∀ Qb : Flow → Shared → Prop, (∀ γ' m' ρ' s₃ x', Ow W ρ ρ' → P (i + 1) m' ρ' x' → m1.le m' → Bd w c1 γ' m' env own ρ' (f x') s₃ → Qb .next s₃) → (∀ s₃, Q .next s₃ → Qb .brk s₃) → (∀ v s₃, Q (.ret v) s₃ → Qb (.ret v) s₃) →
     wpAny (model PG w) A (assign target env v) (fun kq s₂ => wpAny (model PG w) A (execs body env) Qb NoE s₂) NoE s)
   (fin : ∀ γ m' ρ' s x, Ow W ρ ρ' → P n m' ρ' x → m.le m' → Bd w c γ m' env own ρ' (f x) s → wpAny (model PG w) A (execs orelse env) Q NoE s) :
   codeAny (model PG w) A (.forLoop target (.ref I) body orelse env) (fun r s' => match r with | .ok f => Q f s' | .error e => cameBackBy (model PG w) A env E e s') s := by
 refine for_goC B T (fun i m1 ρ1 nw1 => Ow W ρ ρ1 ∧ ∃ x, nw1 = f x ∧ P i m1 ρ1 x) ⟨.rfl, _, rfl, h0⟩ ?_ ?_
 · rintro i v c1 γ m1 ρ1 _ s hi ⟨ho, x, rfl, hP⟩ hm hv B hb Qb hq; exact turn i v c1 γ m1 ρ1 s x hi ho hP hm hv B hb Qb (fun γ' m' ρ' s₃ x' a b c d => hq .next s₃ ⟨γ', m', ρ', _, ⟨a, x', rfl, b⟩, c, d⟩) (fun s₃ h => hq .brk s₃ h) fun v s₃ h => hq (.ret v) s₃ h
 rintro γ m' ρ1 _ s ⟨ho, x, rfl, hP⟩ hm B; exact fin γ m' ρ1 s x ho hP hm B
theorem cD {target : Expr} {I : Addr} {body orelse : List Stmt} {n : Nat} {V : VH} {Q : Flow → Shared → Prop} (B : Bd w c γ m env own ρ nw s) (T : Src w A target c m own nw I n V s) (W : List Str) (P : Nat → Mp → List VE → Prop)
   (h0 : P 0 m ρ)
   (turn : ∀ i v c1 γ m1 ρ1 s, i < n → Ow W ρ ρ1 → P i m1 ρ1 → m.le m1 → V i v s.heap → Bd w c1 γ m1 env own ρ1 nw s → Back w c1 c env own →
     ∀ Qb : Flow → Shared → Prop, (∀ γ' m' ρ' s₃, Ow W ρ ρ' → P (i + 1) m' ρ' → m1.le m' → Bd w c1 γ' m' env own ρ' nw s₃ → Qb .next s₃) → (∀ s₃, Q .next s₃ → Qb .brk s₃) → (∀ v s₃, Q (.ret v) s₃ → Qb (.ret v) s₃) →
     wpAny (model PG w) A (assign target env v) (fun kq s₂ => wpAny (model PG w) A (execs body env) Qb NoE s₂) NoE s)
   (fin : ∀ γ m' ρ' s, Ow W ρ ρ' → P n m' ρ' → m.le m' → Bd w c γ m' env own ρ' nw s → wpAny (model PG w) A (execs orelse env) Q NoE s) :
   codeAny (model PG w) A (.forLoop target (.ref I) body orelse env) (fun r s' => match r with | .ok f => Q f s' | .error e => cameBackBy (model PG w) A env E e s') s :=
 fg (σ := Unit) (x₀ := ()) (fun kq => nw) B T W (fun i m ρ kq => P i m ρ) h0 (fun i v c1 γ m1 ρ1 s kq a b c d e f g Qb h1 h2 h3 => turn i v c1 γ m1 ρ1 s a b c d e f g Qb (fun γ' m' ρ' s₃ => h1 γ' m' ρ' s₃ ()) h2 h3) fun γ m' ρ' s kq => fin γ m' ρ' s
end
end
section
section
variable {w : World} {c : Cx} {γ : Array GenState} {m : Mp} {env : Env} {nw : Led} {s : Shared} {G : Prop}
theorem opq1_0 {e0 : VE} {o0 : Addr} (B : Bd w c γ m env [o0] [e0] nw s) (h : ∀ own ρ, e0 ∈ ρ → Bd w c γ m env own ρ nw s → G) : G :=
 h _ _ mem0  B
theorem opq2_0 {e0 e1 : VE} {o0 : Addr} (B : Bd w c γ m env [o0] [e0, e1] nw s) (h : ∀ own ρ, e0 ∈ ρ → e1 ∈ ρ → Bd w c γ m env own ρ nw s → G) : G :=
 h _ _ mem0 mem1  B
theorem opq3_0 {e0 e1 e2 : VE} {o0 : Addr} (B : Bd w c γ m env [o0] [e0, e1, e2] nw s) (h : ∀ own ρ, e0 ∈ ρ → e1 ∈ ρ → e2 ∈ ρ → Bd w c γ m env own ρ nw s → G) : G :=
 h _ _ mem0 mem1 mem2  B
theorem opq4_0 {e0 e1 e2 e3 : VE} {o0 : Addr} (B : Bd w c γ m env [o0] [e0, e1, e2, e3] nw s) (h : ∀ own ρ, e0 ∈ ρ → e1 ∈ ρ → e2 ∈ ρ → e3 ∈ ρ → Bd w c γ m env own ρ nw s → G) : G :=
 h _ _ mem0 mem1 mem2 mem3  B
theorem opq5_0 {e0 e1 e2 e3 e4 : VE} {o0 : Addr} (B : Bd w c γ m env [o0] [e0, e1, e2, e3, e4] nw s) (h : ∀ own ρ, e0 ∈ ρ → e1 ∈ ρ → e2 ∈ ρ → e3 ∈ ρ → e4 ∈ ρ → Bd w c γ m env own ρ nw s → G) : G :=
 h _ _ mem0 mem1 mem2 mem3 mem4  B
theorem opq6_0 {e0 e1 e2 e3 e4 e5 : VE} {o0 : Addr} (B : Bd w c γ m env [o0] [e0, e1, e2, e3, e4, e5] nw s) (h : ∀ own ρ, e0 ∈ ρ → e1 ∈ ρ → e2 ∈ ρ → e3 ∈ ρ → e4 ∈ ρ → e5 ∈ ρ → Bd w c γ m env own ρ nw s → G) : G :=
 h _ _ mem0 mem1 mem2 mem3 mem4 mem5  B
theorem opq7_0 {e0 e1 e2 e3 e4 e5 e6 : VE} {o0 : Addr} (B : Bd w c γ m env [o0] [e0, e1, e2, e3, e4, e5, e6] nw s) (h : ∀ own ρ, e0 ∈ ρ → e1 ∈ ρ → e2 ∈ ρ → e3 ∈ ρ → e4 ∈ ρ → e5 ∈ ρ → e6 ∈ ρ → Bd w c γ m env own ρ nw s → G) : G :=
 h _ _ mem0 mem1 mem2 mem3 mem4 mem5 mem6  B
theorem opq10_0 {e0 e1 e2 e3 e4 e5 e6 e7 e8 e9 : VE} {o0 : Addr} (B : Bd w c γ m env [o0] [e0, e1, e2, e3, e4, e5, e6, e7, e8, e9] nw s) (h : ∀ own ρ, e0 ∈ ρ → e1 ∈ ρ → e2 ∈ ρ → e3 ∈ ρ → e4 ∈ ρ → e5 ∈ ρ → e6 ∈ ρ → e7 ∈ ρ → e8 ∈ ρ → e9 ∈ ρ → Bd w c γ m env own ρ nw s → G) : G :=
 h _ _ mem0 mem1 mem2 mem3 mem4 mem5 mem6 mem7 mem8 mem9  B
theorem opq4_3 {e0 e1 e2 e3 : VE} {o0 o1 o2 o3 : Addr} (B : Bd w c γ m env [o0, o1, o2, o3] [e0, e1, e2, e3] nw s) (h : ∀ own ρ, e0 ∈ ρ → e1 ∈ ρ → e2 ∈ ρ → e3 ∈ ρ → o1 ∈ own → o2 ∈ own → o3 ∈ own → Bd w c γ m env own ρ nw s → G) : G :=
 h _ _ mem0 mem1 mem2 mem3 mem1 mem2 mem3 B
theorem opq10_3 {e0 e1 e2 e3 e4 e5 e6 e7 e8 e9 : VE} {o0 o1 o2 o3 : Addr} (B : Bd w c γ m env [o0, o1, o2, o3] [e0, e1, e2, e3, e4, e5, e6, e7, e8, e9] nw s) (h : ∀ own ρ, e0 ∈ ρ → e1 ∈ ρ → e2 ∈ ρ → e3 ∈ ρ → e4 ∈ ρ → e5 ∈ ρ → e6 ∈ ρ → e7 ∈ ρ → e8 ∈ ρ → e9 ∈ ρ → o1 ∈ own → o2 ∈ own → o3 ∈ own → Bd w c γ m env own ρ nw s → G) : G :=
 h _ _ mem0 mem1 mem2 mem3 mem4 mem5 mem6 mem7 mem8 mem9 mem1 mem2 mem3 B
theorem opq25_8 {e0 e1 e2 e3 e4 e5 e6 e7 e8 e9 e10 e11 e12 e13 e14 e15 e16 e17 e18 e19 e20 e21 e22 e23 e24 : VE} {o0 o1 o2 o3 o4 o5 o6 o7 o8 : Addr} (B : Bd w c γ m env [o0, o1, o2, o3, o4, o5, o6, o7, o8] [e0, e1, e2, e3, e4, e5, e6, e7, e8, e9, e10, e11, e12, e13, e14, e15, e16, e17, e18, e19, e20, e21, e22, e23, e24] nw s) (h : ∀ own ρ, e0 ∈ ρ → e1 ∈ ρ → e2 ∈ ρ → e3 ∈ ρ → e4 ∈ ρ → e5 ∈ ρ → e6 ∈ ρ → e7 ∈ ρ → e8 ∈ ρ → e9 ∈ ρ → e10 ∈ ρ → e11 ∈ ρ → e12 ∈ ρ → e13 ∈ ρ → e14 ∈ ρ → e15 ∈ ρ → e16 ∈ ρ → e17 ∈ ρ → e18 ∈ ρ → e19 ∈ ρ → e20 ∈ ρ → e21 ∈ ρ → e22 ∈ ρ → e23 ∈ ρ → e24 ∈ ρ → o1 ∈ own → o2 ∈ own → o3 ∈ own → o4 ∈ own → o5 ∈ own → o6 ∈ own → o7 ∈ own → o8 ∈ own → Bd w c γ m env own ρ nw s → G) : G :=
 h _ _ mem0 mem1 mem2 mem3 mem4 mem5 mem6 mem7 mem8 mem9 mem10 mem11 mem12 mem13 mem14 mem15 mem16 mem17 mem18 mem19 mem20 mem21 mem22 mem23 mem24 mem1 mem2 mem3 mem4 mem5 mem6 mem7 mem8 B
theorem opq3_1 {e0 e1 e2 : VE} {o0 o1 : Addr} (B : Bd w c γ m env [o0, o1] [e0, e1, e2] nw s) (h : ∀ own ρ, e0 ∈ ρ → e1 ∈ ρ → e2 ∈ ρ → o1 ∈ own → Bd w c γ m env own ρ nw s → G) : G :=
 h _ _ mem0 mem1 mem2 mem1 B
theorem opq2_1 {e0 e1 : VE} {o0 o1 : Addr} (B : Bd w c γ m env [o0, o1] [e0, e1] nw s) (h : ∀ own ρ, e0 ∈ ρ → e1 ∈ ρ → o1 ∈ own → Bd w c γ m env own ρ nw s → G) : G :=
 h _ _ mem0 mem1 mem1 B
end
end
section
section
variable {w : World} {c : Cx} {γ : Array GenState} {m : Mp} {env : Env} {own : List Addr} {ρ : List VE} {nw : Led} {s : Shared} {A : Around} {E : VP}
theorem grd_and {P : Prop} (B : Bd w c γ m env own ρ nw s) (h : P) : Grd w s.heap ∧ P := ⟨B.kn B.gr, h⟩
theorem gm_appB {l : Addr} {vs : List Value} {pl : Sem Bool} {Q : Value × List Value → Shared → Prop} (B : Bd w c γ m env own ρ nw s) (hm : (l, au vs) ∈ nw) (h : Q (.builtin "list.append", [.ref l]) s) : wpAny (model PG w) A (getMethod (.ref l) (aa "append") pl) Q E s := gm_append (B.at hm) h
theorem callWith_b1 {M : Model} {pos : Pos} {id : String} {x : Value} {e : Expr} {rest : List Expr} {Q : VP}
   (h : wpAny M A (spliced (backTo pos (starEach (e :: rest) env))) (fun vs s₁ => wpAny M A (call (.builtin id) (x :: vs)) Q E s₁) E s)
   (he : starEach (e :: rest) env = (false, eval e env) :: starEach rest env) (hp : (backTo pos (starEach rest env)).any (·.1) = false) :
   wpAny M A (callWith pos (.builtin id) [x] (backTo pos (starEach (e :: rest) env)) []) Q E s := callWith_method1 h he hp
end
def wkTab : List String := ["mem @as;PutV.new ?zp|zp=as;PutV.keep ?zp ?zn ?zm|zp=as zn=uf zm=mem;Ow.keep ?zp ?zn ?zm|zp=as zn=uf zm=mem;hC ~ ?zh|zh=m1;@m1",
 "m1 mem0;mem1;mem2;mem3;mem4;mem5;mem6;mem7;mem8;mem9;mem10;mem11",
 "has @as;Hn.mk ?zm|zm=as;PutV.has ?zp ?zm|zp=as zm=has;Ow.has ?zp ?zm|zp=as zm=has;hM ~ ?zh|zh=m1",
 "tn Tn.rfl;Tn.put ?zh ?zp|zp=as zh=tn",
 "cs Ce.nil;Ce.cons ?zh ?zr|zh=mr zr=cs",
 "ce ce_nil;ce_cons ?zm ?zh|zm=mr zh=ce",
 "ow @as;Ow.rfl;Ow.put ?zh ?zp ?zc|zp=as zc=uf zh=ow;Ow.trans ?zh ?zp ?zc|zp=as zc=uf zh=ow",
 "op1 opq1_0 B _;opq2_0 B _;opq3_0 B _;opq4_0 B _;opq5_0 B _;opq6_0 B _;opq7_0 B _;opq10_0 B _;opq4_3 B _;opq3_1 B _;opq2_1 B _;opq10_3 B _;opq25_8 B _",
 "put put0;put1;put2;put3;put4;put5;put6;put7;put8;put9",
 "own nocel;somecel ?zh|zh=mr",
 "knd hE.kind ?zh|zh=rf",
 "ex execs_cut _||intro Qc hQc;wpAny_Assign_Name _ ?zs|zs=rf;wpAny_For _ ?zs|zs=rf;wpAny_Expr_any _ ?zi ?zs|zs=rf zi=it",
 "it B.inter",
 "evi EvI.lit;EvI.name ?zm ?zd|zd=rf zm=mr;EvI.add ?zl ?zr|zl=evi zr=evi;EvI.sub ?zl ?zr|zl=evi zr=evi",
 "evx Ev.name ?zm ?zd|zd=rf zm=mr;Ev.str;Ev.bool;Ev.none;Ev.int ?zh|zh=evi",
 "nl n_list B ?zz _|zz=fit|clear B",
 "nt n_tuple B ?zz _|zz=fit|clear B",
 "nL n_listL B ?zz _|zz=fit|clear B",
 "g1 r_var B ?zm ?zd ?ze _|zd=rf ze=rf zm=mr;r_glob B ?zx ?ze ?zd _|ze=rf zd=rf zx=knd;r_blt B ?zx ?ze ?zv ?zn ?zd _|ze=rf zv=rf zn=rf zd=rf zx=knd;k_int B _||clear B|intro tk s B;k_str B _||clear B|intro tk s B;MethodCall_ _ ?ze|ze=rf;Call_ _ ?ze|ze=rf;ev_i ?ze B _|ze=evi|clear B|intro tk s B;ev_bin B ?ze ?zf _|ze=evx zf=evx|clear B|intro tk1 tk s B;wpAny_BinOp _;ev_sub B ?ze ?zf _|ze=evx zf=evx|clear B|intro tk1 tk s B;Subscript_ _;ev_cmp B ?ze ?zf ?zg _|zg=rf ze=evx zf=evx|clear B|intro tk1 tk s B;wpAny_Compare1 _;Slice_ _;IfExp_ _;List_ _;Tuple_ _;wpAny_UnaryOp _;BoolOp_and _;BoolOp_or _;BoolOp_one _;wpAny_Constant_none _;wpAny_Constant_bool _",
 "g2 spliced_none _;na1 B ?za ?zd _|zd=rf za=mr;na2 B ?za ?zb ?zd ?ze _|zd=rf ze=rf za=mr zb=mr;na3 B ?za ?zb ?zc ?zd ?ze ?zf _|zd=rf ze=rf zf=rf za=mr zb=mr zc=mr;sp1 B ?za _|za=evx|clear B|intro tk s B;sp2 B ?za ?zb _|za=evx zb=evx|clear B|intro tk1 tk s B;sp3 B ?za ?zb ?zc _|za=evx zb=evx zc=evx|clear B|intro tk1 tk2 tk s B;sp4 B ?za ?zb ?zc ?zd _|za=evx zb=evx zc=evx zd=evx|clear B|intro tk1 tk2 tk3 tk s B;spliced_more _ ?ze|ze=rf",
 "g3 @ex;wpAny_execs_nil _",
 "g4 @ex;wpAny_Return_some _;wpAny_If _;wpAny_AugAssign_Name _;wpAny_Break _",
 "g5 PyProof.Rows.callWith_builtin1 _ ?ze ?zf|ze=rf zf=rf;callWith_b1 _ ?ze ?zf|ze=rf zf=rf;PyProof.Rows.callWith_type1 _ ?ze ?zf|ze=rf zf=rf;callWith_method0 _;callWith_f ?zo _ ?ze|zo=rf ze=rf;@bv",
 "g6 r_storeO B ?zn ?zk _|zn=has zk=own|clear B|intro ρ s hV B;r_store B ?zp ?zk _|zp=put zk=own|clear B|intro s B",
 "g7 ev_test B ?ze ?zf ?zg _|zg=rf ze=evx zf=evx|clear B|intro tk1 tk s B;wpAny_isTrue_Compare1 _;wpAny_isTrue_Not _;isTrue_IfExp _;wpAny_isTrue_BoolOp _;isTrue_plain _ ?ze|ze=rf",
 "g8 wpAny_truthy_bool _;truthy_int _",
 "g9 eq_int _;ne_int _;lt_int _;gt_int _;le_int _;ge_int _;PyProof.Rows.eq_str _;PyProof.Rows.ne_str _;is_int_none _;is_none_none _;is_str_none _;is_ref_none _;isnot_none_none _;isnot_str_none _;isnot_ref_none _;in_str _;notIn_str _",
 "g10 i_add B _||clear B|intro tk s B;i_sub B _||clear B|intro tk s B;i_and B _||clear B|intro tk s B;i_or B _||clear B|intro tk s B;i_xor B _||clear B|intro tk s B;i_mod B ?zb _|zb=num|clear B|intro tk s B;i_shr B ?zb _|zb=num|clear B|intro tk s B;i_mul B ?zb _|zb=num|clear B|intro tk s B;i_div B ?zb ?zc _|zb=num zc=num|clear B|intro tk s B;i_shl B ?zb ?zc ?zd _|zb=num zc=num zd=num|clear B|intro tk s B;i_pow B ?zb ?zc ?zd _|zb=num zc=num zd=num|clear B|intro tk s B",
 "g11 i_iadd B _||clear B|intro tk s B;i_isub B _||clear B|intro tk s B;i_ixor B _||clear B|intro tk s B;i_ior B _||clear B|intro tk s B;i_ishl B ?zb ?zc ?zd _|zb=num zc=num zd=num|clear B|intro tk s B",
 "g12 r_load B ?zm ?zd _|zd=rf zm=mr",
 "st hQc ~ ~ _||clear hQc;eval#~ ~#g1;spliced#~#g2;execs#~ ~#g3;exec#~ ~#g4;callWith#~ ~ ~ ~ ~#g5;storeName#~ ~ ~#g6;PySem.isTrue#~ ~ ~#g7;truthy#~#g8;compareOp#~ ~ ~#g9;binaryOp#~ ~ ~#g10;inplaceOp#~ ~ ~#g11;loadName#~ ~#g12;grd_and B _;wpAny_evalPart_some _;wpAny_evalPart_none _;GM.split _;GM.join _;GM.replace _;GM.swapcase _;GM.lower _;gm_appB B ?zm _|zm=mr;wpAny_allTrue_And_cons _;wpAny_allTrue_And_nil _;wpAny_allTrue_Or_cons _;wpAny_allTrue_Or_nil _",
 "rf %(first 'first [null [group '| < (tacticRfl 'rfl ) > ) [group '| < (exact 'exact [Lean.Parser.Term.anonymousCtor '⟨ [null rfl ', rfl ) '⟩ ) ) > ) [group '| < (paren '( < (intros 'intros [null ) ) '; (tacticRfl 'rfl ) > ') ) > ) [group '| < (decide 'decide (optConfig [null ) ) ) > ) ) )",
 "sts %(tacticRepeat_ 'repeat < @st > )",
 "uf %(withUnfoldingAll 'with_unfolding_all < (exact 'exact rfl ) > )",
 "num %(first 'first [null [group '| < (decide 'decide (optConfig [null ) ) ) > ) [group '| < (omega 'omega (optConfig [null ) ) ) > ) [group '| < (assumption 'assumption ) > ) [group '| < (paren '( < (simp 'simp (optConfig [null ) ) [null ) [null ) [null ) [null ) ) '; (done 'done ) > ') ) > ) [group '| < (tacticRfl 'rfl ) > ) ) )",
 "mr %(withReducible 'with_reducible < @mem > )",
 "opq %(paren '( < @op1 '; (clear 'clear [null B ) ) '; (intro 'intro [null own ρ ) ) '; (intros 'intros [null ) ) '; (renameI 'rename_i [null [Lean.binderIdent B ) ) ) > ') )",
 "bv %(paren '( < (paren '( < (withReducible 'with_reducible < (guardTarget 'guard_target [Lean.Parser.equal [Lean.Parser.equalR '= ) ) [Lean.Parser.Term.app wpAny [null _ _ [Lean.Parser.Term.app callWith [null _ [Lean.Parser.Term.app bootValue [null _ _ ) ) _ [Lean.Parser.Term.app backTo [null _ _ ) ) _ ) ) _ _ _ ) ) ) > ) > ') ) '; (first 'first [null [group '| < (paren '( < (paren '( < (show 'show [Lean.Parser.Term.app wpAny [null _ _ [Lean.Parser.Term.app callWith [null _ [Lean.Parser.Term.app Value.builtin [null _ ) ) _ _ _ ) ) _ _ _ ) ) ) > ') ) '; (paren '( < (tacticTry_ 'try < (dsimp 'dsimp (optConfig [null ) ) [null ) [null 'only ) [null ) [null ) ) > ) > ') ) '; (refine 'refine [Lean.Parser.Term.app PyProof.Rows.callWith_builtin1 [null [Lean.Parser.Term.syntheticHole '? '_ ) ) ) ) > ') ) > ) [group '| < (paren '( < (paren '( < (show 'show [Lean.Parser.Term.app wpAny [null _ _ [Lean.Parser.Term.app callWith [null _ [Lean.Parser.Term.app Value.type [null _ ) ) _ _ _ ) ) _ _ _ ) ) ) > ') ) '; (paren '( < (tacticTry_ 'try < (dsimp 'dsimp (optConfig [null ) ) [null ) [null 'only ) [null ) [null ) ) > ) > ') ) '; (refine 'refine [Lean.Parser.Term.app PyProof.Rows.callWith_type1 [null [Lean.Parser.Term.syntheticHole '? '_ ) ) ) ) > ') ) > ) ) ) > ') )",
 "fit %(first 'first [null [group '| < (decide 'decide (optConfig [null ) ) ) > ) [group '| < [tacticSize_fits 'size_fits ) > ) [group '| < (paren '( < (rwSeq 'rw (optConfig [null ) ) (rwRuleSeq '[ [null (rwRule [null ) sizeLine_eq ) ) '] ) [null ) ) '; (simp 'simp (optConfig [null ) ) [null ) [null ) [null ) [null ) ) '; (omega 'omega (optConfig [null ) ) ) > ') ) > ) [group '| < (paren '( < (rwSeq 'rw (optConfig [null ) ) (rwRuleSeq '[ [null (rwRule [null ) sizeLine_eq ) ) '] ) [null ) ) '; (omega 'omega (optConfig [null ) ) ) > ') ) > ) ) )",
 "qs %(tacticRepeat_ 'repeat < (paren '( < (withReducible 'with_reducible < (refine 'refine [Lean.Parser.Term.app hQc [null _ _ [Lean.Parser.Term.syntheticHole '? '_ ) ) ) ) '; (clear 'clear [null hQc ) ) > ) > ') ) > )",
 "st+ %(paren '( < (paren '( < (withReducible 'with_reducible < (show 'show [Lean.Parser.Term.arrow [«term_≤_» [num '1 ) '≤ _ ) '→ _ ) ) > ) > ') ) '; (intro 'intro [null htk ) ) > ') )",
 "ex+ %(paren '( < (withReducible 'with_reducible < (refine 'refine [Lean.Parser.Term.app execs_consT [null htk [Lean.Parser.Term.syntheticHole '? '_ ) ) ) ) > ) > ') )"]
open Lean in
def wkN (k : String) (a : List Syntax) : Syntax := .node .none k.toName a.toArray
open Lean in
def wkI (s : String) : Syntax := mkIdent s.toName
open Lean in
def wkH : Syntax := wkN "Lean.Parser.Term.hole" [.atom .none "_"]
open Lean in
def wkQ (a : List Syntax) : Syntax := wkN "Lean.Parser.Tactic.tacticSeq" [wkN "Lean.Parser.Tactic.tacticSeq1Indented" [wkN "null" a]]
open Lean in
def wkP (a : List Syntax) : Syntax := wkN "Lean.Parser.Tactic.paren" [.atom .none "(", wkQ (a.intersperse (.atom .none ";")), .atom .none ")"]
open Lean in
def wkA (f : Syntax) (a : List Syntax) : Syntax := if a.isEmpty then f else wkN "Lean.Parser.Term.app" [f, wkN "null" a]
open Lean in
def wkM (m : String) : Syntax := if m == "as" then wkN "Lean.Parser.Tactic.assumption" [.atom .none "assumption"] else wkN "PySem.W.tacticKtf_call_" [.atom .none "ktf_call", Syntax.mkStrLit m]
open Lean in
def wkW (t : Syntax) : Syntax := wkN "Lean.Parser.Tactic.withReducible" [.atom .none "with_reducible", wkQ [t]]
open Lean in
def wkE : List (String × List Syntax) → List (String × List Syntax)
 | (k, a) :: (j, b) :: st => (j, wkN k a.reverse :: b) :: st
 | st => st
open Lean in
def wkR (st : List (String × List Syntax)) (x : String) : List (String × List Syntax) :=
 if x == ")" then wkE st else if x == ">" then wkE (wkE (wkE st)) else if x == "<" then ("null", []) :: ("Lean.Parser.Tactic.tacticSeq1Indented", []) :: ("Lean.Parser.Tactic.tacticSeq", []) :: st else
 match x.splitOn "(" with
 | ["", k] => ("Lean.Parser.Tactic." ++ k, []) :: st
 | _ => match x.splitOn "[" with
   | ["", k] => (k, []) :: st
   | _ => match st with
     | [] => []
     | (k, a) :: st => (k, (match x.splitOn "'" with
       | ["", y] => .atom .none y
       | _ => match x.splitOn "@" with
         | ["", y] => wkM y
         | _ => if x == "_" then wkH else wkI x) :: a) :: st
open Lean in
def wkG (n w : String) : Syntax := if w == "~" then wkH else if w == "_" then wkN "Lean.Parser.Term.syntheticHole" [.atom .none "?", .atom .none "_"] else
 match w.splitOn "?" with
 | ["", v] => wkN "Lean.Parser.Term.syntheticHole" [.atom .none "?", wkI (v ++ n)]
 | _ => wkI w
open Lean in
def wkC (n c : String) : Syntax :=
 match c.splitOn "=" with
 | [v, m] => wkN "Lean.Parser.Tactic.case" [.atom .none "case", wkN "null" [wkN "Lean.Parser.Tactic.caseArg" [wkN "Lean.binderIdent" [wkI (v ++ n)], wkN "null" []]], .atom .none "=>", wkQ [wkM m]]
 | _ => match c.splitOn " " with
   | k :: a => wkN ("Lean.Parser.Tactic." ++ k) [.atom .none k, wkN "null" (a.map wkI)]
   | [] => .missing
open Lean in
def wkB (n s : String) : Syntax := let ws := s.splitOn " "; wkA (wkI ws.head!) (ws.tail.map (wkG n))
open Lean in
def wkT (n s : String) : Syntax :=
 match s.splitOn "@" with
 | ["", x] => wkM x
 | _ => match s.splitOn "#" with
   | [f, a, k] => wkP [wkW (wkN "Lean.Parser.Tactic.guardTarget" [.atom .none "guard_target", wkN "Lean.Parser.equal" [wkN "Lean.Parser.equalR" [.atom .none "="]], wkA (wkI "wpAny") [wkH, wkH, wkB n (f ++ " " ++ a), wkH, wkH, wkH]]), wkM k]
   | _ => match s.splitOn "|" with
     | h :: t =>
       let r := wkW (wkN "Lean.Parser.Tactic.refine'" [.atom .none "refine'", wkB n h])
       match t with
       | [] => r
       | c :: q => wkP (r :: ((if c == "" then q else c.splitOn " " ++ q).map (wkC n)))
     | [] => .missing
open Lean in
def wkX (s : String) : MacroM (TSyntax `tactic) := do
 let some d := wkTab.find? fun x => (s ++ " ").isPrefixOf x | Macro.throwUnsupported
 let e := (d.drop (s.length + 1)).toString
 match e.splitOn "%" with
 | ["", y] =>
   match (y.splitOn " ").foldl wkR [("", [])] with
   | [(_, y :: _)] => return ⟨y⟩
   | _ => Macro.throwUnsupported
 | _ =>
   let n := toString (← read).currMacroScope
   match e.splitOn ";" with
   | [x] => return ⟨wkT n x⟩
   | l => return ⟨wkN "Lean.Parser.Tactic.first" [.atom .none "first", wkN "null" (l.map fun x => wkN "group" [.atom .none "|", wkQ [wkT n x]])]⟩
end
section
theorem eZ : ∀ {vs : List Value} {ns : List Int}, vs.length = ns.length → (∀ (i : Nat) (n : Int), ns[i]? = some n → ∃ t, vs[i]? = some (Value.int n t)) → IntsAre vs ns
 | [], [], _, _ => .nil
 | [], _ :: _, h, _ => by simp at h
 | _ :: _, [], h, _ => by simp at h
 | v :: vs, n :: ns, hl, h => by
   obtain ⟨t, e⟩ := h 0 n rfl; simp at e
   subst e; exact .cons n t (eZ (by simpa using hl) fun i k hk => by simpa using h (i + 1) k (by simpa using hk))
theorem cu {α : Type} {l : List α} : l.filter (fun kq => true) = l := List.filter_eq_self.mpr fun kq kq => rfl
theorem aB {α β : Type} {l : List α} {d : α} {f : α → β} {n : Nat} (hn : l.length = n) : (af n).map (fun i => f (l.getD i d)) = l.map f := by
 refine List.ext_getElem (by simp [hn]) fun i h1 h2 => ?_; simp only [List.getElem_map, List.getElem_range]; have : i < l.length := by simpa using h2
 rw [ab, ac this]; rfl
section
variable {w : World} {c : Cx} {γ γ' : Array GenState} {m m' : Mp} {env cenv : Env} {own : List Addr} {ρ ρ' : List VE} {nw nw' : Led} {s s' : Shared} {A : Around} {E : VP}
noncomputable def ay (n : Nat) : List Int := (af n).map Int.ofNat
noncomputable def RangeO (k : Nat) (o : Obj) : Prop := ∃ t u v, o = { cls := .type "range", data := .fields #[.int 0 t, .int (k : Nat) u, .int 1 v] }
theorem n_range {k : Nat} {t : Tok} {Q : VP} (B : Bd w c γ m env own ρ nw s)
   (h : ∀ a m' s', m.le m' → Kn m' (At a (RangeO k)) → Bd w c γ m' env own ρ nw s' → Q (.ref a) s') : wpAny (model PG w) A (call (.type "range") [.int k t]) Q E s :=
 call_range_1 (h _ _ _ (B.freshLe _) (fun kq ok => ⟨_, ok _ _ Mp.put_self, _, _, _, rfl⟩) (B.pushK rfl))
theorem l_ofrange {k : Nat} {r : Addr} {Q : VP} (B : Bd w c γ m env own ρ nw s) (hh : A.handled = none) (hr : At r (RangeO k) s.heap) (hsm : Builtin.Range.small 0 k 1 = true) (hk : k ≤ 2 ^ 24)
   (h : ∀ a m' s', m.le m' → Kn m' (LI a (ay k)) → Bd w c γ m' env own ρ nw s' → Q (.ref a) s') :
   wpAny (model PG w) A (call (.type "list") [.ref r]) Q E s := by
 obtain ⟨o, ho, t, u, v, rfl⟩ := hr; refine call_list_range hh ho hsm (by rw [dT (a12)]; exact a11) hk fun h' tk acc' c' hkp hD hI => ?_; refine x03 B.fresh fun f1 f2 f3 => ?_; have B2 : Bd w c γ m env own ρ nw ⟨h', s.gens, s.drawn, tk, s.os⟩ := B.grow hkp; refine h _ _ _ (Mp.le_put f1) (fun hp ok => ?_) (B2.addK hD f1 f2 f3); have ho := ok _ _ Mp.put_self; refine ⟨acc'.toList, ⟨_, ho, c', by simp⟩, eZ ?_ fun i n hn => ?_⟩
 · obtain ⟨h1, _⟩ := hI; simp [ay, h1]
 obtain ⟨h1, h2⟩ := hI; have hi : i < k := by
   have := (List.getElem?_eq_some_iff.mp hn).1; simpa [ay] using this
 have e : n = (i : Int) := by
   simp [ay, hi] at hn
   exact hn.symm
 obtain ⟨t', hv⟩ := h2 i acc'[i] (Array.getElem?_eq_getElem (a10 h1 hi)); refine ⟨t', ?_⟩; rw [Array.getElem?_toList, Array.getElem?_eq_getElem (a10 h1 hi), hv, e]; simp
theorem bE {value slice : Expr} {a : Addr} {ns : List Int} {i n : Int} {u : Tok} {Q : VP} (hl : LI a ns s.heap) (h0 : 0 ≤ i) (hz : i < 2 ^ 63) (hv : ns[i.toNat]? = some n) (h : ∀ t, Q (.int n t) s)
   (hs : subscripted slice false (.ref a) (.int i u) = operate [.ref a, .int i u] (getItem (.ref a) (.int i u)) := by with_unfolding_all rfl) :
   wpAny (model PG w) A (subscriptTail value slice (.ref a) (.int i u)) Q E s := by
 refine x12 hl fun vs h1 h2 => ?_; obtain ⟨t, ht⟩ := ints_get' h2 hv; exact aT h1 h0 hz ht (h t) hs
theorem cO {value slice : Expr} {a : Addr} {ns : List Str} {i : Int} {n : Str} {u : Tok} {Q : VP} (hl : LS a ns s.heap) (h0 : 0 ≤ i) (hz : i < 2 ^ 63) (hv : ns[i.toNat]? = some n) (h : ∀ t, Q (.str n t) s)
   (hs : subscripted slice false (.ref a) (.int i u) = operate [.ref a, .int i u] (getItem (.ref a) (.int i u)) := by with_unfolding_all rfl) :
   wpAny (model PG w) A (subscriptTail value slice (.ref a) (.int i u)) Q E s := by
 refine x12 hl fun vs h1 h2 => ?_; obtain ⟨t, ht⟩ := dk h2 hv; exact aT h1 h0 hz ht (h t) hs
end
end
section
inductive Tr where
 | leaf (i : Nat)
 | node (sg : Str) (l r : Tr) (mid : Nat)
 deriving DecidableEq, Inhabited
noncomputable def Tr.dep : Tr → Nat
 | .leaf _ => 0
 | .node _ l r _ => max l.dep r.dep + 1
noncomputable def Tr.size : Tr → Nat
 | .leaf _ => 1
 | .node _ l r _ => l.size + r.size + 1
noncomputable def KT (m : Mp) : Value → Tr → Prop
 | v, .leaf i => ∃ t, v = .int (i : Nat) t
 | v, .node sg l r mid => ∃ a vl vr ts tm, v = .ref a ∧ (∃ o, m a = some o ∧ au [.str sg ts, vl, vr, .int (mid : Nat) tm] o) ∧ KT m vl l ∧ KT m vr r
theorem aJ {m m' : Mp} {a : Addr} {P : Obj → Prop} (le : m.le m') (h : ∃ o, m a = some o ∧ P o) : ∃ o, m' a = some o ∧ P o := by obtain ⟨o, h1, h2⟩ := h; exact ⟨o, le _ _ h1, h2⟩
theorem KT.up {m m' : Mp} (le : m.le m') {t : Tr} : ∀ {v : Value}, KT m v t → KT m' v t := by
 induction t with
 | leaf i => exact fun h => h
 | node sg l r mid ihl ihr =>
   intro v h; refine x54 h fun a vl vr ts tm h1 h2 h3 h4 => ?_; exact ⟨a, vl, vr, ts, tm, h1, aJ le h2, ihl h3, ihr h4⟩
section
variable {w : World} {c : Cx} {γ γ' : Array GenState} {m m' : Mp} {env cenv : Env} {own : List Addr} {ρ ρ' : List VE} {nw nw' : Led} {s s' : Shared} {A : Around} {E : VP}
theorem bo {i : Int} {t : Tok} {Q : VP} (h : Q (.bool true) s) : wpAny (model PG w) A (call (.builtin "isinstance") [.int i t, .type "int"]) Q E s := IsiPair.int_int h
theorem bb {a : Addr} {vs : List Value} {Q : VP} (B : Bd w c γ m env own ρ nw s) (hl : At a (au vs) s.heap) (h : ∀ s', Bd w c γ m env own ρ nw s' → Q (.bool false) s') : wpAny (model PG w) A (call (.builtin "isinstance") [.ref a, .type "int"]) Q E s :=
 IsiPair.isList_int hl.list (fun kq kq e => e) (h _ (B.tk _ _))
theorem Bd.refs {xs : List Value} {is : List Nat} {W : Addr → Nat → Heap → Prop} (B : Bd w c γ m env own ρ nw s) (h : All2 (fun x i => Kn m (fun h => ∃ b, x = .ref b ∧ W b i h)) xs is) : ∃ bs : List Addr, xs = bs.map Value.ref ∧ All2 (fun b i => Kn m (W b i)) bs is := by
 induction h with
 | nil => exact ⟨[], rfl, .nil⟩
 | cons h _ ih =>
   obtain ⟨bs, rfl, hb⟩ := ih; obtain ⟨b, rfl, _⟩ := B.kn h; refine ⟨b :: bs, rfl, .cons (fun hp ok => ?_) hb⟩; refine x12 (h hp ok) fun b' e hw => ?_; cases e
   exact hw
theorem Bd.ato {a : Addr} {P : Obj → Prop} (B : Bd w c γ m env own ρ nw s) (h : ∃ o, m a = some o ∧ P o) : At a P s.heap := by obtain ⟨o, h1, h2⟩ := h; exact ⟨o, B.ok _ _ h1, h2⟩
end
end
section
section
variable {w : World} {c : Cx} {γ : Array GenState} {m : Mp} {env : Env} {own : List Addr} {ρ ρ' : List VE} {nw nw' : Led} {s s' : Shared} {wr : List Addr} {gw : Nat → Prop}
noncomputable def bF (w : World) (A : Around) (e : Expr) (acc : Addr) (env : Env) (R : Shared → Prop) (it : Value) (s : Shared) : Prop :=
 ∃ I2, it = .ref I2 ∧ codeAny (model PG w) A (.compLoop e 1 (.ref I2) (.ref acc) env) (fun r s' => (∃ f, r = .ok f) ∧ R s') s ∧ wpAny (model PG w) A (pyIter (.ref I2)) (fun it s' => it = .ref I2 ∧ s' = s) NoE s
theorem ij (elt t1 i1 t2 i2 : Expr) (ifs : List Expr) (scope : Scope) (pos : Pos) (it acc : Value) (env : Env) :
   compTurn (.ListComp elt [⟨t1, i1, [], 0⟩, ⟨t2, i2, ifs, 0⟩] scope pos) 0 it acc env = (do
     standAt i1.pos
     match ← pyNext it with
     | none => pure (.done .next)
     | some v =>
       letOwnedTupleGo t1 it v
       assign t1 env v
       let mut ok := true
       for c in ([] : List Expr) do
         if ok then ok ← isTrue c env (eval c env)
       if ok then
         let x ← eval i2 env
         standAt i2.pos
         let x ← foldedSetIterable i2 env x
         let _ ← runOwn (.compStart (.ListComp elt [⟨t1, i1, [], 0⟩, ⟨t2, i2, ifs, 0⟩] scope pos) 1 (← holding [x] (pyIter x)) acc env) env
       again (.compLoop (.ListComp elt [⟨t1, i1, [], 0⟩, ⟨t2, i2, ifs, 0⟩] scope pos) 0 it acc env)) := by rfl
theorem gJ {A : Around} {elt t1 i1 t2 i2 : Expr} {ifs : List Expr} {scope : Scope} {pos : Pos} {it acc : Value} {R : Result → Shared → Prop} (h0 : codeAny (model PG w) A (.compLoop (.ListComp elt [⟨t1, i1, [], 0⟩, ⟨t2, i2, ifs, 0⟩] scope pos) 1 it acc env) R s)
   (h : wpAny (model PG w) A (pyIter it) (fun it' s' => codeAny (model PG w) A (.compLoop (.ListComp elt [⟨t1, i1, [], 0⟩, ⟨t2, i2, ifs, 0⟩] scope pos) 1 it' acc env) R s') NoE s) :
   codeAny (model PG w) A (.compStart (.ListComp elt [⟨t1, i1, [], 0⟩, ⟨t2, i2, ifs, 0⟩] scope pos) 1 it acc env) R s := by
 refine codeAny_of_tree ?_; show wpAny _ _ ((compStart (.ListComp elt [⟨t1, i1, [], 0⟩, ⟨t2, i2, ifs, 0⟩] scope pos) 1 it acc env).onRaise (fun x => do noteFrame x env; standAt theWindowsPlace)) _ _ s
 refine wpAny_notedAt ?_; unfold compStart; show wpAny _ _ (ask >>= _) _ _ s
 refine aj (wpAny_askSetting (wpAny_ite ?_)); split
 · first
     | exact aj (wpAny_pure (wpAny_pure (And.intro rfl h0)))
     | exact wpAny_pure (And.intro rfl h0)
 first
   | exact aj (wpAny_rule (aj (wpAny_standAt (aj (an h (fun it' s' h' => wpAny_pure (And.intro rfl h')) fun kq kq x => x.elim)))))
   | (refine aj (wpAny_rule ?_); show wpAny _ _ (standAt i2.pos >>= _) _ _ s; exact aj (wpAny_standAt (aj (an h (fun it' s' h' => wpAny_pure (And.intro rfl h')) fun kq kq x => x.elim))))
theorem comp2_itr {A : Around} {elt t1 i1 t2 i2 : Expr} {ifs : List Expr} {scope : Scope} {pos : Pos} {I acc : Addr} {fp : List Addr} {n : Nat} {V : VH} {St : List Addr → Nat → Shared → Prop} {m₀ : Mp} {R : Result → Shared → Prop} {xs : List Value}
   (T : Itr w A t1 I fp gw n V St) (Inv : Nat → List Value → Mp → List VE → Led → Prop)
   (hfp : ∀ b ∈ fp, ∃ o, m₀ b = some o) (hgw : ∀ j, gw j → c.G[j]? = none) (hs : ∀ x, foldedSetIterable i2 env x = pure x)
   (turn : ∀ i v c1 γ m ρ xs nw s, i < n → Inv i xs m ρ nw → m₀.le m → V i v s.heap → Bd w c1 γ m env own ρ ((acc, au xs) :: nw) s →
     wpAny (model PG w) A (assign t1 env v) (fun kq s₂ => wpAny (model PG w) A (eval i2 env) (fun x s₃ => wpAny (model PG w) A (pyIter x) (fun it s₄ =>
       bF w A (.ListComp elt [⟨t1, i1, [], 0⟩, ⟨t2, i2, ifs, 0⟩] scope pos) acc env (fun s₅ => ∃ γ' m' ρ' xs' nw', Inv (i + 1) xs' m' ρ' nw' ∧ m₀.le m' ∧ Bd w c1 γ' m' env own ρ' ((acc, au xs') :: nw') s₅) it s₄) NoE s₃) NoE s₂) NoE s)
   (fin : ∀ γ m ρ xs nw s, Inv n xs m ρ nw → m₀.le m → Bd w c γ m env own ρ ((acc, au xs) :: nw) s → R (.ok .next) s)
   (h0 : Inv 0 xs m ρ nw) (hm : m₀.le m) (B : Bd w c γ m env own ρ ((acc, au xs) :: nw) s) (hst : St wr 0 s) (p : Priv wr c m own ((acc, au xs) :: nw)) :
   codeAny (model PG w) A (.compLoop (.ListComp elt [⟨t1, i1, [], 0⟩, ⟨t2, i2, ifs, 0⟩] scope pos) 0 (.ref I) (.ref acc) env) R s := by
 refine codeAny_loop rfl (fun k s => Sit w c env own m₀ n St 0 (fun i m ρ nw => ∃ xs nw', nw = (acc, au xs) :: nw' ∧ Inv i xs m ρ nw') k s) (fun k s hS => ?_) n (.mk wr 0 γ m ρ _ rfl (Nat.zero_le _) (Nat.zero_le _) ⟨xs, nw, rfl, h0⟩ hm B hst p); show wpAny _ A ((compTurn (.ListComp elt [⟨t1, i1, [], 0⟩, ⟨t2, i2, ifs, 0⟩] scope pos) 0 (.ref I) (.ref acc) env).onRaise (fun x => do noteFrame x env; theTreesLotGoes x)) _ _ s
 refine wpAny_noted ?_; rw [ij]; refine aj (wpAny_standAt (aj (noE (an (gz T hfp hgw hS (Y := fun v s₁ => wpAny (model PG w) A (assign t1 env v) (fun kq s₂ => wpAny (model PG w) A (eval i2 env) (fun x s₃ => wpAny (model PG w) A (pyIter x) (fun it s₄ =>
       bF w A (.ListComp elt [⟨t1, i1, [], 0⟩, ⟨t2, i2, ifs, 0⟩] scope pos) acc env (fun s₅ => ∃ k', k' < k ∧ Sit w c env own m₀ n St 0 (fun i m ρ nw => ∃ xs nw', nw = (acc, au xs) :: nw' ∧ Inv i xs m ρ nw') k' s₅) it s₄) NoE s₃) NoE s₂) NoE s₁) (Z := fun s => R (.ok .next) s) ?_ ?_) (fun r s₁ h => ?_) fun kq kq x => x))))
 · rintro i v c1 γ m ρ _ s' hlt _ ⟨xs, nw, rfl, hI⟩ hm hv B _ tail; refine an (turn i v c1 γ m ρ xs nw s' hlt hI hm hv B) (fun kq s₂ h2 => an h2 (fun x s₃ h3 => an h3 (fun it s₄ h4 => ?_) fun kq kq x => x) fun kq kq x => x) fun kq kq x => x; refine x13 h4 fun I2 e hc hp => ?_; refine ⟨I2, e, codeAny_mono hc fun r s₃ q => ?_, hp⟩; obtain ⟨hf, γ', m', ρ', xs', nw', hI', hm', B₃⟩ := q; exact ⟨hf, tail _ _ _ _ s₃ (Nat.zero_le _) ⟨_, _, rfl, hI'⟩ hm' B₃⟩
 · rintro γ m ρ _ s' ⟨xs, nw, rfl, hI⟩ hm B; exact fin _ _ _ _ _ _ hI hm B
 cases r with
 | none => exact wpAny_pure h
 | some v =>
   refine aj (noE (an h (fun kq s₁' h₁' => aj (noE (an h₁' (fun kq s₂ h₂ => ?_) fun kq kq x => x))) fun kq kq x => x)); refine aj (bQ ?_); refine aj (noE (an h₂ (fun x s₃ h₃ => aj (wpAny_standAt (aj (wpAny_of_eq (hs x) (aj (wpAny_holding (noE (an h₃ (fun it s₄ h₄ => ?_) fun kq kq x => x)))))))) fun kq kq x => x)); obtain ⟨I2, rfl, hc, hp⟩ := h₄; have hc2 := fun (X : _) (Y : ∀ r s₅, _ → X r s₅) => codeAny_mono (R' := X) hc Y; refine aj (wpAny_runOwn (gJ (hc2 _ fun r s₅ q => ?_) (an (Q' := fun it' s' => _) hp (fun it s' q => ?_) fun kq kq x => x)))
   · obtain ⟨⟨f, rfl⟩, q⟩ := q; exact wpAny_pure ⟨rfl, q⟩
   obtain ⟨rfl, rfl⟩ := q; refine hc2 _ fun r s₅ q => ?_; obtain ⟨⟨f, rfl⟩, q⟩ := q; exact wpAny_pure ⟨rfl, q⟩
end
end
section
section
variable {w : World} {c : Cx} {γ γ' : Array GenState} {m m' : Mp} {env cenv : Env} {own : List Addr} {ρ ρ' : List VE} {nw nw' : Led} {s s' : Shared} {A : Around} {E : VP}
theorem j9 {elt t1 i1 t2 i2 : Expr} {ifs : List Expr} {scope : Scope} {pos : Pos} {I : Addr} {ns : List Str} {ce : List VE} {R : Value → Addr → Result → Shared → Prop}
   {fp wr : List Addr} {gw : Nat → Prop} {n : Nat} {V : VH} {St : List Addr → Nat → Shared → Prop}
   (B : Bd w c γ m env own ρ nw s) (T : Itr w A t1 I fp gw n V St) (Inv : Nat → List Value → Mp → List VE → Led → Prop)
   (ok : CompOk scope ns ce ρ)
   (hfp : ∀ b ∈ fp, ∃ o, m b = some o) (hgw : ∀ j, gw j → c.G[j]? = none) (hst : St wr 0 s) (p : Priv wr c m own nw)
   (hs : ∀ cenv x, foldedSetIterable i2 cenv x = pure x)
   (turn : ∀ i v c1 cenv L acc γ m1 ρ' xs nw' s, i < n → EnvOf cenv (relabel scope env) L (bc (fun n => env.cells.lookup n) scope.names []) → Inv i xs m1 ρ' nw' → m.le m1 → V i v s.heap → Bd w c1 γ m1 cenv [L] ρ' ((acc, au xs) :: nw') s →
     wpAny (model PG w) A (assign t1 cenv v) (fun kq s₂ => wpAny (model PG w) A (eval i2 cenv) (fun x s₃ => wpAny (model PG w) A (pyIter x) (fun it s₄ =>
       bF w A (.ListComp elt [⟨t1, i1, [], 0⟩, ⟨t2, i2, ifs, 0⟩] scope pos) acc cenv (fun s₅ => ∃ γ' m' ρ' xs' nw', Inv (i + 1) xs' m' ρ' nw' ∧ m.le m' ∧ Bd w c1 γ' m' cenv [L] ρ' ((acc, au xs') :: nw') s₅) it s₄) NoE s₃) NoE s₂) NoE s)
   (h0 : Inv 0 [] m (ns.map (fun n => ⟨n, none, none⟩) ++ ce) nw)
   (fin : ∀ γ' m' ρ' xs nw' L acc s', Inv n xs m' ρ' nw' → m.le m' → Bd w c γ' m' env own ρ ((L, NsO) :: (acc, au xs) :: nw') s' → R (.ref acc) L (.ok .next) s') :
   wpAny (model PG w) A (newList []) (fun acc s₃ => wpAny (model PG w) A (newFunctionEnv scope env.globals (bc (fun n => env.cells.lookup n) scope.names []) [] env.qual none .none (some env)) (fun cenv s₄ =>
     codeAny (model PG w) A (.compStart (.ListComp elt [⟨t1, i1, [], 0⟩, ⟨t2, i2, ifs, 0⟩] scope pos) 0 (.ref I) acc { cenv with scope := relabel scope env }) (R acc cenv.locals) s₄) NoE s₃) NoE s := by
 exact jB (t0 := 0) B T ok (Nat.zero_le _) hst p fun c1 cenv L acc s2 hE hG ht2 C st2 p2 back => comp2_itr T Inv hfp (hG ▸ hgw) (hs _) (fun i v c2 γ m ρ xs nw s hi hI hm hv B' => turn i v c2 _ L acc γ m ρ xs nw s hi hE hI hm hv B') (fun γ' m' ρ' xs nw' s' hI hm B' => fin γ' m' ρ' xs nw' L acc s' hI hm (back _ _ _ _ _ _ B')) h0 .rfl C st2 p2
noncomputable def Lc2Go (w : World) (A : Around) (env : Env) (elt t1 i1 t2 i2 : Expr) (ifs : List Expr) (scope : Scope) (pos : Pos) (use : Option (Value → Sem Unit)) (E : VP) (Q : VP) (it : Value) (s : Shared) : Prop :=
 wpAny (model PG w) A (newList []) (fun acc s₃ => wpAny (model PG w) A (newFunctionEnv scope env.globals (bc (fun n => env.cells.lookup n) scope.names []) [] env.qual none .none (some env)) (fun cenv s₄ =>
     codeAny (model PG w) A (.compStart (.ListComp elt [⟨t1, i1, [], 0⟩, ⟨t2, i2, ifs, 0⟩] scope pos) 0 it acc { cenv with scope := relabel scope env }) (compPost (model PG w) A E use Q acc cenv.locals) s₄) NoE s₃) NoE s
theorem lc2_eval {elt t1 i1 t2 i2 : Expr} {ifs : List Expr} {scope : Scope} {pos : Pos} {Q : VP} (B : Bd w c γ m env own ρ nw s) (ce : List VE)
   (hce : ∀ e ∈ ce, e ∈ ρ ∧ ∃ a, e.cel = some a) (hf : fe scope ce = true) (hk : scope.kind = .function) (hnm : (scope.names.all fun z => z.2 != .local || scope.names.lookup z.1 == some .local) = true)
   (h : wpAny (model PG w) A (eval i1 env) (fun x s₁ => wpAny (model PG w) A (pyIter x) (fun it s₂ => Lc2Go w A env elt t1 i1 t2 i2 ifs scope pos none E Q it s₂) NoE s₁) NoE s)
   (hs : ∀ x, foldedSetIterable i1 env x = pure x := by intro _; rfl) : wpAny (model PG w) A (eval (.ListComp elt [⟨t1, i1, [], 0⟩, ⟨t2, i2, ifs, 0⟩] scope pos) env) Q E s := by
 rw [eval_ListComp]; refine wpAny_comprehension_free (use := none) rfl hs (cC B hce hf) hk (fun z hz hl => ?_) (noE (an h (fun xv s₁ h₁ => noE (an h₁ (fun it s₂ h₂ => ?_) fun kq kq e => e)) fun kq kq e => e))
 · have := List.all_eq_true.mp hnm z hz; rw [hl] at this; simpa using this
 exact noE (an h₂ (fun kq kq h₃ => noE h₃) fun kq kq e => e)
theorem jY {elt t1 i1 t2 i2 : Expr} {ifs : List Expr} {scope : Scope} {pos py spos : Pos} {y : Str} {Q : Flow → Shared → Prop} (B : Bd w c γ m env own ρ nw s) (ce : List VE)
   (hce : ∀ e ∈ ce, e ∈ ρ ∧ ∃ a, e.cel = some a) (hf : fe scope ce = true) (hk : scope.kind = .function) (hnm : (scope.names.all fun z => z.2 != .local || scope.names.lookup z.1 == some .local) = true)
   (hy : env.kindOf y = some .local) (hsw : (py.line == (Expr.ListComp elt [⟨t1, i1, [], 0⟩, ⟨t2, i2, ifs, 0⟩] scope pos).pos.line && !(scope.names.any fun (n, k) => n == y && (k == .local || k == .cell))) = true)
   (h : wpAny (model PG w) A (eval i1 env) (fun x s₁ => wpAny (model PG w) A (pyIter x) (fun it s₂ => Lc2Go w A env elt t1 i1 t2 i2 ifs scope pos (some (assign (.Name y py) env)) E (fun kq s' => Q .next s') it s₂) NoE s₁) NoE s)
   (hs : ∀ x, foldedSetIterable i1 env x = pure x := by intro _; rfl) : wpAny (model PG w) A (exec (.Assign [.Name y py] (.ListComp elt [⟨t1, i1, [], 0⟩, ⟨t2, i2, ifs, 0⟩] scope pos) spos) env) Q E s := by
 rw [exec_Assign_Name_used _ _ _ _ (swaps_t B.vars hy hsw)]; refine aj (wpAny_standAt (aj ?_)); show wpAny _ A (do let _ ← comprehension (.ListComp elt [⟨t1, i1, [], 0⟩, ⟨t2, i2, ifs, 0⟩] scope pos) scope env _ (newList []) false (eval i1 env) (some (assign (.Name y py) env))) _ _ s
 refine aj (an (wpAny_comprehension_free (use := some (assign (.Name y py) env)) (Q := fun kq s' => Q .next s') rfl hs (cC B hce hf) hk (fun z hz hl => ?_)
   (noE (an h (fun xv s₁ h₁ => noE (an h₁ (fun it s₂ h₂ => ?_) fun kq kq e => e)) fun kq kq e => e))) (fun kq s' hq => wpAny_pure (wpAny_pure hq)) fun kq kq e => e)
 · have := List.all_eq_true.mp hnm z hz; rw [hl] at this; simpa using this
 exact noE (an h₂ (fun kq kq h₃ => noE h₃) fun kq kq e => e)
section
variable {elt t1 i1 t2 i2 : Expr} {ifs : List Expr} {scope : Scope} {pos : Pos} {I : Addr} {n : Nat} {V : VH}
theorem jt {I2 acc : Addr} {k : Nat} {V2 : VH} {xs : List Value} {R : Shared → Prop} (B : Bd w c γ m env own ρ ((acc, au xs) :: nw) s) (T : Src w A t2 c m own ((acc, au xs) :: nw) I2 k V2 s) (W : VH)
   (hz : xs.length + k ≤ sizeLine)
   (turn : ∀ j v c2 γ m2 nw2 s, j < k → m.le m2 → V2 j v s.heap → (∀ q ∈ nw, q ∈ nw2) → Bd w c2 γ m2 env own (cV ρ) nw2 s →
     wpAny (model PG w) A (assign t2 env v) (fun kq s₂ => wpAny (model PG w) A (bt ifs env) (fun ok s₃ =>
         ok = true ∧ wpAny (model PG w) A (eval elt env) (fun x s₄ => bB w c2 env own (cV ρ) nw2 m2 (W j x) s₄) NoE s₃) NoE s₂) NoE s)
   (fin : ∀ γ' m' ys s', m.le m' → All2 (fun x j => Kn m' (W j x)) ys (af k) → Bd w c γ' m' env own (cV ρ) ((acc, au (xs ++ ys)) :: nw) s' → R s') :
   bF w A (.ListComp elt [⟨t1, i1, [], 0⟩, ⟨t2, i2, ifs, 0⟩] scope pos) acc env R (.ref I2) s := by
 refine x45 T fun fp gw St wr T hfp hgw hst hpr => ?_; have hff : cV (cV ρ) = cV ρ := by
   unfold cV; rw [List.map_map]; refine List.map_congr_left fun e kq => ?_; cases e with
   | mk nm cl vl => cases cl <;> rfl
 refine ⟨I2, rfl, ?_, an (T.self wr 0 s (fun it s' => it = .ref I2 ∧ s' = s) hst ⟨rfl, rfl⟩) (fun kq kq q => q) fun kq kq x => x⟩; refine gI (t0 := 0) .two T (fun j zs m1 ρ' nw' => ρ' = cV ρ ∧ nw' = nw ∧ ∃ ys, zs = xs ++ ys ∧ ys.length = j ∧ All2 (fun x j => Kn m1 (W j x)) ys (af j)) hfp hgw ?_ ?_ ⟨rfl, rfl, [], by simp, rfl, .nil⟩ .rfl B.forget (Nat.zero_le _) hst hpr
 · rintro j v c2 γ m2 ρ' zs nw' s hj _ ⟨rfl, rfl, ys, rfl, hyl, hys⟩ hm hv B _; refine an (turn j v c2 γ m2 _ s hj hm hv (fun q hq => .tail _ hq) B) (fun kq s₂ h₂ => an h₂ (fun ok s₃ h₃ => ?_) fun kq kq e => e) fun kq kq e => e; obtain ⟨rfl, h₃⟩ := h₃; rw [if_pos rfl]; refine an h₃ (fun x s₄ h₄ => ?_) fun kq kq e => e; refine x34 h₄ fun γ' m' ρ' h1 h2 h3 h4 => ?_; refine ⟨γ', m', _, nw', by rw [List.length_append]; exact a17 hz hj hyl, ⟨rfl, rfl, ys ++ [x], by simp, by simp [hyl], ?_⟩, hm.trans h1, by rw [← hff, ← h3]; exact h4.forget⟩; rw [List.range_succ]; exact (hys.imp fun kq kq k => k.up h1).append (.cons h2 .nil)
 rintro γ' m' ρ' zs nw' s' ⟨rfl, rfl, ys, rfl, hyl, hys⟩ hm B; exact ⟨⟨_, rfl⟩, fin γ' m' ys s' hm hys B⟩
theorem jo {R : Value → Addr → Result → Shared → Prop} (B : Bd w c γ m env own ρ nw s) (T : Src w A t1 c m own nw I n V s) (ce : List VE) (ns : List Str) (Z : Nat → List Value → Mp → Prop)
   (ok : CompOk scope ns ce ρ)
   (hs : ∀ cenv x, foldedSetIterable i2 cenv x = pure x) (z0 : Z 0 [] m)
   (turn : ∀ i v c1 cenv L acc γ m1 xs s, i < n → EnvOf cenv (relabel scope env) L (bc (fun n => env.cells.lookup n) scope.names []) → m.le m1 → V i v s.heap → Z i xs m1 →
     Bd w c1 γ m1 cenv [L] (ns.map (fun n => ⟨n, none, none⟩) ++ ce) ((acc, au xs) :: nw) s →
     wpAny (model PG w) A (assign t1 cenv v) (fun kq s₂ => wpAny (model PG w) A (eval i2 cenv) (fun x s₃ => wpAny (model PG w) A (pyIter x) (fun it s₄ =>
       bF w A (.ListComp elt [⟨t1, i1, [], 0⟩, ⟨t2, i2, ifs, 0⟩] scope pos) acc cenv (fun s₅ => ∃ γ' m' ρ' ys, m1.le m' ∧ Z (i + 1) (xs ++ ys) m' ∧ cV ρ' = cV (ns.map (fun n => ⟨n, none, none⟩) ++ ce) ∧ Bd w c1 γ' m' cenv [L] ρ' ((acc, au (xs ++ ys)) :: nw) s₅) it s₄) NoE s₃) NoE s₂) NoE s)
   (fin : ∀ γ' m' xs L acc s', m.le m' → Z n xs m' → Bd w c γ' m' env own ρ ((L, NsO) :: (acc, au xs) :: nw) s' → R (.ref acc) L (.ok .next) s') :
   wpAny (model PG w) A (newList []) (fun acc s₃ => wpAny (model PG w) A (newFunctionEnv scope env.globals (bc (fun n => env.cells.lookup n) scope.names []) [] env.qual none .none (some env)) (fun cenv s₄ =>
     codeAny (model PG w) A (.compStart (.ListComp elt [⟨t1, i1, [], 0⟩, ⟨t2, i2, ifs, 0⟩] scope pos) 0 (.ref I) acc { cenv with scope := relabel scope env }) (R acc cenv.locals) s₄) NoE s₃) NoE s := by
 refine x45 T fun fp gw St wr T hfp hgw hst hpr => ?_; have hforg : cV (ns.map (fun n => (⟨n, none, none⟩ : VE)) ++ ce) = ns.map (fun n => ⟨n, none, none⟩) ++ ce := by
   unfold cV; rw [List.map_append, List.map_map]; congr 1
   conv => rhs; rw [← List.map_id ce]
   refine List.map_congr_left fun e he => ?_; obtain ⟨_, a, ha⟩ := ok.hce e he; cases e with
   | mk nm cl vl => simp only at ha; subst ha; rfl
 refine j9 (ns := ns) (ce := ce) B T (fun i xs m1 ρ' nw' => ρ' = ns.map (fun n => ⟨n, none, none⟩) ++ ce ∧ nw' = nw ∧ Z i xs m1) ok hfp hgw hst hpr hs ?_ ⟨rfl, rfl, z0⟩ ?_
 · rintro i v c1 cenv L acc γ m1 ρ' xs nw' s hi hE ⟨rfl, rfl, hz⟩ hm hv B; refine an (turn i v c1 cenv L acc γ m1 xs s hi hE hm hv hz B) (fun kq s₂ h₂ => an h₂ (fun x s₃ h₃ => an h₃ (fun it s₄ h₄ => ?_) fun kq kq e => e) fun kq kq e => e) fun kq kq e => e; obtain ⟨I2, rfl, hc, hp⟩ := h₄; refine ⟨I2, rfl, codeAny_mono hc fun r s₅ q => ⟨q.1, ?_⟩, hp⟩; refine x44 q.2 fun γ' m' ρ' ys h1 h2 h3 h4 => ?_; exact ⟨γ', m', _, _, nw', ⟨rfl, rfl, h2⟩, hm.trans h1, by rw [← hforg, ← h3]; exact h4.forget⟩
 rintro γ' m' ρ' xs nw' L acc s' ⟨rfl, rfl, hz⟩ hm B; exact fin γ' m' xs L acc s' hm hz B
theorem lc2_go {Q : VP} (B : Bd w c γ m env own ρ nw s) (T : Src w A t1 c m own nw I n V s) (ce : List VE) (ns : List Str) (Z : Nat → List Value → Mp → Prop) (Zup : ∀ i xs m m', m.le m' → Z i xs m → Z i xs m')
   (ok : CompOk scope ns ce ρ)
   (hs : ∀ cenv x, foldedSetIterable i2 cenv x = pure x) (z0 : Z 0 [] m)
   (turn : ∀ i v c1 cenv L acc γ m1 xs s, i < n → EnvOf cenv (relabel scope env) L (bc (fun n => env.cells.lookup n) scope.names []) → m.le m1 → V i v s.heap → Z i xs m1 →
     Bd w c1 γ m1 cenv [L] (ns.map (fun n => ⟨n, none, none⟩) ++ ce) ((acc, au xs) :: nw) s →
     wpAny (model PG w) A (assign t1 cenv v) (fun kq s₂ => wpAny (model PG w) A (eval i2 cenv) (fun x s₃ => wpAny (model PG w) A (pyIter x) (fun it s₄ =>
       bF w A (.ListComp elt [⟨t1, i1, [], 0⟩, ⟨t2, i2, ifs, 0⟩] scope pos) acc cenv (fun s₅ => ∃ γ' m' ρ' ys, m1.le m' ∧ Z (i + 1) (xs ++ ys) m' ∧ cV ρ' = cV (ns.map (fun n => ⟨n, none, none⟩) ++ ce) ∧ Bd w c1 γ' m' cenv [L] ρ' ((acc, au (xs ++ ys)) :: nw) s₅) it s₄) NoE s₃) NoE s₂) NoE s)
   (fin : ∀ γ' m' xs a s', m.le m' → Kn m' (At a (au xs)) → Z n xs m' → Bd w c γ' m' env own ρ nw s' → Q (.ref a) s') :
   Lc2Go w A env elt t1 i1 t2 i2 ifs scope pos none E Q (.ref I) s := by
 refine jo (R := fun acc C => compPost (model PG w) A E none Q acc C) B T ce ns Z ok hs z0 turn fun γ' m' xs L acc s' hm hz B' => ?_; obtain ⟨mp, hn⟩ := NsO.ns (B'.at (.head _)); refine ⟨mp, hn, fun h' hs => ?_⟩; have B2 : Bd w c γ' m' env own ρ ((acc, au xs) :: nw) ⟨h', s'.gens, s'.drawn, s'.toks, s'.os⟩ := B'.lose1 (aM hs); refine x13 B2.freeze fun m2 h1 h2 h3 => ?_; exact fin γ' m2 xs acc _ (hm.trans h1) h2 (Zup _ _ _ _ h1 hz) h3
end
end
end
section
section
variable {w : World} {c : Cx} {γ γ' : Array GenState} {m m' : Mp} {env cenv : Env} {own : List Addr} {ρ ρ' : List VE} {nw nw' : Led} {s s' : Shared} {A : Around} {E : VP}
theorem i_neg {a : Int} {t : Tok} {Q : VP} (B : Bd w c γ m env own ρ nw s) (h : ∀ t s', Bd w c γ m env own ρ nw s' → Q (.int (-a) t) s') : wpAny (model PG w) A (unaryOp .USub (.int a t)) Q E s := PyProof.Rows.neg_int (h _ _ (B.tk _ _))
theorem Bd.aft1 {a : Addr} {P P' : Obj → Prop} (B : Bd w c γ m env own ρ nw s) (u : Upd a P P' nw nw') (f : Aft [a] m s m' s') (hP : At a P' s'.heap) : Bd w c s'.gens m' env own ρ nw' s' := by
 have hm : a ∈ own ++ nw.map (·.1) := List.mem_append.mpr (.inr (List.mem_map_of_mem u.mem)); have hn := B.nodup; rw [List.nodup_append] at hn; have ne : ∀ {b : Addr}, b ≠ a → b ∉ [a] := fun h hb => h (mSg hb); refine ⟨fun b o e => f.keep b o (B.old b o e) (ne (B.old_ne e hm)), f.ok, fun b o e => (f.low b o (B.old b o e)).trans (B.low b o e), B.gr.up f.le, B.ble.trans f.le, f.os.trans B.os, rfl, fun i x e => f.gens i x (B.gens ▸ B.gpre i x e), f.bare, B.vars.keep fun b o hb e => f.keep b o e (ne ?_), B.cin, B.caps, fun b hb => ?_, fun p hp => ?_, by rw [u.keys]; exact B.nodup, fun b hb => ?_⟩
 · rcases hb with rfl | ⟨x, hx, hc⟩
   · exact fun e => hn.2.2 _ B.vars.loc a (List.mem_map_of_mem u.mem) e
   rcases B.cin x hx b hc with h | h
   · exact fun e => hn.2.2 _ h a (List.mem_map_of_mem u.mem) e
   obtain ⟨ob, hob⟩ := B.caps b h; exact B.old_ne hob hm
 · obtain ⟨o, ho⟩ := B.ownok b hb; exact ⟨o, f.keep b o ho (ne fun e => hn.2.2 b hb a (List.mem_map_of_mem u.mem) e)⟩
 · rcases u.split hn.2.1 p hp with rfl | ⟨h1, h2⟩
   · exact hP
   refine x12 (B.ledok p h2) fun o ho q => ?_; exact ⟨o, f.keep _ o ho (ne h1), q⟩
 rw [u.keys] at hb; have h0 := B.out b hb; refine ⟨?_, h0.2⟩; have : ∃ o, s.heap.get? b = some o := by
   rcases mAp hb with h | h
   · exact B.ownok b h
   obtain ⟨p, hp, rfl⟩ := mMa h; refine x12 (B.ledok p hp) fun o ho kq => ?_; exact ⟨o, ho⟩
 obtain ⟨o, ho⟩ := this; rw [f.low b o ho]; exact h0.1
theorem Bd.led1 {a : Addr} {P : Obj → Prop} (B : Bd w c γ m env own ρ nw s) (h : (a, P) ∈ nw) : LedOk m s [(a, P)] :=
 ⟨fun p hp => by rcases mSg hp with rfl; exact B.ledok _ h, fun p hp => by rcases mSg hp with rfl; exact (B.out _ (List.mem_append.mpr (.inr (List.mem_map_of_mem h)))).1, by simp⟩
end
end
section
section
variable {w : World} {c : Cx} {γ γ' : Array GenState} {m m' : Mp} {env cenv : Env} {own : List Addr} {ρ ρ' : List VE} {nw nw' : Led} {s s' : Shared} {A : Around} {E : VP}
theorem src_listA {l : Addr} {vs : List Value} {Q : VP} (B : Bd w c γ m env own ρ nw s) (hh : A.handled = none) (hk : ∃ o, m l = some o ∧ au vs o)
   (h : ∀ I s', Bd w c γ m env own ρ nw s' → (∀ target, Src w A target c m own nw I vs.length (fun i v kq => vs[i]? = some v) s') → Q (.ref I) s') : wpAny (model PG w) A (pyIter (.ref l)) Q E s := by
 refine x12 hk fun o ho hP => ?_; have hl : s.heap.IsList l vs.toArray := At.list ⟨o, B.ok _ _ ho, hP⟩; refine wpAny_pyIter_list hl (h _ _ (B.grow (ar _)) fun target => ⟨[l], _, _, [s.heap.objs.size], Itr.list hh (Nat.ne_of_lt (Heap.lt_size (B.ok _ _ ho))) vs, fun b hb => ?_, fun kq h => h.elim, ⟨rfl, ⟨_, Heap.get?_push_size _ rfl, rfl, rfl⟩, hl.at fun o e => ar _ _ o e⟩, B.privOf fun b hb => by simp at hb; exact Nat.le_of_eq hb.symm⟩); rcases mSg hb with rfl
 exact ⟨o, ho⟩
theorem jO {k : Nat} {r : Addr} {Q : VP} (B : Bd w c γ m env own ρ nw s) (hh : A.handled = none) (hr : At r (RangeO k) s.heap) (hsm : Builtin.Range.small 0 k 1 = true)
   (h : ∀ I s', Bd w c γ m env own ρ nw s' → (∀ x p, Src w A (.Name x p) c m own nw I k (fun i v kq => ∃ t, v = .int i t) s') → Q (.ref I) s') :
   wpAny (model PG w) A (pyIter (.ref r)) Q E s := by
 obtain ⟨o, ho, t, u, v, rfl⟩ := hr; refine wpAny_pyIter_range ho hsm ?_; have T : ∀ x p, Itr w A (.Name x p) s.heap.objs.size [] (fun kq => False) k (fun i v kq => ∃ t, v = .int i t) (fun wr' i s' => wr' = [s.heap.objs.size] ∧ IsRangeIter s'.heap s.heap.objs.size (0 + (i : Nat) * 1) ((k : Int) - (i : Nat)) 1) := fun x p => by
   have := Itr.ofW (x := x) (p := p) (Walks.range (prog := PG) (w := w) hh s.heap.objs.size 0 1 k) [] (fun b hb => .inl hb) fun i h st b hb => by
     rcases mSg hb with rfl
     exact ⟨_, st⟩
   simpa using this
 refine h _ _ (B.grow (ar _)) fun x p => ⟨[], _, _, _, T x p, fun b hb => (nomatch hb), fun kq h => h.elim, ⟨rfl, ?_⟩, B.privOf fun b hb => by simp at hb; exact Nat.le_of_eq hb.symm⟩; show (Heap.get? _ _) = _
 rw [show (⟨s.heap.push { cls := .type "range_iterator", data := .fields #[rawInt 0, rawInt (Builtin.Range.rangeSize 0 k 1), rawInt 1] }, s.gens, s.drawn, s.toks, s.os⟩ : Shared).heap.get? s.heap.objs.size = _ from Heap.get?_push_size _ rfl, dT (a12)]
 simp
theorem Src.mono {target : Expr} {I : Addr} {n : Nat} {V V' : VH} (T : Src w A target c m own nw I n V s) (h : ∀ i v hp, i < n → V i v hp → V' i v hp) : Src w A target c m own nw I n V' s := by
 refine x45 T fun fp gw St wr T a b d e => ?_; exact ⟨fp, gw, St, wr, ⟨T.frame, T.live, fun wr i s Q hi hst k => T.item wr i s Q hi hst fun v s' wr' x y z u => k v s' wr' x y (h i v _ hi z) u, T.done, T.self⟩, a, b, d, e⟩
end
end
section
theorem eA (ch j : Nat) : (Builtin.bitAnd ((ch : Int).fdiv (2 ^ (j : Int).toNat)) 1 != 0) = ch.testBit j := by
 rw [bitAnd_m1, Int.toNat_natCast, Int.fdiv_eq_ediv_of_nonneg _ (by exact_mod_cast Nat.zero_le _)]; have e : ((ch : Int) / 2 ^ j % 2) = ((ch / 2 ^ j % 2 : Nat) : Int) := by push_cast; rfl
 rw [e, Nat.testBit_eq_decide_div_mod_eq]; have h : ch / 2 ^ j % 2 < 2 := Nat.mod_lt _ (by decide); generalize ch / 2 ^ j % 2 = r at h; revert r; exact lt2 rfl rfl
section
variable {w : World} {c : Cx} {γ γ' : Array GenState} {m m' : Mp} {env cenv : Env} {own : List Addr} {ρ ρ' : List VE} {nw nw' : Led} {s s' : Shared} {A : Around} {E : VP}
theorem Bd.vals {xs : List Value} {is : List Nat} {f : Nat → Value} (B : Bd w c γ m env own ρ nw s) (h : All2 (fun x i => Kn m (fun kq => x = f i)) xs is) : xs = is.map f := by
 induction h with
 | nil => rfl
 | cons h _ ih => rw [ai, ← ih, B.kn h]
end
end
section
inductive Ce (ρ : List VE) : List VE → Prop
 | nil : Ce ρ []
 | cons {n : Str} {a : Addr} {v : Option Value} {l : List VE} (h : (⟨n, some a, v⟩ : VE) ∈ ρ) (r : Ce ρ l) : Ce ρ (⟨n, some a, v⟩ :: l)
theorem Ce.all {ρ l : List VE} (h : Ce ρ l) : ∀ e ∈ l, e ∈ ρ ∧ ∃ a, e.cel = some a := by
 induction h with
 | nil => exact ce_nil
 | cons h _ ih => exact ce_cons h ih
noncomputable def apart : List Str → Bool
 | [] => true
 | x :: l => !l.contains x && apart l
theorem nodup_of : ∀ {l : List Str}, apart l = true → l.Nodup := by
 intro l; induction l with
 | nil => intro _; exact .nil
 | cons x l ih =>
   intro h; unfold apart at h; rw [Bool.and_eq_true] at h; exact List.nodup_cons.mpr ⟨by simpa using h.1, ih h.2⟩
noncomputable def Tn (ρ ρ' : List VE) : Prop := cV ρ' = cV ρ
theorem Tn.rfl {ρ : List VE} : Tn ρ ρ := Eq.refl _
theorem forg_put {x : Str} {v : Value} {ρ ρ' : List VE} (p : PutV x none v ρ ρ') : cV ρ' = cV ρ := by
 induction p with
 | head => exact Eq.refl _
 | tail _ ih =>
   unfold cV at *
   rw [ai, ai, ih]
theorem Tn.put {x : Str} {v : Value} {ρ ρ₁ ρ₂ : List VE} (h : Tn ρ ρ₁) (p : PutV x none v ρ₁ ρ₂) : Tn ρ ρ₂ := (forg_put p).trans h
section
variable {w : World} {c : Cx} {γ γ' : Array GenState} {m m' : Mp} {env cenv : Env} {own : List Addr} {ρ ρ' : List VE} {nw nw' : Led} {s s' : Shared} {A : Around} {E : VP}
noncomputable def LcK (w : World) (c : Cx) (env : Env) (own : List Addr) (ρ : List VE) (nw : Led) (m : Mp) (P : Value → Heap → Prop) (Qx : VP) : Prop :=
 ∀ x s, bB w c env own ρ nw m (P x) s → Qx x s
theorem LcK.go {P : Value → Heap → Prop} {Qx : VP} {x : Value} (k : LcK w c env own ρ nw m P Qx) (t : Tn ρ ρ') (B : Bd w c γ m' env own ρ' nw s) (hm : m.le m') (hP : Kn m' (P x)) : Qx x s :=
 k x s ⟨γ, m', ρ', hm, hP, t, B⟩
noncomputable def LcT (w : World) (c : Cx) (A : Around) (env : Env) (own : List Addr) (ρ : List VE) (nw : Led) (m : Mp) (elt : Expr) (b : Bool) (P : Value → Heap → Prop) (Qt : Bool → Shared → Prop) : Prop :=
 ∀ s, (b = true → ∀ Qx, LcK w c env own ρ nw m P Qx → wpAny (model PG w) A (eval elt env) Qx NoE s) → (b = false → bB w c env own ρ nw m (fun kq => True) s) → Qt b s
theorem LcT.go {elt : Expr} {b b' : Bool} {P : Value → Heap → Prop} {Qt : Bool → Shared → Prop} (k : LcT w c A env own ρ nw m elt b P Qt) (e : b' = b) (t : Tn ρ ρ') (B : Bd w c γ m' env own ρ' nw s) (hm : m.le m')
   (h : b = true → ∀ Qx, LcK w c env own ρ nw m P Qx → wpAny (model PG w) A (eval elt env) Qx NoE s) : Qt b' s := by
 subst e; exact k s h fun kq => ⟨γ, m', ρ', hm, fun kq kq => trivial, t, B⟩
theorem aA {elt target iter : Expr} {ifs : List Expr} {scope : Scope} {pos : Pos} {Q : VP} (B : Bd w c γ m env own ρ nw s) (ce : List VE)
   (hce : Ce ρ ce) (hf : fe scope ce = true) (hk : scope.kind = .function) (hnm : (scope.names.all fun z => z.2 != .local || scope.names.lookup z.1 == some .local) = true)
   (h : wpAny (model PG w) A (eval iter env) (fun x s₁ => wpAny (model PG w) A (pyIter x) (fun it s₂ => kj w A env elt target iter ifs scope pos none E Q it s₂) NoE s₁) NoE s)
   (hs : ∀ x, foldedSetIterable iter env x = pure x := by intro _; rfl) : wpAny (model PG w) A (eval (.ListComp elt [⟨target, iter, ifs, 0⟩] scope pos) env) Q E s :=
 lc_eval B ce hce.all hf hk hnm h hs
theorem cU {elt target iter : Expr} {ifs : List Expr} {scope : Scope} {pos py spos : Pos} {y : Str} {Q : Flow → Shared → Prop} (B : Bd w c γ m env own ρ nw s) (ce : List VE)
   (hce : Ce ρ ce) (hf : fe scope ce = true) (hk : scope.kind = .function) (hnm : (scope.names.all fun z => z.2 != .local || scope.names.lookup z.1 == some .local) = true)
   (hy : env.kindOf y = some .local) (hsw : (py.line == (Expr.ListComp elt [⟨target, iter, ifs, 0⟩] scope pos).pos.line && !(scope.names.any fun (n, k) => n == y && (k == .local || k == .cell))) = true)
   (h : wpAny (model PG w) A (eval iter env) (fun x s₁ => wpAny (model PG w) A (pyIter x) (fun it s₂ => kj w A env elt target iter ifs scope pos (some (assign (.Name y py) env)) E (fun kq s' => Q .next s') it s₂) NoE s₁) NoE s)
   (hs : ∀ x, foldedSetIterable iter env x = pure x := by intro _; rfl) : wpAny (model PG w) A (exec (.Assign [.Name y py] (.ListComp elt [⟨target, iter, ifs, 0⟩] scope pos) spos) env) Q E s :=
 lc_assign B ce hce.all hf hk hnm hy hsw h hs
section
variable {elt target iter e1 : Expr} {scope : Scope} {pos : Pos} {I : Addr} {n : Nat} {V : VH} {Q : VP}
noncomputable def TurnA (w : World) (A : Around) (env : Env) (elt target : Expr) (scope : Scope) (m : Mp) (n : Nat) (V : VH) (ce : List VE) (ns : List Str) (W : VH) : Prop :=
 ∀ i v c1 cenv L γ m1 own ρ nw s, i < n → EnvOf cenv (relabel scope env) L (bc (fun n => env.cells.lookup n) scope.names []) → m.le m1 → V i v s.heap → (∀ e ∈ ce, e ∈ ρ) → (∀ x ∈ ns, Hn x none ρ) →
   Bd w c1 γ m1 cenv own ρ nw s → ∀ Qx, LcK w c1 cenv own ρ nw m1 (W i) Qx → wpAny (model PG w) A (assign target cenv v) (fun kq s₂ => wpAny (model PG w) A (eval elt cenv) Qx NoE s₂) NoE s
noncomputable def TurnB (w : World) (A : Around) (env : Env) (elt target e1 : Expr) (scope : Scope) (m : Mp) (n : Nat) (V : VH) (ce : List VE) (ns : List Str) (p : Nat → Bool) (W : VH) : Prop :=
 ∀ i v c1 cenv L γ m1 own ρ nw s, i < n → EnvOf cenv (relabel scope env) L (bc (fun n => env.cells.lookup n) scope.names []) → m.le m1 → V i v s.heap → (∀ e ∈ ce, e ∈ ρ) → (∀ x ∈ ns, Hn x none ρ) →
   Bd w c1 γ m1 cenv own ρ nw s → ∀ Qt, LcT w c1 A cenv own ρ nw m1 elt (p i) (W i) Qt → wpAny (model PG w) A (assign target cenv v) (fun kq s₂ => wpAny (model PG w) A (isTrue e1 cenv (eval e1 cenv)) Qt NoE s₂) NoE s
theorem TurnA.to {ce : List VE} {ns : List Str} {W : VH} (h : TurnA w A env elt target scope m n V ce ns W) :
   ∀ i v c1 cenv L γ m1 nw1 s, i < n → EnvOf cenv (relabel scope env) L (bc (fun n => env.cells.lookup n) scope.names []) → m.le m1 → V i v s.heap → (∀ q ∈ nw, q ∈ nw1) →
     Bd w c1 γ m1 cenv [L] (ns.map (fun n => ⟨n, none, none⟩) ++ ce) nw1 s →
     wpAny (model PG w) A (assign target cenv v) (fun kq s₂ => wpAny (model PG w) A (bt [] cenv) (fun ok s₃ =>
         ok = (fun kq => true) i ∧ if ok = true then wpAny (model PG w) A (eval elt cenv) (fun x s₄ => bB w c1 cenv [L] (ns.map (fun n => ⟨n, none, none⟩) ++ ce) nw1 m1 (W i x) s₄) NoE s₃
         else bB w c1 cenv [L] (ns.map (fun n => ⟨n, none, none⟩) ++ ce) nw1 m1 (fun kq => True) s₃) NoE s₂) NoE s := fun i v c1 cenv L γ m1 nw1 s h1 h2 h3 h4 kq B =>
 an (h i v c1 cenv L γ m1 _ _ nw1 s h1 h2 h3 h4 (fun e he => List.mem_append.mpr (.inr he)) (fun x hx => ⟨none, List.mem_append.mpr (.inl (List.mem_map_of_mem (f := fun n => (⟨n, none, none⟩ : VE)) hx))⟩) B _ fun kq kq t => t) (fun kq s₂ h => bQ ⟨rfl, by rw [if_pos rfl]; exact h⟩) fun kq kq x => x
structure CeOk (scope : Scope) (ns : List Str) (ce ρ : List VE) : Prop where
 hk : scope.kind = .function
 hcell : (scope.names.all fun x => x.2 != .cell) = true
 hns : (ns.all fun n => scope.names.lookup n == some .local) = true
 hce : Ce ρ ce
 hcf : (ce.all fun e => scope.names.lookup e.name == some .free) = true
 hnd : apart (ns ++ ce.map (·.name)) = true
theorem CeOk.all {ns : List Str} {ce : List VE} (h : CeOk scope ns ce ρ) : CompOk scope ns ce ρ := ⟨h.hk, h.hcell, h.hns, h.hce.all, h.hcf, nodup_of h.hnd⟩
theorem cf (B : Bd w c γ m env own ρ nw s) (T : Src w A target c m own nw I n V s) (ce : List VE) (ns : List Str) (W : VH)
   (ok : CeOk scope ns ce ρ) (hz : n ≤ sizeLine)
   (turn : TurnA w A env elt target scope m n V ce ns W)
   (fin : ∀ γ' m' xs a s', m.le m' → Kn m' (At a (au xs)) → All2 (fun x i => Kn m' (W i x)) xs (af n) → Bd w c γ' m' env own ρ nw s' → Q (.ref a) s') :
   kj w A env elt target iter [] scope pos none E Q (.ref I) s := by
 refine lc_go B T ce ns (fun kq => true) W ok.all hz turn.to fun γ' m' xs a s' h1 h2 h3 B => ?_; rw [cu] at h3; exact fin γ' m' xs a s' h1 h2 h3 B
theorem dD {y : Str} {py : Pos} (B : Bd w c γ m env own ρ nw s) (T : Src w A target c m own nw I n V s) (ce : List VE) (ns : List Str) (W : VH)
   (ok : CeOk scope ns ce ρ) (hz : n ≤ sizeLine) (hput : Hn y none ρ)
   (turn : TurnA w A env elt target scope m n V ce ns W)
   (fin : ∀ γ' m' xs a ρ' s', m.le m' → Kn m' (At a (au xs)) → All2 (fun x i => Kn m' (W i x)) xs (af n) → PutV y none (.ref a) ρ ρ' → Bd w c γ' m' env own ρ' nw s' → Q .none s') :
   kj w A env elt target iter [] scope pos (some (assign (.Name y py) env)) E Q (.ref I) s := by
 refine lc_go_to B T ce ns (fun kq => true) W ok.all hz hput turn.to fun γ' m' xs a ρ' s' h1 h2 h3 p B => ?_; rw [cu] at h3; exact fin γ' m' xs a ρ' s' h1 h2 h3 p B
theorem dC (B : Bd w c γ m env own ρ nw s) (T : Src w A target c m own nw I n V s) (ce : List VE) (ns : List Str) (p : Nat → Bool) (W : VH)
   (ok : CeOk scope ns ce ρ) (hz : n ≤ sizeLine)
   (turn : TurnB w A env elt target e1 scope m n V ce ns p W)
   (fin : ∀ γ' m' xs a s', m.le m' → Kn m' (At a (au xs)) → All2 (fun x i => Kn m' (W i x)) xs ((af n).filter p) → Bd w c γ' m' env own ρ nw s' → Q (.ref a) s') :
   kj w A env elt target iter [e1] scope pos none E Q (.ref I) s := by
 refine lc_go B T ce ns p W ok.all hz (fun i v c1 cenv L γ m1 nw1 s h1 h2 h3 h4 kq B => ?_) fin
 refine an (turn i v c1 cenv L γ m1 _ _ nw1 s h1 h2 h3 h4 (fun e he => List.mem_append.mpr (.inr he)) (fun x hx => ⟨none, List.mem_append.mpr (.inl (List.mem_map_of_mem (f := fun n => (⟨n, none, none⟩ : VE)) hx))⟩) B
   (fun ok s₃ => ok = p i ∧ if ok = true then wpAny (model PG w) A (eval elt cenv) (fun x s₄ => bB w c1 cenv [L] (ns.map (fun n => ⟨n, none, none⟩) ++ ce) nw1 m1 (W i x) s₄) NoE s₃
         else bB w c1 cenv [L] (ns.map (fun n => ⟨n, none, none⟩) ++ ce) nw1 m1 (fun kq => True) s₃) fun s₃ ht hf => ⟨rfl, ?_⟩) (fun kq s₂ h => tests_one h) fun kq kq x => x
 exact br (fun hb => ht hb _ fun kq kq t => t) fun hb => hf hb
end
end
end
section
noncomputable def BIt (b : Array UInt8) (t : Tok) (i : Nat) (o : Obj) : Prop := o.cls = .type "bytes_iterator" ∧ o.data = .fields #[.bytes b t, .int i 0]
theorem At.bit {h : Heap} {a : Addr} {b : Array UInt8} {t : Tok} {i : Nat} (x : At a (BIt b t i) h) : KBw.IsBytesIter h a b t i := by obtain ⟨o, ho, hc, hd⟩ := x; exact ⟨o, ho, hc, hd⟩
section
variable {w : World} {c : Cx} {γ γ' : Array GenState} {m m' : Mp} {env cenv : Env} {own : List Addr} {ρ ρ' : List VE} {nw nw' : Led} {s s' : Shared} {A : Around} {E : VP}
theorem b_iter {b : Array UInt8} {t : Tok} {Q : VP} (B : Bd w c γ m env own ρ nw s) (h : ∀ I s', Bd w c γ m env own ρ ((I, BIt b t 0) :: nw) s' → Q (.ref I) s') :
   wpAny (model PG w) A (call (.builtin "iter") [.bytes b t]) Q E s := by
 refine call_function_entry (by decide +kernel) (by decide +kernel) kdk_entry_iter (kdk_args_iter _) ?_; unfold Builtin.«iter»; refine aj (m := someArgs "iter" 1 2 _) (wpAny_of_eq (a := [Value.bytes b t]) (by first | rfl | kernel_rfl!) ?_)
 show wpAny _ _ (pyIter (.bytes b t) >>= _) _ _ _
 refine aj (KBw.pyIter_bytes ?_); exact wpAny_pure ⟨_, rfl, h _ _ (B.pushL rfl ⟨rfl, rfl⟩)⟩
theorem bt_item {it : Addr} {i : Nat} {u : UInt8} {b : Array UInt8} {t : Tok} {Q : Option Value → Shared → Prop} (hit : KBw.IsBytesIter s.heap it b t i) (hx : b[i]? = some u)
   (hQ : ∀ h', KBw.IsBytesIter h' it b t (i + 1) → Heap.SameBut it s.heap h' → Q (some (.int (u.toNat : Int) s.toks)) { s with heap := h', toks := s.toks + 1 }) : wpAny (model PG w) A (callSpecial? (.ref it) (aa "__next__")) Q E s := by
 refine x13 (id hit) fun o ho hc hd => ?_
 refine wpAny_callSpecial?_slot (name := PySem.Str.ofString "__next__") (KBw.iter_typeIs hit) KBw.slot_next
   (wpAny_call_entry KBw.slot_next (KBw.iter_typeIs hit) KBw.entry_next ?_ (KBw.args_next _))
 show wpAny _ _ (field (.ref it) 0 >>= _) _ _ s
 refine aj (wpAny_field ho hd (x := .bytes b t) rfl ?_); show wpAny _ _ (if (Value.bytes b t == Value.none) = true then _ else _) _ _ s
 rw [if_neg (show ¬ ((Value.bytes b t == Value.none) = true) from Bool.false_ne_true)]
 show wpAny _ _ (field (.ref it) 1 >>= _) _ _ s
 refine aj (wpAny_field ho hd (x := .int i 0) rfl ?_); refine aj (wpAny_of_eq (a := b) rfl ?_); simp only [Int.toNat_natCast, hx]; refine aj (wpAny_setField ho hd (by simp) (aj (wpAny_mkInt (wpAny_pure ⟨_, rfl, (hQ _ ?_ (Heap.SameBut.update ..))⟩)))); exact ⟨_, Heap.get?_update_self _ ho (Obj.isFreed_of_fields (Obj.data_mapFields hd _)), (Obj.cls_mapFields ..).trans hc, by
   rw [Obj.data_mapFields hd]; simp [rawInt]⟩
theorem bt_stop {it : Addr} {i : Nat} {b : Array UInt8} {t : Tok} {Q : Option Value → Shared → Prop} (hh : A.handled = none) (hit : KBw.IsBytesIter s.heap it b t i) (hx : b[i]? = none)
   (hQ : ∀ h' e a0, Heap.ExtBut it s.heap h' → s.heap.get? e = none → (∃ oe vs, h'.get? e = some oe ∧ oe.cls = .type "StopIteration" ∧ oe.data = .fields vs ∧ vs[0]? = some a0 ∧ vs[1]? = some .none) → E (.ref e) { s with heap := h' }) :
   wpAny (model PG w) A (callSpecial? (.ref it) (aa "__next__")) Q E s := by
 refine x13 (id hit) fun o ho hc hd => ?_
 refine wpAny_callSpecial?_slot (name := PySem.Str.ofString "__next__") (KBw.iter_typeIs hit) KBw.slot_next
   (wpAny_call_entry KBw.slot_next (KBw.iter_typeIs hit) KBw.entry_next ?_ (KBw.args_next _))
 show wpAny _ _ (field (.ref it) 0 >>= _) _ _ s
 refine aj (wpAny_field ho hd (x := .bytes b t) rfl ?_); show wpAny _ _ (if (Value.bytes b t == Value.none) = true then _ else _) _ _ s
 rw [if_neg (show ¬ ((Value.bytes b t == Value.none) = true) from Bool.false_ne_true)]
 show wpAny _ _ (field (.ref it) 1 >>= _) _ _ s
 refine aj (wpAny_field ho hd (x := .int i 0) rfl ?_); refine aj (wpAny_of_eq (a := b) rfl ?_); simp only [Int.toNat_natCast, hx]; refine aj (wpAny_rule (aj (wpAny_setField ho hd (by simp) ?_))); show wpAny _ _ (newExc (.type "StopIteration") [] >>= _) _ _ _
 refine aj ?_; simp only [newExc, newTuple]; refine aj (wpAny_newObj_type ?_ (by size_fits)); refine aj (m := firstArgMember _ _) (wpAny_of_eq (a := Value.none) (by first | rfl | (simp only [firstArgMember]; rfl)) ?_)
 refine wpAny_newObj_type ?_ (by size_fits); simp only [raiseNew]; refine aj (wpAny_handled ?_); rw [show A.in1.handled = none from hh]
 refine aj (wpAny_pure (wpAny_throw ?_)); refine hQ _ _ (.ref (s.heap.update it (Obj.mapFields fun x => x.setIfInBounds 0 Value.none)).objs.size) (((Heap.SameBut.update ..).extBut.push _).push _) ?_ ⟨_, _, Heap.get?_push_size _ rfl, rfl, rfl, by rw [Array.getElem?_append_left (by show _ < 6; decide)]; rfl, by rw [Array.getElem?_append_left (by show _ < 6; decide)]; rfl⟩
 rw [Heap.size_push, Heap.size_after_update]; cases e : s.heap.get? (s.heap.objs.size + 1) with
 | none => rfl
 | some o => exact absurd (Heap.lt_size e) (Nat.not_lt.mpr (Nat.le_succ _))
theorem b_next {it : Addr} {i : Nat} {u : UInt8} {b : Array UInt8} {t : Tok} {Q : VP} (B : Bd w c γ m env own ρ nw s) (up : Upd it (BIt b t i) (BIt b t (i + 1)) nw nw') (hx : b[i]? = some u)
   (h : ∀ t' s', Bd w c γ m env own ρ nw' s' → Q (.int (u.toNat : Int) t') s') : wpAny (model PG w) A (call (.builtin "next") [.ref it]) Q E s := by
 have hit := (B.at up.mem).bit; refine call_function_entry (by decide +kernel) (by decide +kernel) kdk_entry_next (kdk_args_next _) ?_; unfold Builtin.«next»; refine aj (m := someArgs "next" 1 2 _) (wpAny_of_eq (a := [Value.ref it]) (by first | rfl | kernel_rfl!) ?_)
 dsimp only
 refine aj (wpAny_specialOf (name := aa "__next__") (KBw.iter_typeIs hit) KBw.slot_next.lookup ?_); refine wpAny_ite_split (fun hab => absurd hab (by decide)) (fun kq => ?_); refine aj (bt_item hit hx fun h' hit' hs => ?_); refine x13 hit' fun o' ho' hc' hd' => ?_; exact wpAny_pure ⟨_, rfl, h _ _ (B.turn up (fun b o hb e => hs.extBut b o hb e) ⟨o', ho', hc', hd'⟩)⟩
theorem b_stop {it : Addr} {i : Nat} {b : Array UInt8} {t : Tok} {Q : VP} (hh : A.handled = none) (ha : At it (BIt b t i) s.heap) (hx : b[i]? = none)
   (hQ : ∀ h' e a0, Heap.ExtBut it s.heap h' → s.heap.get? e = none → (∃ oe vs, h'.get? e = some oe ∧ oe.cls = .type "StopIteration" ∧ oe.data = .fields vs ∧ vs[0]? = some a0 ∧ vs[1]? = some .none) → E (.ref e) { s with heap := h' }) :
   wpAny (model PG w) A (call (.builtin "next") [.ref it]) Q E s := by
 have hit := ha.bit; refine call_function_entry (by decide +kernel) (by decide +kernel) kdk_entry_next (kdk_args_next _) ?_; unfold Builtin.«next»; refine aj (m := someArgs "next" 1 2 _) (wpAny_of_eq (a := [Value.ref it]) (by first | rfl | kernel_rfl!) ?_)
 dsimp only
 refine aj (wpAny_specialOf (name := aa "__next__") (KBw.iter_typeIs hit) KBw.slot_next.lookup ?_); refine wpAny_ite_split (fun hab => absurd hab (by decide)) (fun kq => ?_); exact aj (bt_stop (i := i) hh hit hx hQ)
structure Rz (s : Shared) (X : List Addr) (outer : List Env) (cls : Value) (e : Addr) (a0 : Value) (s' : Shared) : Prop where
 fly : Heap.FlyingW (hideAll s.heap X) outer e cls a0 s'.heap
 up : s.heap.UpToSlots s'.heap
 gens : s'.gens = s.gens
 os : s'.os = s.os
theorem keep_aft {X : List Addr} (b : Bef w m s) (hk : ∀ a o, s.heap.get? a = some o → a ∉ X → s'.heap.get? a = some o) (hg : s'.gens = s.gens) (ho : s'.os = s.os) (hm : ∀ a ∈ X, m a = none) : Aft X m s m s' :=
 ⟨.rfl, fun a o e => hk a o (b.ok a o e) fun h => (by rw [hm a h] at e; cases e), hk, fun kq kq kq => rfl, ho, fun i x e => by rw [hg]; exact e, by rw [hg]; exact b.bare⟩
theorem Bd.aftX {X : List Addr} (B : Bd w c γ m env own ρ nw s) (f : Aft X m s m' s') (hX : ∀ a ∈ X, a = env.locals ∨ a ∈ nw.map (·.1)) (up : env.locals ∈ X → ∃ o o', s.heap.get? env.locals = some o ∧ s'.heap.get? env.locals = some o' ∧ o'.data = o.data)
   (hsub : ∀ p ∈ nw', p.1 ∈ nw.map (·.1)) (hnd : (nw'.map (·.1)).Nodup) (hl : ∀ p ∈ nw', ∃ o, s'.heap.get? p.1 = some o ∧ p.2 o) : Bd w c s'.gens m' env own ρ nw' s' := by
 have hout : ∀ a ∈ X, a ∈ own ++ nw.map (·.1) := fun a ha => by
   rcases hX a ha with rfl | h
   · exact List.mem_append.mpr (.inl B.vars.loc)
   exact List.mem_append.mpr (.inr h)
 have hn := B.nodup; rw [List.nodup_append] at hn; have ne : ∀ a ∈ own, a ∉ nw.map (·.1) := fun a ha h => hn.2.2 a ha a h rfl; have own' : ∀ a ∈ own, a ≠ env.locals → a ∉ X := fun a ha hne h => by
   rcases hX a h with q | q
   · exact hne q
   exact ne a ha q
 have loc : ∃ o o', s.heap.get? env.locals = some o ∧ s'.heap.get? env.locals = some o' ∧ o'.data = o.data := by
   by_cases h : env.locals ∈ X
   · exact up h
   obtain ⟨o, ho⟩ := B.ownok _ B.vars.loc; exact ⟨o, o, ho, f.keep _ o ho h, rfl⟩
 have V := B.vars; have sub' : ∀ a ∈ own ++ nw'.map (·.1), a ∈ own ++ nw.map (·.1) := fun a ha => by
   rcases mAp ha with h | h
   · exact List.mem_append.mpr (.inl h)
   obtain ⟨p, hp, rfl⟩ := mMa h; exact List.mem_append.mpr (.inr (hsub p hp))
 refine ⟨fun b o e => f.keep b o (B.old b o e) fun h => (B.old_ne e (hout b h)) rfl, f.ok, fun b o e => (f.low b o (B.old b o e)).trans (B.low b o e), B.gr.up f.le, B.ble.trans f.le, f.os.trans B.os, rfl, fun i x e => f.gens i x (B.gens ▸ B.gpre i x e), f.bare, ?_, B.cin, B.caps, fun b hb => ?_, hl, ?_, fun b hb => ?_⟩
 · refine ⟨V.kind, V.glob, V.bltn, V.loc, ?_, V.kl, fun e he cc hc => ?_, V.names, V.cels⟩
   · obtain ⟨mp, ⟨o, es, ep, ho, hd, r⟩, hm⟩ := V.ns; refine x23 loc fun o1 o' h1 h2 h3 => ?_; rw [ho] at h1; cases h1
     exact ⟨mp, ⟨o', es, ep, h2, h3.trans hd, r⟩, hm⟩
   obtain ⟨h1, h2, h3, v, ⟨o, ho, hd⟩, h5⟩ := V.kc e he cc hc; refine ⟨h1, h2, h3, v, ⟨o, f.keep _ o ho ?_, hd⟩, h5⟩; rcases B.cin e he cc hc with q | q
   · exact own' cc q h3
   obtain ⟨ob, hob⟩ := B.caps cc q; exact fun h => B.old_ne hob (hout cc h) rfl
 · by_cases h : b = env.locals
   · subst h; refine x23 loc fun kq o' kq h2 kq => ?_; exact ⟨o', h2⟩
   obtain ⟨o, ho⟩ := B.ownok b hb; exact ⟨o, f.keep b o ho (own' b hb h)⟩
 · rw [List.nodup_append]; exact ⟨hn.1, hnd, fun x hx y hy e => by
     obtain ⟨p, hp, rfl⟩ := mMa hy; exact hn.2.2 x hx _ (hsub p hp) e⟩
 have h0 := B.out b (sub' b hb); refine ⟨?_, h0.2⟩; have : ∃ o, s.heap.get? b = some o := by
   rcases mAp (sub' b hb) with h | h
   · exact B.ownok b h
   obtain ⟨p, hp, rfl⟩ := mMa h; refine x12 (B.ledok p hp) fun o ho kq => ?_; exact ⟨o, ho⟩
 obtain ⟨o, ho⟩ := this; rw [f.low b o ho]; exact h0.1
end
end
section
theorem stop_exc : isSubtype (.type "StopIteration") (.type "BaseException") = pure true := by rw [isSubtype_type]; kernel_rfl
theorem stop_self : isSubtype (.type "StopIteration") (.type "StopIteration") = pure true := by rw [isSubtype_type]; kernel_rfl
theorem stop_tup : isSubtype (.type ((Manifest.find? "StopIteration").elim "type" fun x => x.metatype)) (.type "tuple") = pure false := by
 rw [show ((Manifest.find? "StopIteration").elim "type" fun x => x.metatype) = "type" from by kernel_rfl, isSubtype_type]; kernel_rfl
section
variable {w : World} {c : Cx} {γ γ' : Array GenState} {m m' : Mp} {env cenv : Env} {own : List Addr} {ρ ρ' : List VE} {nw nw' : Led} {s s' : Shared} {A : Around} {E : VP}
theorem fX {T : Addr} {vals : Array Value} {n : Nat} {Q : List Value → Shared → Prop} (B : Bd w c γ m env own ρ nw s) (hh : A.handled = none) (ht : s.heap.IsTuple T vals) (hn : n = vals.size)
   (h : ∀ s', Bd w c γ m env own ρ nw s' → Q vals.toList s') : wpAny (model PG w) A (unpackItems (.ref T) n none) Q E s := by
 subst hn; exact unpackItems_tuple hh ht fun h' he => h _ (B.grow fun a o e => he a o (Nat.ne_of_lt (Heap.lt_size e)) e)
theorem b_make {a : Addr} {ns : List Int} {Q : VP} (B : Bd w c γ m env own ρ nw s) (hh : A.handled = none) (hl : LI a ns s.heap) (hr : ∀ n ∈ ns, 0 ≤ n ∧ n < 256) (hz : ns.length ≤ sizeLine)
   (h : ∀ t s', Bd w c γ m env own ρ nw s' → Q (.bytes (byteArr ns) t) s') : wpAny (model PG w) A (call (.type "bytes") [.ref a]) Q E s := by
 refine x12 hl fun vs h1 h2 => ?_; exact call_bytes_ints h1.list h2 hr (by rw [aF h2]; exact hz) hh fun h' t k hk => h t _ (B.grow hk)
end
theorem blk {env : Env} (hk : env.scope.kind = .function) : env.blockKind = .function := by unfold Env.blockKind; rw [hk]; rfl
theorem swap2 {env : Env} {x y : Str} {px py p p' : Pos} {k k' : Nat} {v1 v2 : Expr} (hk : env.scope.kind = .function) (hx : env.kindOf x = some .local) (hy : env.kindOf y = some .local) (hp : (py.line == px.line) = true) (hxy : ([x, y].eraseDups.length != 2) = false)
   (hst : ([v1, v2].any fun | .Starred .. => true | _ => false) = false) (hf : [v1, v2].all (foldedForSure 8) = false) (hc : [v1, v2].all (constantsAlone 8) = false) :
   swappedStores [.Tuple [.Name x px, .Name y py] k p] (.Tuple [v1, v2] k' p') env = pure (some [x, y]) := by
 unfold swappedStores; have e1 : (env.blockKind != ScopeKind.function) = false := by rw [blk hk]; rfl
 dsimp only
 refine (if_neg ?_).trans ((if_neg ?_).trans ?_)
 · rw [e1]; exact Bool.false_ne_true
 · exact fun h => Bool.noConfusion (h.symm.trans hst)
 have e2 : (List.filterMap (fun
   | Expr.Name id pos => if env.kindOf id == some .local && pos.line == (([Expr.Name x px, Expr.Name y py].head?.map (·.pos.line)).getD 0) then some id else none
   | _ => none) [Expr.Name x px, Expr.Name y py]) = [x, y] := by
   simp only [List.filterMap_cons, List.filterMap_nil, hx, hy]; have h1 : (px.line == (([Expr.Name x px, Expr.Name y py].head?.map (·.pos.line)).getD 0)) = true := by show (px.line == px.line) = true; simp
   have h2 : (py.line == (([Expr.Name x px, Expr.Name y py].head?.map (·.pos.line)).getD 0)) = true := hp; rw [h1, h2]; rfl
 generalize hN : List.filterMap _ [Expr.Name x px, Expr.Name y py] = N; have hN' : N = [x, y] := hN.symm.trans e2; subst hN'; refine (if_neg ?_).trans ((if_neg ?_).trans (if_neg ?_))
 · rw [show ([x, y].length != [Expr.Name x px, Expr.Name y py].length) = false from rfl, show [x, y].length = 2 from rfl, hxy]; exact Bool.false_ne_true
 · rw [hf]; exact Bool.false_ne_true
 rw [hc]; exact Bool.false_ne_true
theorem cm {env : Env} {M : Model} {A : Around} {E : VP} {s : Shared} {x y : Str} {px py p p' pos : Pos} {k k' : Nat} {v1 v2 : Expr} {Q : Flow → Shared → Prop} (hk : env.scope.kind = .function) (hx : env.kindOf x = some .local) (hy : env.kindOf y = some .local) (hp : (py.line == px.line) = true) (hxy : ([x, y].eraseDups.length != 2) = false)
   (hst : ([v1, v2].any fun | .Starred .. => true | _ => false) = false) (hf : [v1, v2].all (foldedForSure 8) = false) (hc : [v1, v2].all (constantsAlone 8) = false)
   (h : wpAny M A (eval (.Tuple [v1, v2] k' p') env) (fun v s₁ => wpAny M A (unpackItems v 2 none) (fun items s₂ =>
     wpAny M A (assignInOrder [bindName env y, bindName env x] items.reverse) (fun kq => Q .next) E s₂) E s₁) E s) :
   wpAny M A (exec (.Assign [.Tuple [.Name x px, .Name y py] k p] (.Tuple [v1, v2] k' p') pos) env) Q E s :=
 Assign_Tuple_swapped (names := [x, y]) h rfl (swap2 hk hx hy hp hxy hst hf hc)
noncomputable def Upto (o : Obj) (o' : Obj) : Prop := ∃ sl, o' = { o with slots := sl }
end
section
section
variable {w : World} {m : Mp} {nw : Led} {s : Shared} {A : Around} {E : VP} {Q : VP}
theorem enterY {d u : Nat} {f : Addr} {args : Args} {R : Result → Shared → Prop} {s₀ : Shared} {oc : Value} {od : Option Addr} {osl : Array (Option Value)} {fd : FuncData} {body : List Stmt} {binds : List (Str × Value)} {ns : List Str} {ρ₀ : List VE}
   (RR : Rm A (d + 1) (u + 3)) (G₀ : Grd w s₀.heap) (b : Bef w m s) (l : LedOk m s nw)
   (ho : (KH w.params).lookup f = some ⟨oc, od, .func fd, osl⟩) (hcd : codeIn (KH w.params) fd.code fd.qualname = true) (hbody : fd.body = .stmts body)
   (hbind : ∀ (A : Around) (E : VP) (Q : List (Str × Value) → Shared → Prop), Q binds s → wpAny (model PG w) A (bindArgs fd args) Q E s₀) (hcl : fd.closure = []) (hgl : fd.globals = mainGlobals) (hbl : fd.builtins = builtinsNs) (hco : fd.scope.isCoroutine = false) (hgen : fd.scope.isGenerator = false) (hk : fd.scope.kind = .function)
   (hcell : (fd.scope.names.all fun x => x.2 != .cell) = true) (hloc : (binds.all fun x => fd.scope.names.lookup x.1 == some .local) = true) (hns : (ns.all fun n => fd.scope.names.lookup n == some .local) = true) (hnd : ns.Nodup)
   (hρ : initV ns binds = ρ₀)
   (h : ∀ (A' : Around) (env : Env) (L : Addr) (c : Cx) (s' : Shared), A' = A.deeper env → env.frame = some L → EnvOf env fd.scope L [] → Rm A' d u → c = ⟨Mp.of s.heap (nw.map (·.1)), [], m, s.gens, s.os⟩ → Bd w c s.gens m env [L] ρ₀ nw s' → (∀ a o, s.heap.get? a = some o → a < L) →
     wpAny (model PG w) A' (execs body env) (fun fl s' => R (.ok (.ret (match fl with | .ret v => v | _ => .none))) s') (fun kq kq => False) s') :
   codeAny (model PG w) A (.call (.ref f) args) R s₀ := by
 have G := b.gr _ b.ok; refine codeAny_call_function (by have := RR.depth; exact a2 this) (G₀.k _ _ ho) rfl hco hgen hbody (codeRec_of G₀.k hcd) (hbind _ _ _ ?_); refine wpAny_newFunctionEnv ?_ ?_ (fun h₁ hns₁ hsb₁ => ⟨G.nolim.fresh _ hsb₁, codeAny_func ?_⟩) hk
 · intro x hx; have := List.all_eq_true.mp hcell x hx; intro e; rw [e] at this; exact absurd this (by decide)
 · intro x hx; have := List.all_eq_true.mp hloc x hx; simpa using this
 have hk₁ : ∀ b o, s.heap.get? b = some o → h₁.get? b = some o := fun b o e => hsb₁.extBut b o (Nat.ne_of_lt (Heap.lt_size e)) (Heap.get?_push_of_some _ e); refine an (h _ (callEnv fd s.heap.objs.size f) s.heap.objs.size _ _ rfl rfl ⟨rfl, rfl, hcl⟩ RR.deeper rfl ?_ fun a o e => Heap.lt_size e) (fun kq kq q => q) (fun kq kq x => x.elim); have old_get : ∀ a o, (Mp.of s.heap (nw.map (·.1))) a = some o → s.heap.get? a = some o := fun a o e => (Mp.of_get e).1; have L_fresh : s.heap.get? s.heap.objs.size = none := by
   cases e : s.heap.get? s.heap.objs.size with
   | none => rfl
   | some o => exact absurd (Heap.lt_size e) (Nat.lt_irrefl _)
 refine ⟨fun a o e => hk₁ a o (old_get a o e), fun a o e => hk₁ a o (b.ok a o e), fun kq kq kq => rfl, b.gr, .rfl, rfl, rfl, fun kq kq e => e, b.bare, ?_, ?_, fun kq h => (nomatch h), ?_, ?_, ?_, ?_⟩
 · subst hρ; refine ⟨hk, hgl, hbl, .head _, ⟨_, hns₁, fun e he kq v hv => ?_⟩, fun e he kq => ?_, fun e he c hc => ?_, ?_, ?_⟩
   · obtain ⟨n, hn, rfl⟩ := mMa he; exact hv
   · obtain ⟨n, hn, rfl⟩ := mMa he; have := List.all_eq_true.mp hns n hn; show fd.scope.names.lookup n = _
     simpa using this
   · obtain ⟨n, hn, rfl⟩ := mMa he; cases hc
   · show ((ns.map _).map _).Nodup
     rw [List.map_map]; show (ns.map fun n => n).Nodup
     rw [List.map_id']; exact hnd
   show ((ns.map _).filterMap _).Nodup
   rw [List.filterMap_map]; have : (ns.filterMap ((fun (e : VE) => e.cel) ∘ fun n => (⟨n, none, binds.reverse.lookup n⟩ : VE))) = [] := by
     rw [List.filterMap_eq_nil_iff]; intro a _; rfl
   rw [this]; exact .nil
 · subst hρ; intro e he a ha; obtain ⟨n, hn, rfl⟩ := mMa he; cases ha
 · intro a ha; rcases mSg ha with rfl
   refine x32 hns₁ fun o kq kq ho' kq => ?_; exact ⟨o, ho'⟩
 · intro p hp; refine x12 (l.ok p hp) fun o ho' q => ?_; exact ⟨o, hk₁ _ _ ho', q⟩
 · rw [List.nodup_append]; refine ⟨List.nodup_cons.mpr ⟨by simp, .nil⟩, l.nodup, fun x hx y hy e => ?_⟩; subst e; rcases mSg hx with rfl
   refine x12 (mMa hy) fun p hp e => ?_; refine x12 (l.ok p hp) fun o ho' kq => ?_; rw [e, L_fresh] at ho'; cases ho'
 intro a ha; rcases mAp ha with ha | ha
 · rcases mSg ha with rfl
   refine ⟨?_, ?_⟩
   · cases e : m s.heap.objs.size with
     | none => rfl
     | some o => have := b.ok _ _ e; rw [L_fresh] at this; cases this
   show (Mp.of s.heap (nw.map (·.1))) s.heap.objs.size = none
   cases e : (Mp.of s.heap (nw.map (·.1))) s.heap.objs.size with
   | none => rfl
   | some o => have := old_get _ _ e; rw [L_fresh] at this; cases this
 obtain ⟨p, hp, rfl⟩ := mMa ha; exact ⟨l.out p hp, Mp.of_none (List.mem_map_of_mem hp)⟩
theorem enterX {d u : Nat} {f : Addr} {args : Args} {R : Result → Shared → Prop} {s₀ : Shared} {oc : Value} {od : Option Addr} {osl : Array (Option Value)} {fd : FuncData} {body : List Stmt} {binds : List (Str × Value)} {ns : List Str} {ρ₀ : List VE}
   (RR : Rm A (d + 1) (u + 3)) (G₀ : Grd w s₀.heap) (b : Bef w m s) (l : LedOk m s nw)
   (ho : (KH w.params).lookup f = some ⟨oc, od, .func fd, osl⟩) (hcd : codeIn (KH w.params) fd.code fd.qualname = true) (hbody : fd.body = .stmts body)
   (hbind : ∀ (M : Model) (A : Around) (E : VP) (Q : List (Str × Value) → Shared → Prop), Q binds s → wpAny M A (bindArgs fd args) Q E s₀) (hcl : fd.closure = []) (hgl : fd.globals = mainGlobals) (hbl : fd.builtins = builtinsNs) (hco : fd.scope.isCoroutine = false) (hgen : fd.scope.isGenerator = false) (hk : fd.scope.kind = .function)
   (hcell : (fd.scope.names.all fun x => x.2 != .cell) = true) (hloc : (binds.all fun x => fd.scope.names.lookup x.1 == some .local) = true) (hns : (ns.all fun n => fd.scope.names.lookup n == some .local) = true) (hnd : ns.Nodup)
   (hρ : initV ns binds = ρ₀)
   (h : ∀ (A' : Around) (env : Env) (L : Addr) (c : Cx) (s' : Shared), A' = A.deeper env → env.frame = some L → EnvOf env fd.scope L [] → Rm A' d u → c = ⟨Mp.of s.heap (nw.map (·.1)), [], m, s.gens, s.os⟩ → Bd w c s.gens m env [L] ρ₀ nw s' → (∀ a o, s.heap.get? a = some o → a < L) →
     wpAny (model PG w) A' (execs body env) (fun fl s' => R (.ok (.ret (match fl with | .ret v => v | _ => .none))) s') (fun kq kq => False) s') :
   codeAny (model PG w) A (.call (.ref f) args) R s₀ :=
 enterY RR G₀ b l ho hcd hbody (fun A E Q q => hbind _ A E Q q) hcl hgl hbl hco hgen hk hcell hloc hns hnd hρ h
end
end
section
noncomputable abbrev KK (w : World) : Frag := KH w.params
noncomputable def eg (w : World) (tk : Tok) (lst : Addr) (n : Nat) : Obj := { cls := .type "dict", data := .dict #[{ hash := PyData.keyHash w.params (aa "_headers"), key := .str (aa "_headers") tk, val := .ref lst }] n }
noncomputable def HdK (w : World) (m : Mp) (x lst : Addr) : Prop := ∃ dx tk n, m x = some (instObj 248 dx) ∧ m dx = some (eg w tk lst n)
theorem HdK.up {w : World} {m m' : Mp} {x lst : Addr} (l : m.le m') (h : HdK w m x lst) : HdK w m' x lst := by obtain ⟨dx, tk, n, h1, h2⟩ := h; exact ⟨dx, tk, n, l _ _ h1, l _ _ h2⟩
theorem HdK.inst {w : World} {m : Mp} {x lst : Addr} {h : Heap} (k : HdK w m x lst) (ok : Ok m h) : ∃ dx tk n, InstAt h x (instObj 248 dx) 248 (some (eg w tk lst n)) := by
 refine x32 k fun dx tk n h1 h2 => ?_; exact ⟨dx, tk, n, ⟨ok _ _ h1, rfl, rfl, ok _ _ h2⟩⟩
theorem iu (C : Addr) (rest : List Value) (kw : List (Str × Value)) : (Code.builtin "type.__call__" ⟨.ref C :: rest, kw⟩).weight = 1 := by kernel_rfl
theorem iU (C : Addr) (rest : List Value) (kw : List (Str × Value)) : (Code.builtin "type.__call__" ⟨.ref C :: rest, kw⟩).cUnits = 1 := by kernel_rfl
theorem Rm.under {A : Around} {d u : Nat} (r : Rm A (d + 2) (u + 2)) (C : Addr) (rest : List Value) (kw : List (Str × Value)) : Rm (A.under (.builtin "type.__call__" ⟨.ref C :: rest, kw⟩)) d u := by
 refine ⟨r.handled, ?_, ?_⟩
 · have h1 := r.depth; show A.depth + (Code.builtin "type.__call__" ⟨.ref C :: rest, kw⟩).weight + d < _
   rw [iu]; exact a21 h1
 have h1 := r.units; show A.units + (Code.builtin "type.__call__" ⟨.ref C :: rest, kw⟩).cUnits + u < _
 rw [iU]; exact a21 h1
section
variable {w : World} {c : Cx} {γ γ' : Array GenState} {m m' : Mp} {env cenv : Env} {own : List Addr} {ρ ρ' : List VE} {nw nw' : Led} {s s' : Shared} {A : Around} {E : VP}
theorem cA {x lst f : Addr} {name : Str} {pl : Sem Bool} {Q : Value × List Value → Shared → Prop} (B : Bd w c γ m env own ρ nw s) (hx : HdK w m x lst) (hf : findIn (KK w) (.ref 248) name = some (some (.ref f))) (ht : typeIn (KK w) (.ref f) = some (.type "function"))
   (hs : ∀ tk n, shadowIn (some (eg w tk lst n)) name = some false) (h : Q (.ref f, [.ref x]) s) : wpAny (model PG w) A (getMethod (.ref x) name pl) Q E s := by
 refine x31 (hx.inst B.ok) fun dx tk n I => ?_; exact method_fn (B.kn B.gr).k I (by rfl) (by rfl) hf ht (hs tk n) h
theorem ji {x lst : Addr} {expr : Bool} {Q : VP} (B : Bd w c γ m env own ρ nw s) (hx : HdK w m x lst) (h : ∀ s', Bd w c γ m env own ρ nw s' → Q (.ref lst) s') : wpAny (model PG w) A (getAttr (.ref x) (aa "_headers") expr) Q E s := by
 refine x31 (hx.inst B.ok) fun dx tk n I => ?_; exact get_value (B.kn B.gr).k I (by rfl) (by rfl) (by rfl) (h _ (B.tk _ _))
theorem fV {f : Addr} {first : List Value} {e : Expr} {rest : List Expr} {pos : Pos} {Q : VP} (hk : keepIn (KK w) (.ref f) = true)
   (h : wpAny (model PG w) A (spliced (backTo pos (starEach (e :: rest) env))) (fun vs s₁ => (KK w).In s₁.heap ∧ wpAny (model PG w) A (call (.ref f) (first ++ vs)) Q E s₁) E s)
   (he : starEach (e :: rest) env = (false, eval e env) :: starEach rest env := by rfl) (hplain : (backTo pos (starEach rest env)).any (·.1) = false := by rfl) :
   wpAny (model PG w) A (callWith pos (.ref f) first (backTo pos (starEach (e :: rest) env)) []) Q E s := by
 rw [he] at h ⊢; exact callWith_of (by show ((false || (backTo pos (starEach rest env)).any (·.1)) || false) = false; rw [hplain]; rfl) (keeps_K hk) (evalArgs_plain h)
theorem Bd.adopt {a : Addr} {P : Obj → Prop} (B : Bd w c γ m env own ρ nw s) (f : Aft [] m s m' s') (hn : s.heap.get? a = none) (hm : m' a = none) (hP : At a P s'.heap) : Bd w c s'.gens m' env own ρ ((a, P) :: nw) s' := by
 refine x12 hP fun o ho hp => ?_; refine (B.aft f).addL ho hp hm ?_ fun h => ?_
 · cases e : c.old a with
   | none => rfl
   | some ob => have := B.old a ob e; rw [hn] at this; cases this
 rcases mAp h with h | h
 · obtain ⟨ob, h1⟩ := B.ownok a h; rw [hn] at h1; cases h1
 obtain ⟨p, hp2, rfl⟩ := mMa h; refine x12 (B.ledok p hp2) fun ob h1 kq => ?_; rw [hn] at h1; cases h1
theorem o_set {x dx lst : Addr} {Q : Unit → Shared → Prop} (B : Bd w c γ m env own ρ nw s) (hx : m x = some (instObj 248 dx)) (up : Upd dx (fun o => o = emptyDict) (fun o => ∃ tk n, o = eg w tk lst n) nw nw')
   (h : ∀ s', Bd w c γ m env own ρ nw' s' → Q () s') : wpAny (model PG w) A (setAttr (.ref x) (aa "_headers") (.ref lst)) Q E s := by
 have X := (B.kn B.gr).k; obtain ⟨od, D, rfl⟩ := B.at up.mem; have hxh := B.ok _ _ hx; have I : InstAt s.heap x (instObj 248 dx) 248 (some emptyDict) := ⟨hxh, rfl, rfl, D⟩; refine set_plain X I (by rfl) ?_; refine osa_open (s := { s with toks := s.toks + 1 }) X I (by rfl) (show takerIn (KK w) 248 (aa "_headers") = some none from by rfl) fun b => ?_
 refine x12 (any_some (show (clsIn (KK w) 248).any (·.hasDict) = true from by rfl)) fun cd hc hd' => ?_
 refine aj (wpAny_pure (aj (aj (wpAny_loadPart (s := { s with toks := s.toks + 1 }) hxh (aj (Looks.here (s := ⟨s.heap, s.gens, s.drawn, s.toks + 1, s.os⟩) (looks_clsIn X hc) ?_))))))
 rw [hd']; refine wpAny_pure (a := some dx) (aj (wpAny_pure (aj ?_))); unfold nsSet; refine aj (aj (wpAny_askSetting (wpAny_pure (aj (wpAny_mkText (aj (wpAny_loadPart (s := { s with toks := s.toks + 1 + 1 }) D ?_)))))))
 dsimp only
 have hnone : aRefKeyMayBeTheName (aa "_headers") #[] = false := by rw [aRefKeyMayBeTheName_at]; simp
 rw [hnone]; refine wpAny_updatePart (s := { s with toks := s.toks + 1 + 1 }) D ?_
 have D' : (s.heap.update dx (Obj.putName (aa "_headers") (PyData.keyHash w.params (aa "_headers")) (.str (aa "_headers") (s.toks + 1)) (.ref lst))).get? dx = some (eg w (s.toks + 1) lst 1) := by
   rw [Heap.get?_update_self _ D (by rfl)]; rfl
 refine aj (wpAny_lookBehind (o := eg w (s.toks + 1) lst 1) D' (pastItsLine_dict (by rw [sizeLine_eq]; show 1 ≤ _; decide)) ?_)
 refine wpAny_pure (h _ (B.turn up (fun b o hb e => ?_) ⟨_, D', _, _, rfl⟩)); exact (Heap.SameBut.update s.heap dx _).extBut b o hb e
theorem for_empty {target : Expr} {body : List Stmt} {l : Addr} {Q : Flow → Shared → Prop} (B : Bd w c γ m env own ρ nw s) (hh : A.handled = none) (hl : At l (au []) s.heap) (h : ∀ γ s', Bd w c γ m env own ρ nw s' → Q .next s') :
   wpAny (model PG w) A (pyIter (.ref l)) (fun it s₂ => codeAny (model PG w) A (.forLoop target it body [] env) (fun r s' => match r with | .ok f => Q f s' | .error e => cameBackBy (model PG w) A env E e s') s₂) E s := by
 have hl' := hl.list; refine x12 (id hl) fun ol hol kq => ?_; refine wpAny_pyIter_list hl' ?_; have B1 : Bd w c γ m env own ρ nw ⟨s.heap.push { cls := .type "list_iterator", data := .fields #[.ref l, .int 0 0] }, s.gens, s.drawn, s.toks, s.os⟩ := B.grow (ar _); have T := Itr.list (w := w) hh (target := target) (I := s.heap.objs.size) (Nat.ne_of_lt (Heap.lt_size hol)) []; refine codeAny_forLoop_any (fun k s₂ => s₂ = ⟨s.heap.push { cls := .type "list_iterator", data := .fields #[.ref l, .int 0 0] }, s.gens, s.drawn, s.toks, s.os⟩) (fun n s₂ hI => ?_) 0 rfl; subst hI; refine an (T.done [s.heap.objs.size] _ (fun s₁ => ∃ γ, Bd w c γ m env own ρ nw s₁) ⟨rfl, ⟨_, Heap.get?_push_size _ rfl, rfl, rfl⟩, hl'.at fun o e => ar _ _ o e⟩ fun s' ch => ⟨_, B1.ch ch (B.privOf fun b hb => by simp at hb; exact Nat.le_of_eq hb.symm) fun kq hf => hf.elim⟩) (fun r s₁ h₁ => ?_) fun kq kq x => x.elim; cases r with
 | none => obtain ⟨γ2, B2⟩ := h₁; exact wpAny_execs_nil (h γ2 s₁ B2)
 | some v => exact h₁.elim
end
end
section
theorem gG {prog : Program} {w : World} {h : Heap} {d : Addr} (ho : h.get? d = some emptyDict) : h.DictAt (PySem.strKind prog w) d [] 0 :=
 ⟨emptyDict, #[], ho, ⟨rfl, rfl, rfl⟩, rfl, fun e he => (by simp at he), .nil, .nil⟩
section
variable {w : World} {c : Cx} {γ γ' : Array GenState} {m m' : Mp} {env cenv : Env} {own : List Addr} {ρ ρ' : List VE} {nw nw' : Led} {s s' : Shared} {A : Around} {E : VP}
theorem gm_items {d : Addr} {pl : Sem Bool} {Q : Value × List Value → Shared → Prop} (hd : s.heap.get? d = some emptyDict) (h : Q (.builtin "dict.items", [.ref d]) s) : wpAny (model PG w) A (getMethod (.ref d) (aa "items") pl) Q E s :=
 getMethod_builtin ⟨_, hd, rfl⟩ PySem.F.plainAttrs_dict PySem.F.slot_dict_items PySem.F.type_dict_items (fun a e => by cases e; exact ⟨_, hd, rfl⟩) h
theorem d_items {d : Addr} {Q : VP} (B : Bd w c γ m env own ρ nw s) (hd : m d = some emptyDict) (hs : (d == sysModules) = false)
   (h : ∀ v s', Bd w c γ m env own ρ nw s' → s'.heap.IsItemsView v d → Q (.ref v) s') : wpAny (model PG w) A (call (.builtin "dict.items") [.ref d]) Q E s := by
 have ho := B.ok _ _ hd; refine call_meetsIn PySem.F.slot_dict_items ⟨_, ho, rfl⟩ PySem.F.entry_dict_items (PySem.F.args_dict_items_1 _) (meets_dict_items (PySem.strKind PG w) d hs) ⟨⟨[], (gG ho).dictOf⟩, ?_⟩; exact h _ _ (B.grow (ar _)) ⟨_, Heap.get?_push_size _ rfl, rfl, rfl⟩
theorem j3 {target : Expr} {body : List Stmt} {v d : Addr} {Q : Flow → Shared → Prop} (B : Bd w c γ m env own ρ nw s) (hh : A.handled = none) (hd : m d = some emptyDict) (hv : s.heap.IsItemsView v d) (h : ∀ γ s', Bd w c γ m env own ρ nw s' → Q .next s') :
   wpAny (model PG w) A (pyIter (.ref v)) (fun it s₂ => codeAny (model PG w) A (.forLoop target it body [] env) (fun r s' => match r with | .ok f => Q f s' | .error e => cameBackBy (model PG w) A env E e s') s₂) E s := by
 have ho := B.ok _ _ hd; refine wpAny_pyIter_items (knd := PySem.strKind PG w) hv (gG ho) ?_; generalize hob : ({ cls := .type "dict_itemiterator", data := .fields #[.none, .bool false, .ref d, .int 0 0, .int (([] : List (Str × Value)).length : Nat) 0, .int (0 : Nat) 0, .none, .none] } : Obj) = ob; have hfr : ob.isFreed = false := by rw [← hob]; rfl
 have B1 : Bd w c γ m env own ρ nw ⟨s.heap.push ob, s.gens, s.drawn, s.toks, s.os⟩ := B.grow (ar _); have hfresh := B.fresh; refine codeAny_forLoop_any (fun k s₂ => s₂ = ⟨s.heap.push ob, s.gens, s.drawn, s.toks, s.os⟩) (fun n s₂ hI => ?_) 0 rfl; subst hI; refine wpAny_pyNext_items_end (knd := PySem.strKind PG w) (kvs := []) (i := 0) hh (ok := .none) (ov := .none) (d := d) (ep := 0) ?_ (gG (ar _ _ _ ho)) rfl fun h' he => ?_
 · show (Heap.get? _ _) = _
   rw [Heap.get?_push_size _ hfr, ← hob]; rfl
 refine wpAny_execs_nil (h γ _ ?_); exact B1.lose (fun b o hb e => he b o hb e) hfresh.1 hfresh.2.2 hfresh.2.1
theorem cF {f : Addr} {first : List Value} {e : Expr} {rest : List Expr} {pos kpos cpos : Pos} {kn : Str} {b : Bool} {kk : Nat} {Q : VP} (hk : keepIn (KK w) (.ref f) = true) (X : (KK w).In s.heap)
   (h : wpAny (model PG w) A (spliced (backTo pos (starEach (e :: rest) env))) (fun vs s₁ => (KK w).In s₁.heap ∧ wpAny (model PG w) A (call (.ref f) (first ++ vs) [(kn, .bool b)]) Q E s₁) E s)
   (hplain : ((backTo pos (starEach (e :: rest) env)).any (·.1) || (backToKw pos (keywordEach [⟨some kn, .Constant (.bool b) kk cpos, kpos⟩] env)).any (·.1.isNone)) = false := by rfl) (he : starEach (e :: rest) env = (false, eval e env) :: starEach rest env := by rfl) :
   wpAny (model PG w) A (callWith pos (.ref f) first (backTo pos (starEach (e :: rest) env)) (backToKw pos (keywordEach [⟨some kn, .Constant (.bool b) kk cpos, kpos⟩] env))) Q E s := by
 refine callWith_KW (K := KK w) X hk (by rfl) (an h (fun vs s₁ h₁ => ?_) fun kq kq x => x) hplain he; show wpAny _ _ (evalAll [do let v ← eval (.Constant (.bool b) kk cpos) env; standAt pos; pure v]) _ _ _
 refine wpAny_evalAll_cons (aj (wpAny_Constant_bool (aj (wpAny_standAt (wpAny_pure (wpAny_evalAll_nil ?_)))))); exact h₁
end
end
local macro_rules | `(tactic| ktf_call $s:str) => Mine.wkX s.getString
section
section
variable {w : World}
noncomputable def flagNames : List Str := ["OPTIMIZED", "NEWLOCALS", "VARARGS", "VARKEYWORDS", "NESTED", "GENERATOR", "NOFREE", "COROUTINE", "ITERABLE_COROUTINE", "ASYNC_GENERATOR"]
noncomputable def aw (k : Nat) : Str := if k < 10 then flagNames.getD k ak else aa "0x" ++ Txt.item (aa "1248") ((k : Int).fmod 4) ++ Txt.mul (aa "0") ((k : Int).fdiv 4)
theorem c_word (k : Nat) (hk : k < 32) {A : Around} {m : Mp} {s : Shared} {t : Tok} {Q E : VP} (hR : Rm A 1 4) (b : Bef w m s)
   (h : ∀ t m' s', Aft [] m s m' s' → Q (.str (aw k) t) s') :
   wpAny (model PG w) A (call (.ref 264) [.int k t]) Q E s := by
 refine dK (d := 0) (u := 1) (nw := []) (ns := ["place"]) (ρ₀ := [⟨"place", none, some (.int k t)⟩]) hR b .nil rfl rfl rfl rfl rfl rfl rfl rfl rfl rfl (by decide +kernel) (by rfl) (by decide +kernel) (by decide +kernel) rfl ?_; intro A env L c s' hE hR' hc B hL; ktf_call "opq"; ktf_call "sts"; refine br (fun hb => ?_) (fun hb => ?_)
 · have hk10 : k < 10 := by simp at hb; exact a251 hb
   ktf_call "sts"; refine gf B (by decide +kernel) (by ktf_call "fit") (by decide +kernel) ?_; clear B; intro a1 m1 s hm1 hk1 B; ktf_call "sts"; refine x12 (B.kn hk1) fun vs hl hs => ?_; have e : Txt.split (aa "OPTIMIZED NEWLOCALS VARARGS VARKEYWORDS NESTED GENERATOR NOFREE COROUTINE ITERABLE_COROUTINE ASYNC_GENERATOR") (aa " ") = flagNames := by decide +kernel
   rw [e] at hs; obtain ⟨t', hv⟩ := dk hs (i := k) (n := aw k) (by unfold aw; rw [if_pos hk10]; rw [ab]; rw [ac (by simpa [flagNames] using hk10)]; rfl); refine aT hl (a12) (a250 hk10) hv ?_; ktf_call "qs"; exact h _ m1 _ (B.done hc .nil av)
 have hk10 : ¬ k < 10 := by simp at hb; exact a249 hb
 ktf_call "sts"; have hm : 0 ≤ (k : Int).fmod 4 ∧ (k : Int).fmod 4 < 4 := ⟨Int.fmod_nonneg_of_pos _ (by decide), Int.fmod_lt_of_pos _ (by decide)⟩; have hd : 0 ≤ (k : Int).fdiv 4 ∧ (k : Int).fdiv 4 < 8 := by rw [Int.fdiv_eq_ediv_of_nonneg _ (by decide)]; exact a248 hk
 refine gY B (a247 hm) (by rw [show ((aa "1248").length : Int) = 4 from by decide +kernel]; exact hm.2) (fh (a246 hm) (a245 hm)) ?_; clear B; intro t1 s B
 refine cG B (by rw [jp]; decide +kernel) ?_; clear B; intro t2 s B; ktf_call "sts"; have hd8 : ∃ j : Nat, j < 8 ∧ (k : Int).fdiv 4 = j := ⟨((k : Int).fdiv 4).toNat, by exact a244 hd, by exact a243 hd⟩; have hq : MulOk (aa "0") ((k : Int).fdiv 4) ∧ (Txt.mul (aa "0") ((k : Int).fdiv 4)).length ≤ 8 := by
   refine x12 hd8 fun j hj e => ?_; rw [e]; have : ∀ j : Fin 8, MulOk (aa "0") (j.val : Nat) ∧ (Txt.mul (aa "0") (j.val : Nat)).length ≤ 8 := by unfold MulOk; decide +kernel
   ktf_call "qs"; exact this ⟨j, hj⟩
 refine s_mul B hq.1 ?_; clear B; intro t3 s B; refine cG B (by have := hq.2; rw [aq, jp, sizeLine_eq]; have : (aa "0x").length = 2 := (by decide +kernel); (first | lia | omega)) ?_; clear B; intro t4 s B
 have e : aw k = aa "0x" ++ Txt.item (aa "1248") ((k : Int).fmod 4) ++ Txt.mul (aa "0") ((k : Int).fdiv 4) := by unfold aw; rw [if_neg hk10]
 rw [← e]; ktf_call "qs"; exact h _ m _ (B.done hc .nil av)
end
end
section
theorem bY {env : Env} : ∀ {names : List (Str × NameKind)} {x : Str}, names.lookup x = some .cell →
   (names.map fun (n, k) => if (k == NameKind.free && env.scope.kind == .function && env.kindOf n == some .cell) then (n, NameKind.cell) else (n, k)).lookup x = some .cell
 | [], _, h => by simp at h
 | (n, k) :: r, x, h => by
   have ih := @bY env r x; show List.lookup x ((if (k == NameKind.free && env.scope.kind == .function && env.kindOf n == some .cell) = true then (n, NameKind.cell) else (n, k)) :: _) = _
   cases hx : x == n with
   | true =>
     simp only [List.lookup_cons, hx] at h; cases h
     simp [List.lookup_cons, hx]
   | false =>
     simp only [List.lookup_cons, hx] at h; by_cases hc : (k == NameKind.free && env.scope.kind == .function && env.kindOf n == some .cell) = true
     · rw [if_pos hc]; simp only [List.lookup_cons, hx]; exact ih h
     rw [if_neg hc]; simp only [List.lookup_cons, hx]; exact ih h
theorem b7 {M : Model} {A : Around} {E : VP} {s : Shared} {scope : Scope} {globals : Addr} {closure : List (Str × Addr)} {qual : Str} {env : Env} {kn : Str} {Q : Env → Shared → Prop}
   (hcf1 : ∀ n acc, cellsFrom n scope.names acc = (kn, n) :: acc) (hcp1 : ∀ h, pushCells h scope.names = h.push { cls := .type "cell", data := .cell none })
   (h : Q (newEnv scope s.heap.objs.size globals ((kn, s.heap.objs.size + 1) :: closure) qual none .none (some env) builtinsNs) ⟨(s.heap.push { cls := .type "dict", data := .dict #[] }).push { cls := .type "cell", data := .cell none }, s.gens, s.drawn, s.toks, s.os⟩) :
   wpAny M A (newFunctionEnv scope globals closure [] qual none .none (some env)) Q E s := by
 simp only [newFunctionEnv, Option.isSome_some, if_true]; refine aj (wpAny_alloc ?_); refine aj (wpAny_layCells _ (fun name kind cells => by cases hkc : kind == NameKind.cell <;> simp [hkc]) _ _ _ _ ?_)
 rw [hcf1, hcp1, Heap.size_push]; refine aj ?_; rw [List.forIn_nil]; exact wpAny_pure (wpAny_pure h)
section
variable {w : World} {c : Cx} {γ γ' : Array GenState} {m m' : Mp} {env cenv : Env} {own : List Addr} {ρ ρ' : List VE} {nw nw' : Led} {s s' : Shared} {A : Around} {E : VP}
theorem Bd.outN {caps : List Addr} {L : Addr} {Ls : List Addr} (B : Bd w c γ m env own ρ nw s) (C : Bd w (c.inner own s.heap caps) γ' m' cenv (L :: Ls) ρ' nw' s') (hL : cenv.locals = L) : Bd w c γ' m' env own ρ ((L, NsO) :: nw') s' := by
 refine x12 C.vars.ns fun mp hn kq => ?_; rw [hL] at hn; refine x12 (NsO.of hn) fun o ho hP => ?_; have hLo := C.out L (List.mem_append.mpr (.inl (.head _))); have hnd := C.nodup; rw [List.nodup_append] at hnd; have hin : ∀ b ∈ own, b ≠ L := fun b hb e => by
   obtain ⟨ob, h⟩ := B.ownok b hb; have := hLo.2; simp only [Cx.inner] at this; rw [if_pos (e ▸ hb)] at this; rw [e, this] at h; cases h
 refine (B.comeback C).addL ho hP hLo.1 ?_ fun h => ?_
 · have := hLo.2; simp only [Cx.inner] at this; rwa [if_neg (fun h => hin L h rfl)] at this
 rcases mAp h with h | h
 · exact hin L h rfl
 exact hnd.2.2 L (.head _) L h rfl
theorem ka {elt target iter : Expr} {ifs : List Expr} {scope : Scope} {pos : Pos} {I : Addr} {ns : List Str} {kn : Str} {ce : List VE} {R : Value → Addr → Result → Shared → Prop}
   {fp wr : List Addr} {gw : Nat → Prop} {n : Nat} {V : VH} {St : List Addr → Nat → Shared → Prop}
   (B : Bd w c γ m env own ρ nw s) (T : Itr w A target I fp gw n V St) (Inv : Nat → List Value → Mp → List VE → Led → Prop)
   (hk : scope.kind = .function) (hcf1 : ∀ n acc, cellsFrom n scope.names acc = (kn, n) :: acc) (hcp1 : ∀ h, pushCells h scope.names = h.push { cls := .type "cell", data := .cell none }) (hkn : scope.names.lookup kn = some .cell) (hns : (ns.all fun n => scope.names.lookup n == some .local) = true)
   (hce : ∀ e ∈ ce, e ∈ ρ ∧ ∃ a, e.cel = some a) (hcf : (ce.all fun e => scope.names.lookup e.name == some .free) = true) (hnd : (ns ++ kn :: ce.map (·.name)).Nodup)
   (hfp : ∀ b ∈ fp, ∃ o, m b = some o) (hgw : ∀ j, gw j → c.G[j]? = none) (hst : St wr 0 s) (p : Priv wr c m own nw)
   (turn : ∀ i v c1 cenv L acc γ m1 ρ' xs nw' s, i < n → EnvOf cenv (relabel scope env) L ((kn, L + 1) :: bc (fun n => env.cells.lookup n) scope.names []) → Inv i xs m1 ρ' nw' → m.le m1 → V i v s.heap → Bd w c1 γ m1 cenv [L, L + 1] ρ' ((acc, au xs) :: nw') s →
     wpAny (model PG w) A (assign target cenv v) (fun kq s₂ => wpAny (model PG w) A (bt ifs cenv) (fun ok s₃ =>
         if ok = true then wpAny (model PG w) A (eval elt cenv) (fun x s₄ => ∃ γ' m' ρ' nw', xs.length ≤ sizeLine ∧ Inv (i + 1) (xs ++ [x]) m' ρ' nw' ∧ m.le m' ∧ Bd w c1 γ' m' cenv [L, L + 1] ρ' ((acc, au xs) :: nw') s₄) NoE s₃
         else ∃ γ' m' ρ' nw', Inv (i + 1) xs m' ρ' nw' ∧ m.le m' ∧ Bd w c1 γ' m' cenv [L, L + 1] ρ' ((acc, au xs) :: nw') s₃) NoE s₂) NoE s)
   (h0 : ∀ L, Inv 0 [] m (ns.map (fun n => ⟨n, none, none⟩) ++ ⟨kn, some (L + 1), none⟩ :: ce) nw)
   (fin : ∀ γ' m' ρ' xs nw' L acc s', Inv n xs m' ρ' nw' → m.le m' → Bd w c γ' m' env own ρ ((L, NsO) :: (acc, au xs) :: nw') s' → R (.ref acc) L (.ok .next) s') :
   wpAny (model PG w) A (newList []) (fun acc s₃ => wpAny (model PG w) A (newFunctionEnv scope env.globals (bc (fun n => env.cells.lookup n) scope.names []) [] env.qual none .none (some env)) (fun cenv s₄ =>
     codeAny (model PG w) A (.compStart (.ListComp elt [⟨target, iter, ifs, 0⟩] scope pos) 0 (.ref I) acc { cenv with scope := relabel scope env }) (R acc cenv.locals) s₄) NoE s₃) NoE s := by
 refine wpAny_newList ?_ (by decide); have hf0 := B.fresh; have B1 : Bd w c γ m env own ρ ((s.heap.objs.size, au []) :: nw) ⟨s.heap.push { cls := .type "list", data := .seq ([] : List Value).toArray }, s.gens, s.drawn, s.toks, s.os⟩ := B.pushL rfl ⟨_, rfl⟩; generalize hacc : s.heap.objs.size = acc at *
 generalize hs1 : (⟨s.heap.push { cls := .type "list", data := .seq ([] : List Value).toArray }, s.gens, s.drawn, s.toks, s.os⟩ : Shared) = s1 at *
 have hs1' : s1 = ⟨s.heap.push { cls := .type "list", data := .seq ([] : List Value).toArray }, s.gens, s.drawn, s.toks, s.os⟩ := hs1.symm; have k1 : ∀ a o, s.heap.get? a = some o → s1.heap.get? a = some o := fun a o e => by rw [hs1']; exact ar _ a o e
 have g1 : s1.gens = s.gens := by rw [hs1']
 refine b7 hcf1 hcp1 ?_; have hf1 := B1.fresh; have hns0 : ((s1.heap.push { cls := .type "dict", data := .dict #[] }).push { cls := .type "cell", data := .cell none }).Ns s1.heap.objs.size (fun kq => none) := (Heap.Ns.new s1.heap (.type "dict")).keeps (ar _); have hcl0 : ((s1.heap.push { cls := .type "dict", data := .dict #[] }).push { cls := .type "cell", data := .cell none }).IsCell (s1.heap.objs.size + 1) none := by
   refine ⟨{ cls := .type "cell", data := .cell none }, ?_, rfl⟩; have := Heap.get?_push_size (s1.heap.push { cls := .type "dict", data := .dict #[] }) (o := { cls := .type "cell", data := .cell none }) rfl; rw [Heap.size_push] at this; exact this
 have k2 : ∀ a o, s1.heap.get? a = some o → ((s1.heap.push { cls := .type "dict", data := .dict #[] }).push { cls := .type "cell", data := .cell none }).get? a = some o := fun a o e => ar _ _ _ (ar _ _ _ e); have hb1 : ∀ a : Addr, s1.heap.objs.size ≤ a → s1.heap.get? a = none := fun a ha => by
   cases e : s1.heap.get? a with
   | none => rfl
   | some o => exact absurd (Heap.lt_size e) (Nat.not_lt.mpr ha)
 have hLL : ∀ a : Addr, s1.heap.objs.size ≤ a → m a = none ∧ c.old a = none ∧ a ∉ own ++ ((acc, au []) :: nw).map (·.1) := fun a ha => by
   refine ⟨?_, ?_, fun h => ?_⟩
   · cases e : m a with
     | none => rfl
     | some o => have := B1.ok _ _ e; rw [hb1 a ha] at this; cases this
   · cases e : c.old a with
     | none => rfl
     | some o => have := B1.old _ _ e; rw [hb1 a ha] at this; cases this
   rcases mAp h with h | h
   · obtain ⟨o, ho⟩ := B1.ownok _ h; rw [hb1 a ha] at ho; cases ho
   refine x12 (mMa h) fun p hp e => ?_; refine x12 (B1.ledok p hp) fun o ho kq => ?_; rw [e, hb1 a ha] at ho; cases ho
 generalize hh' : (s1.heap.push { cls := .type "dict", data := .dict #[] }).push { cls := .type "cell", data := .cell none } = h' at *
 generalize hL : s1.heap.objs.size = L at *
 have hLS : L ≤ L + 1 := Nat.le_succ _; have hLn : (L + 1 : Nat) ≠ L := Nat.succ_ne_self _; have V := B1.vars; have hco : ∀ e ∈ ce, ∀ a, e.cel = some a → (∃ o, s1.heap.get? a = some o) ∧ (a ∈ own ∨ a ∈ c.caps) := fun e he a ha => by
   obtain ⟨hr, _⟩ := hce e he; obtain ⟨_, _, _, v, ⟨o, ho, _⟩, _⟩ := V.kc e hr a ha; exact ⟨⟨o, ho⟩, B1.cin e hr a ha⟩
 have up : ∀ a o, c.old a = some o → (c.inner own s1.heap (ce.filterMap (·.cel))).old a = some o := fun a o e => by
   simp only [Cx.inner]; rw [if_neg (fun h => by rw [(B1.out a (List.mem_append.mpr (.inl h))).2] at e; cases e)]; exact e
 have C : Bd w (c.inner own s1.heap (ce.filterMap (·.cel))) γ m { (newEnv scope L env.globals ((kn, L + 1) :: bc (fun n => env.cells.lookup n) scope.names []) env.qual none .none (some env) builtinsNs) with scope := relabel scope env } [L, L + 1] (ns.map (fun n => ⟨n, none, none⟩) ++ ⟨kn, some (L + 1), none⟩ :: ce) ((acc, au []) :: nw)
     ⟨h', s1.gens, s1.drawn, s1.toks, s1.os⟩ := by
   have mem : ∀ e ∈ (ns.map (fun n => (⟨n, none, none⟩ : VE)) ++ ⟨kn, some (L + 1), none⟩ :: ce), (∃ n ∈ ns, e = ⟨n, none, none⟩) ∨ e = ⟨kn, some (L + 1), none⟩ ∨ e ∈ ce := fun e he => by
     rcases mAp he with he | he
     · obtain ⟨n, hn, rfl⟩ := mMa he; exact .inl ⟨n, hn, rfl⟩
     rcases mCo he with rfl | he
     · exact .inr (.inl rfl)
     exact .inr (.inr he)
   have hB := B1.nodup; rw [List.nodup_append] at hB; refine ⟨fun a o e => ?_, fun a o e => k2 _ _ (B1.ok a o e), fun a o e => ?_, B1.gr, B1.ble, B1.os, B1.gens, B1.gpre, B1.bare, ⟨hk, V.glob, V.bltn, .head _, ⟨_, hns0, fun e he hc v hv => ?_⟩, fun e he hc => ?_, fun e he a ha => ?_, ?_, ?_⟩, fun e he a ha => ?_, fun a ha => ?_, fun a ha => ?_, fun p hp => ?_, ?_, fun a ha => ?_⟩
   · simp only [Cx.inner] at e; by_cases h : a ∈ own
     · rw [if_pos h] at e; exact k2 _ _ e
     rw [if_neg h] at e; exact k2 _ _ (B1.old a o e)
   · simp only [Cx.inner] at e; by_cases h : a ∈ own
     · have h1 := (B1.out a (List.mem_append.mpr (.inl h))).1; show m a = c.base a
       rw [h1]; cases q : c.base a with
       | none => rfl
       | some ob => have := B1.ble a ob q; rw [h1] at this; cases this
     rw [if_neg h] at e; exact B1.low a o e
   · rcases mem e he with ⟨n, _, rfl⟩ | rfl | h
     · cases hv
     · cases hc
     obtain ⟨_, a, ha⟩ := hce e h; rw [hc] at ha; cases ha
   · rcases mem e he with ⟨n, hn, rfl⟩ | rfl | h
     · have := List.all_eq_true.mp hns n hn; exact lookup_relabel_local (by simpa using this)
     · cases hc
     obtain ⟨_, a, ha⟩ := hce e h; rw [hc] at ha; cases ha
   · rcases mem e he with ⟨n, hn, rfl⟩ | rfl | h
     · cases ha
     · cases ha
       refine ⟨.inl (bY hkn), ?_, hLn, none, hcl0, fun u hu => nomatch hu⟩; show List.lookup kn ((kn, L + 1) :: _) = _
       rw [List.lookup_cons, beq_self_eq_true]
     obtain ⟨hr, _⟩ := hce e h; obtain ⟨y1, y2, y3, v, ⟨o, ho, hd⟩, y5⟩ := V.kc e hr a ha; have hfr := List.all_eq_true.mp hcf e h; have hne : (e.name == kn) = false := by
       refine beq_eq_false_iff_ne.mpr fun q => ?_; rw [List.nodup_append] at hnd; exact (List.nodup_cons.mp hnd.2.1).1 (q ▸ List.mem_map_of_mem h)
     refine ⟨bl (by simpa using hfr), ?_, fun q => ?_, v, ⟨o, k2 _ _ ho, hd⟩, y5⟩
     · show List.lookup e.name ((kn, L + 1) :: _) = _
       rw [List.lookup_cons, hne]; exact ci y2 _ _ (.inl (by simpa using hfr)) (fun b hb => nomatch hb)
     have : a = L := q; rw [this, hb1 L (Nat.le_refl _)] at ho; cases ho
   · rw [List.map_append, List.map_map]; have : (ns.map ((fun (x : VE) => x.name) ∘ fun n => (⟨n, none, none⟩ : VE))) = ns := List.map_id' _; rw [this, ai]; exact hnd
   · rw [List.filterMap_append, List.filterMap_map]; have : (ns.filterMap ((fun (x : VE) => x.cel) ∘ fun n => (⟨n, none, none⟩ : VE))) = [] := by
       rw [List.filterMap_eq_nil_iff]; intro a _; rfl
     rw [this, List.nil_append, List.filterMap_cons]; rw [List.nodup_append] at hnd; refine List.nodup_cons.mpr ⟨fun h => ?_, d8 (ce := ce) V.cels (fun e he => (hce e he).1) (List.nodup_cons.mp hnd.2.1).2⟩; refine x12 (List.mem_filterMap.mp h) fun e he ha => ?_; obtain ⟨⟨o, ho⟩, _⟩ := hco e he _ ha; rw [hb1 _ hLS] at ho; cases ho
   · rcases mem e he with ⟨n, hn, rfl⟩ | rfl | h
     · cases ha
     · cases ha; exact .inl (.tail _ (.head _))
     exact .inr (List.mem_filterMap.mpr ⟨e, h, ha⟩)
   · refine x12 (List.mem_filterMap.mp ha) fun e he ha => ?_; obtain ⟨⟨o, ho⟩, q⟩ := hco e he a ha; simp only [Cx.inner]; by_cases h : a ∈ own
     · rw [if_pos h]; exact ⟨o, ho⟩
     rw [if_neg h]; exact B1.caps a (q.resolve_left h)
   · rcases mCo ha with rfl | ha
     · refine x32 hns0 fun o kq kq ho kq => ?_; exact ⟨o, ho⟩
     rcases mSg ha with rfl
     refine x12 hcl0 fun o ho kq => ?_; exact ⟨o, ho⟩
   · refine x12 (B1.ledok p hp) fun o ho q => ?_; exact ⟨o, k2 _ _ ho, q⟩
   · rw [List.nodup_append]; refine ⟨List.nodup_cons.mpr ⟨fun h => hLn (mSg h).symm, List.nodup_cons.mpr ⟨by simp, .nil⟩⟩, hB.2.1, fun x hx y hy e => ?_⟩; have hge : L ≤ x := by
       rcases mCo hx with rfl | hx
       · exact Nat.le_refl _
       rcases mSg hx with rfl; exact hLS
     exact (hLL x hge).2.2 (List.mem_append.mpr (.inr (e ▸ hy)))
   rcases mAp ha with ha | ha
   · have hge : L ≤ a := by
       rcases mCo ha with rfl | ha
       · exact Nat.le_refl _
       rcases mSg ha with rfl; exact hLS
     refine ⟨(hLL a hge).1, ?_⟩; simp only [Cx.inner]; rw [if_neg (fun h => (hLL a hge).2.2 (List.mem_append.mpr (.inl h)))]; exact (hLL a hge).2.1
   have := B1.out a (List.mem_append.mpr (.inr ha)); refine ⟨this.1, ?_⟩; simp only [Cx.inner]; rw [if_neg (fun h => hB.2.2 a h a ha rfl)]; exact this.2
 generalize hs2 : (⟨h', s1.gens, s1.drawn, s1.toks, s1.os⟩ : Shared) = s2 at C; have st2 : St wr 0 s2 := T.frame wr 0 s s2 hst (fun b kq o e => by rw [← hs2]; exact k2 _ _ (k1 _ _ e)) (fun b kq o e => by rw [← hs2]; exact k2 _ _ (k1 _ _ e)) (fun j x kq e => by rw [← hs2]; show s1.gens[j]? = _; rw [g1]; exact e)
 have p2 : Priv wr (c.inner own s1.heap (ce.filterMap (·.cel))) m [L, L + 1] ((acc, au []) :: nw) := by
   have ex : ∀ b ∈ wr, ∃ o, s.heap.get? b = some o := T.live wr 0 s hst; refine ⟨p.m, fun b hb h => ?_, fun b hb => ?_⟩
   · obtain ⟨o, ho⟩ := ex b hb; rcases mAp h with h | h
     · have hge : L ≤ b := by
         rcases mCo h with rfl | h
         · exact Nat.le_refl _
         rcases mSg h with rfl; exact hLS
       have := k1 _ _ ho; rw [hb1 b hge] at this; cases this
     rw [ai] at h; rcases mCo h with rfl | h
     · have := Heap.lt_size ho; rw [hacc] at this; exact Nat.lt_irrefl _ this
     exact p.own b hb (List.mem_append.mpr (.inr h))
   simp only [Cx.inner]; rw [if_neg (fun h => p.own b hb (List.mem_append.mpr (.inl h)))]; exact p.old b hb
 have loop : codeAny (model PG w) A (.compLoop (.ListComp elt [⟨target, iter, ifs, 0⟩] scope pos) 0 (.ref I) (.ref acc) { (newEnv scope L env.globals ((kn, L + 1) :: bc (fun n => env.cells.lookup n) scope.names []) env.qual none .none (some env) builtinsNs) with scope := relabel scope env }) (R (.ref acc) L) s2 := by
   refine gI (t0 := 0) (c := c.inner own s1.heap (ce.filterMap (·.cel))) .one T Inv hfp hgw (fun i v c1 γ m ρ xs nw s hi kq hI hm hv B' kq => turn i v c1 _ L acc γ m ρ xs nw s hi ⟨rfl, rfl, rfl⟩ hI hm hv B') (fun γ' m' ρ' xs nw' s' hI hm B' => ?_) (h0 L) .rfl C (Nat.zero_le _) st2 p2; exact fin γ' m' ρ' xs nw' L acc s' hI hm (B1.outN B' rfl)
 exact codeAny_compStart_list loop (an (Q := fun it' s' => codeAny (model PG w) A (.compLoop (.ListComp elt [⟨target, iter, ifs, 0⟩] scope pos) 0 it' (.ref acc) { (newEnv scope L env.globals ((kn, L + 1) :: bc (fun n => env.cells.lookup n) scope.names []) env.qual none .none (some env) builtinsNs) with scope := relabel scope env }) (R (.ref acc) L) s') (T.self wr 0 s2 _ st2 loop) (fun kq kq q => q) fun kq kq x => x.elim)
theorem lc_go1 {elt target iter : Expr} {ifs : List Expr} {scope : Scope} {pos : Pos} {I : Addr} {n : Nat} {V : VH} {Q : VP} (B : Bd w c γ m env own ρ nw s) (T : Src w A target c m own nw I n V s) (ce : List VE) (ns : List Str) (kn : Str) (p : Nat → Bool) (W : VH)
   (hk : scope.kind = .function) (hcf1 : ∀ n acc, cellsFrom n scope.names acc = (kn, n) :: acc) (hcp1 : ∀ h, pushCells h scope.names = h.push { cls := .type "cell", data := .cell none }) (hkn : scope.names.lookup kn = some .cell) (hns : (ns.all fun n => scope.names.lookup n == some .local) = true)
   (hce : ∀ e ∈ ce, e ∈ ρ ∧ ∃ a, e.cel = some a) (hcf : (ce.all fun e => scope.names.lookup e.name == some .free) = true) (hnd : (ns ++ kn :: ce.map (·.name)).Nodup) (hz : n ≤ sizeLine)
   (turn : ∀ i v c1 cenv L γ m1 nw1 vk s, i < n → EnvOf cenv (relabel scope env) L ((kn, L + 1) :: bc (fun n => env.cells.lookup n) scope.names []) → m.le m1 → V i v s.heap → (∀ q ∈ nw, q ∈ nw1) →
     Bd w c1 γ m1 cenv [L, L + 1] (ns.map (fun n => ⟨n, none, none⟩) ++ ⟨kn, some (L + 1), vk⟩ :: ce) nw1 s →
     wpAny (model PG w) A (assign target cenv v) (fun kq s₂ => wpAny (model PG w) A (bt ifs cenv) (fun ok s₃ =>
         ok = p i ∧ if ok = true then wpAny (model PG w) A (eval elt cenv) (fun x s₄ => ∃ vk', bB w c1 cenv [L, L + 1] (ns.map (fun n => ⟨n, none, none⟩) ++ ⟨kn, some (L + 1), vk'⟩ :: ce) nw1 m1 (W i x) s₄) NoE s₃
         else ∃ vk', bB w c1 cenv [L, L + 1] (ns.map (fun n => ⟨n, none, none⟩) ++ ⟨kn, some (L + 1), vk'⟩ :: ce) nw1 m1 (fun kq => True) s₃) NoE s₂) NoE s)
   (fin : ∀ γ' m' xs a s', m.le m' → Kn m' (At a (au xs)) → All2 (fun x i => Kn m' (W i x)) xs ((af n).filter p) → Bd w c γ' m' env own ρ nw s' → Q (.ref a) s') :
   kj w A env elt target iter ifs scope pos none E Q (.ref I) s := by
 refine x45 T fun fp gw St wr T hfp hgw hst hpr => ?_; have hforg : ∀ (L : Addr) (vk : Option Value), cV (ns.map (fun n => (⟨n, none, none⟩ : VE)) ++ ⟨kn, some (L + 1), vk⟩ :: ce) = ns.map (fun n => ⟨n, none, none⟩) ++ ⟨kn, some (L + 1), vk⟩ :: ce := by
   intro L vk; unfold cV; rw [List.map_append, List.map_map, ai]; congr 1
   congr 1
   conv => rhs; rw [← List.map_id ce]
   refine List.map_congr_left fun e he => ?_; obtain ⟨_, a, ha⟩ := hce e he; cases e with
   | mk nm cl vl => simp only at ha; subst ha; rfl
 unfold kj; refine ka (R := fun acc C => compPost (model PG w) A E none Q acc C) (ns := ns) (kn := kn) (ce := ce) B T (fun i xs m1 ρ' nw' => (∃ (L : Addr) (vk : Option Value), ρ' = ns.map (fun n => ⟨n, none, none⟩) ++ ⟨kn, some (L + 1), vk⟩ :: ce) ∧ nw' = nw ∧ xs.length ≤ i ∧ All2 (fun x j => Kn m1 (W j x)) xs ((af i).filter p)) hk hcf1 hcp1 hkn hns hce hcf hnd hfp hgw hst hpr ?_ (fun L => ⟨⟨L, none, rfl⟩, rfl, Nat.zero_le _, .nil⟩) ?_
 · rintro i v c1 cenv L acc γ m1 ρ' xs nw' s hi hE ⟨⟨L0, vk, rfl⟩, rfl, hlen, hxs⟩ hm hv B; have hLL : (L0 + 1 : Nat) = L + 1 := by
     have h1 := (B.vars.kc ⟨kn, some (L0 + 1), vk⟩ (List.mem_append.mpr (.inr (.head _))) (L0 + 1) rfl).2.1; rw [hE.cells, List.lookup_cons, beq_self_eq_true] at h1; exact (Option.some.inj h1).symm
   have hL0 : (some (L0 + 1) : Option Addr) = some (L + 1) := congrArg some hLL; rw [hL0] at B; refine an (turn i v c1 cenv L γ m1 _ vk s hi hE hm hv (fun q hq => .tail _ hq) B) (fun kq s₂ h₂ => an h₂ (fun ok s₃ h₃ => ?_) fun kq kq e => e) fun kq kq e => e; obtain ⟨rfl, h₃⟩ := h₃; have hr : (af (i + 1)).filter p = (af i).filter p ++ if p i = true then [i] else [] := by
     rw [List.range_succ, List.filter_append]; congr 1
     rw [List.filter_cons]; split <;> simp
   by_cases hp : p i = true
   · rw [if_pos hp] at h₃ ⊢; refine an h₃ (fun x s₄ h₄ => ?_) fun kq kq e => e; refine x44 h₄ fun vk' γ' m' ρ' h1 h2 h3 h4 => ?_; refine ⟨γ', m', _, nw', by exact a1 hz hi hlen, ⟨⟨L, vk', rfl⟩, rfl, by simp; exact hlen, ?_⟩, hm.trans h1, by rw [← hforg, ← h3]; exact h4.forget⟩; rw [hr, if_pos hp]; exact (hxs.imp fun kq kq k => k.up h1).append (.cons h2 .nil)
   rw [if_neg hp] at h₃ ⊢; refine x44 h₃ fun vk' γ' m' ρ' h1 h2 h3 h4 => ?_; refine ⟨γ', m', _, nw', ⟨⟨L, vk', rfl⟩, rfl, by exact a0 hlen, ?_⟩, hm.trans h1, by rw [← hforg, ← h3]; exact h4.forget⟩; rw [hr, if_neg hp, List.append_nil]; exact hxs.imp fun kq kq k => k.up h1
 rintro γ' m' ρ' xs nw' L acc s' ⟨_, rfl, _, hxs⟩ hm B'; obtain ⟨mp, hn⟩ := NsO.ns (B'.at (.head _)); refine ⟨mp, hn, fun h' hs => ?_⟩; have B2 : Bd w c γ' m' env own ρ ((acc, au xs) :: nw') ⟨h', s'.gens, s'.drawn, s'.toks, s'.os⟩ := B'.lose1 (aM hs); refine x13 B2.freeze fun m2 h1 h2 h3 => ?_; exact fin γ' m2 xs acc _ (hm.trans h1) h2 (hxs.imp fun kq kq k => k.up h1) h3
end
end
section
section
variable {w : World} {c : Cx} {γ γ' : Array GenState} {m m' : Mp} {env cenv : Env} {own : List Addr} {ρ ρ' : List VE} {nw nw' : Led} {s s' : Shared} {A : Around} {E : VP}
theorem l_sum {a : Addr} {ns : List Int} {Q : VP} (B : Bd w c γ m env own ρ nw s) (hh : A.handled = none) (hl : LI a ns s.heap)
   (h : ∀ t s', Bd w c γ m env own ρ nw s' → Q (.int ns.sum t) s') : wpAny (model PG w) A (call (.builtin "sum") [.ref a]) Q E s := by
 refine x12 hl fun vs h1 h2 => ?_; have hl := h1.list; obtain ⟨xs, e⟩ := h2.allInts.items; rw [e] at hl; refine sum_intListG hh hl fun h' tk t' hk => ?_; have e2 : preSum (numAt xs) xs.size = ns.sum := by
   rw [preSum_eq, List.take_of_length_le (by simp), ← nums_intItems, ← e, show vs.toArray.toList = vs from rfl, h2.numsOf]
 rw [e2]; exact h t' _ (B.grow hk)
theorem ints_take {vs : List Value} {ns : List Int} (k : Nat) (h : IntsAre vs ns) : IntsAre (vs.take k) (ns.take k) := by
 induction h generalizing k with
 | nil => rw [List.take_nil, List.take_nil]; exact .nil
 | cons n t r ih =>
   cases k with
   | zero => exact .nil
   | succ k => exact .cons n t (ih k)
theorem ia {W : Int → Prop} {xs : List Value} {is : List Nat} (B : Bd w c γ m env own ρ nw s) (h : All2 (fun x i => Kn m (fun kq => ∃ n t, x = .int n t ∧ W n)) xs is) : ∃ ns, IntsAre xs ns ∧ ∀ n ∈ ns, W n := by
 induction h with
 | nil => exact ⟨[], .nil, fun kq h => nomatch h⟩
 | cons h _ ih =>
   refine x12 ih fun ns h1 h2 => ?_; obtain ⟨n, t, rfl, hw⟩ := B.kn h; exact ⟨n :: ns, .cons n t h1, fun k hk => by
     rcases mCo hk with rfl | hk
     · exact hw
     exact h2 k hk⟩
end
section
variable {w : World}
theorem c_sums {a sd : Addr} {ns sds : List Int} (hns : ns.length ≤ 1000) (hsd : sds.length ≤ 1000) {A : Around} {m : Mp} {s : Shared} {Q E : VP} (hR : Rm A 1 4) (b : Bef w m s) (hk : Kn m (LI a ns)) (hks : Kn m (LI sd sds))
   (h : ∀ r rs m' s', Aft [] m s m' s' → Kn m' (LI r rs) → rs.length = sds.length → (∀ n ∈ rs, 0 ≤ n ∧ n < 1000000) → Q (.ref r) s') :
   wpAny (model PG w) A (call (.ref 257) [.ref a, .ref sd]) Q E s := by
 refine fj (d := 0) (u := 1) (nw := []) (ns := ["seeds"]) (cn := ["script"])
   (ρ₀ := fun L => [⟨"seeds", none, some (.ref sd)⟩, ⟨"script", some (L + 1), some (.ref a)⟩]) (own₀ := fun L => [L, L + 1]) hR b .nil rfl rfl rfl rfl rfl rfl rfl rfl rfl rfl (by rfl) (by decide +kernel) (by decide +kernel) (by decide +kernel) (fun L => rfl) (fun L => rfl) (fun L => rfl) ?_
 intro A env L c s' hE hR' hc B hL; ktf_call "opq"; ktf_call "sts"; refine aA B [⟨"script", some (L + 1), some (.ref a)⟩] (by ktf_call "cs") rfl rfl rfl ?_; ktf_call "sts"; refine x12 (B.koI hks) fun vs hko hvs => ?_; apply bJ B hR'.handled hko; intro I s B T; refine lc_go1 B T [⟨"script", some (L + 1), some (.ref a)⟩] ["seed"] (aa "k") (fun kq => true) (fun i v kq => ∃ n t, v = .int n t ∧ (0 ≤ n ∧ n < 1000000)) rfl (fun kq kq => rfl) (fun kq => rfl) rfl (by decide +kernel) (by ktf_call "ce") rfl (by show List.Nodup [aa "seed", aa "k", aa "script"]; decide +kernel) (by rw [aF hvs]; exact szl (a97 hsd)) ?_ ?_
 · rintro i v c1 cenv L2 γ1 m1 nw1 vk s hi hE hm1 hv hnw B; simp only [ai, List.map_nil, List.cons_append, List.nil_append] at B; obtain ⟨T, tp, x, rfl, hx, hT⟩ := hv; obtain ⟨sdi, tx, hsx, rfl⟩ := bz hvs hx; refine bA B hR'.handled hT rfl rfl ?_; clear B; intro s B; refine al (ag ?_); ktf_call "st"; refine al (ag ?_); ktf_call "st"; refine assignInOrder_nil ?_; refine bQ ⟨rfl, ?_⟩; rw [if_pos rfl]; ktf_call "sts"; refine aA B [⟨"k", some (L2 + 1), some (.int (i : Nat) tp)⟩] (by ktf_call "cs") rfl rfl rfl ?_; ktf_call "sts"; refine x12 (B.koI (hk.up hm1)) fun us hus hui => ?_; have hul := aF hui; refine bx B (B.ato hus) .none (.int _ _) ?_ (by rw [hul]; exact szl (a97 hns)); clear B; intro x2 m2 s hm2 hk2 B; rw [show ((60 : Int)) = ((60 : Nat) : Int) from rfl, slicePick_upto'] at hk2
   have hki := ints_take 60 hui; have hul2 : (us.take 60).length ≤ 1000 := by rw [List.length_take]; exact a102
   generalize us.take 60 = us2 at hk2 hki hul2; generalize ns.take 60 = ns2 at hki; ktf_call "sts"; apply bJ B hR'.handled (B.ko hk2); intro I s B T; refine dC B T [⟨"k", some (L2 + 1), some (.int (i : Nat) tp)⟩] ["place", "number"] (fun j => decide (j % 4 = i)) (fun j v kq => ∃ n t, v = .int n t ∧ True) ⟨rfl, rfl, rfl, by ktf_call "cs", rfl, rfl⟩ ?_ ?_ ?_
   · rw [sizeLine_eq]; show us2.length ≤ _; exact a97 hul2
   · intro j v c2 cenv L3 γ3 m3 own ρ nw3 s hj hE hm3 hv hC hM B Qt hK; obtain ⟨T, tj, x, rfl, hx, hT⟩ := hv; obtain ⟨num, tn, hn2, rfl⟩ := bz hki (by simpa using hx); refine bA B hR'.handled hT rfl rfl ?_; clear B; intro s B; refine al (ag ?_); ktf_call "st"; refine al (ag ?_); ktf_call "st"; refine assignInOrder_nil ?_; ktf_call "sts"; refine hK.go ?_ (by ktf_call "tn") B .rfl fun hb Qx hK => ?_
     · show _ = decide (j % 4 = i)
       rw [Int.fmod_eq_emod_of_nonneg _ (by decide)]; by_cases q : j % 4 = i
       · rw [decide_eq_true q]; exact beq_iff_eq.mpr (a101 q)
       rw [decide_eq_false q]; exact beq_eq_false_iff_ne.mpr (a100 q)
     ktf_call "sts"; exact hK.go (by ktf_call "tn") B .rfl (fun kq kq => ⟨_, _, rfl, trivial⟩)
   intro γ3 m3 xs x3 s hm3 hk3 hxs B; refine x12 (ia B hxs) fun rs hrs kq => ?_; ktf_call "sts"; refine l_sum B hR'.handled ⟨xs, B.kn hk3, hrs⟩ ?_; clear B; intro t3 s B; ktf_call "sts"; ktf_call "qs"; refine ⟨_, fu B (hm2.trans hm3) (fun kq kq => ⟨_, _, rfl, ?_⟩) rfl⟩; have h1 : (0 : Int) < 10 ^ Int.toNat 6 := by decide
   ktf_call "qs"; exact ⟨Int.fmod_nonneg_of_pos _ h1, Int.fmod_lt_of_pos _ h1⟩
 intro γ1 m1 xs r1 s hm1 hk1 hz B; rw [cu] at hz; refine x12 (ia B hz) fun rs hrs hrb => ?_; ktf_call "sts"; ktf_call "qs"; exact h r1 rs _ _ (B.done hc .nil av) (fun hp ok => ⟨xs, hk1 hp ok, hrs⟩) (by rw [← aF hrs, hz.length, List.length_range, aF hvs]) hrb
end
end
section
open PySem.Builtin
noncomputable def aU (s sub : Str) (hi limit : Nat) (st : Array Nat × Nat) (i : Nat) : Array Nat × Nat :=
 if (decide (st.1.size < limit) && decide (st.2 ≤ i) && decide (i + sub.length ≤ hi) && Str.subAt s sub i) = true then (st.1.push i, i + sub.length) else st
theorem ju {α σ : Type} {f : σ → α → σ} {g : α → σ → Id (ForInStep σ)} (h : ∀ a s, g a s = pure (ForInStep.yield (f s a))) : ∀ (l : List α) (s : σ), (forIn l s g : Id σ) = pure (l.foldl f s)
 | [], s => rfl
 | a :: l, s => by
   rw [List.forIn_cons, h]; exact ju h l (f s a)
theorem gn (s sub : Str) (lo hi limit : Nat) : Builtin.Str.occurrences s sub lo hi limit = ((List.range' lo (hi + 1 - lo)).foldl (aU s sub hi limit) (#[], lo)).1.toList := by
 unfold Builtin.Str.occurrences; simp only [Std.Legacy.Range.forIn_eq_forIn_range', Std.Legacy.Range.size]; rw [ju (f := aU s sub hi limit)]
 · simp
 intro a st; unfold aU; split <;> rfl
noncomputable def aE (c : Nat) : List Nat → Nat → List Nat
 | [], _ => []
 | a :: r, k => if a = c then k :: aE c r (k + 1) else aE c r (k + 1)
theorem cN (c a : Nat) (r : List Nat) (k : Nat) : aE c (a :: r) k = if a = c then k :: aE c r (k + 1) else aE c r (k + 1) := rfl
theorem c4 (c : Nat) : ∀ (l : List Nat) (k : Nat), (aE c l k).length ≤ l.length
 | [], _ => Nat.le_refl _
 | a :: r, k => by
   unfold aE; have := c4 c r (k + 1); split <;> simp <;> (first | lia | omega)
theorem eT (c : Nat) : ∀ (a b : List Nat) (k : Nat), aE c (a ++ b) k = aE c a k ++ aE c b (k + a.length)
 | [], b, k => rfl
 | x :: a, b, k => by
   have := eT c a b (k + 1); rw [List.cons_append, cN, cN, this, List.length_cons, show k + 1 + a.length = k + (a.length + 1) from by exact a342]
   split <;> rfl
theorem subAt_one (x : Str) (c i : Nat) (hi : i < x.length) : Str.subAt x ⟨#[c]⟩ i = decide (x.cps.toList[i]? = some c) := by
 unfold Str.subAt; have e : (x.cps.extract i (i + (⟨#[c]⟩ : Str).length)).toList = [x.cps[i]'hi] := by
   have h2 : i < x.cps.toList.length := by rw [Array.length_toList]; exact hi
   rw [Array.toList_extract, List.extract_eq_take_drop, show i + (⟨#[c]⟩ : Str).length - i = 1 from by have : (⟨#[c]⟩ : Str).length = 1 := rfl; exact a341 this, List.drop_eq_getElem_cons h2]
   show [x.cps.toList[i]] = _
   rfl
 have e2 : x.cps.extract i (i + (⟨#[c]⟩ : Str).length) = #[x.cps[i]'hi] := by
   apply Array.toList_inj.mp; rw [e]
 rw [e2]; have e3 : x.cps.toList[i]? = some (x.cps[i]'hi) := by
   rw [Array.getElem?_toList]; exact Array.getElem?_eq_getElem hi
 rw [e3]; by_cases h : x.cps[i]'hi = c
 · rw [h]; simp
 simp [h]
theorem gm (x : Str) (c limit : Nat) : Builtin.Str.occurrences x ⟨#[c]⟩ 0 x.length limit = (aE c x.cps.toList 0).take limit := by
 rw [gn, Nat.sub_zero]; have hl : x.cps.toList.length = x.length := by simp [Str.length]
 have go : ∀ n, n ≤ x.length → ∃ free, free ≤ n ∧ (List.range' 0 n).foldl (aU x ⟨#[c]⟩ x.length limit) (#[], 0) = (((aE c (x.cps.toList.take n) 0).take limit).toArray, free) := by
   intro n; induction n with
   | zero => intro _; exact ⟨0, Nat.le_refl _, by simp [aE]⟩
   | succ n ih =>
     intro hn; refine x12 (ih (a340 hn)) fun free hf e => ?_; have hlt : n < x.cps.toList.length := a339 hl hn
     rw [show List.range' 0 (n + 1) = List.range' 0 n ++ [n] from by rw [List.range'_concat]; simp, List.foldl_append, e, List.foldl_cons, List.foldl_nil]
     have et : x.cps.toList.take (n + 1) = x.cps.toList.take n ++ [x.cps.toList[n]] := by rw [List.take_add_one, ac hlt]; rfl
     rw [et, eT]; have el : 0 + (x.cps.toList.take n).length = n := by rw [List.length_take]; exact a338 hl hn
     rw [el]; unfold aU; rw [subAt_one x c n (by exact hn)]; have e1 : (⟨#[c]⟩ : Str).length = 1 := rfl; simp only [e1, ac hlt, List.size_toArray, List.length_take]; by_cases hc : x.cps.toList[n] = c
     · have e2 : aE c [x.cps.toList[n]] n = [n] := by unfold aE; rw [if_pos hc]; rfl
       rw [e2]; by_cases hlim : min limit (aE c (x.cps.toList.take n) 0).length < limit
       · rw [if_pos (by rw [decide_eq_true hlim, decide_eq_true hf, decide_eq_true (show n + 1 ≤ x.length from hn), decide_eq_true (show some x.cps.toList[n] = some c from by rw [hc])]; rfl)]
         refine ⟨n + 1, Nat.le_refl _, ?_⟩; have hlen : (aE c (x.cps.toList.take n) 0).length < limit := a337 hlim
         congr 1
         rw [List.take_append, List.take_of_length_le (Nat.le_of_lt hlen), List.take_of_length_le (show [n].length ≤ _ from by show 1 ≤ _; exact a336 hlen)]
         simp
       rw [if_neg (by rw [decide_eq_false hlim]; simp)]; refine ⟨free, by exact a0 hf, ?_⟩; congr 2
       rw [List.take_append]; rw [show limit - (aE c (x.cps.toList.take n) 0).length = 0 from by exact a335 hlim]
       simp
     have e2 : aE c [x.cps.toList[n]] n = [] := by unfold aE; rw [if_neg hc]; rfl
     rw [e2, List.append_nil, if_neg (by rw [decide_eq_false (show ¬ some x.cps.toList[n] = some c from fun q => hc (Option.some.inj q)), Bool.and_false]; exact Bool.false_ne_true)]
     exact ⟨free, by exact a0 hf, rfl⟩
 refine x12 (go x.length (Nat.le_refl _)) fun free hf e => ?_; have er : List.range' 0 (x.length + 1) = List.range' 0 x.length ++ [x.length] := by rw [List.range'_concat]; simp
 rw [er, List.foldl_append, e, List.foldl_cons, List.foldl_nil]; unfold aU; have hno : decide (x.length + (⟨#[c]⟩ : Str).length ≤ x.length) = false := decide_eq_false (Nat.not_le.mpr (Nat.lt_succ_self _)); rw [if_neg (by rw [hno, Bool.and_false, Bool.false_and]; exact Bool.false_ne_true)]; have : x.cps.toList.take x.length = x.cps.toList := List.take_of_length_le (a334 hl); rw [this]
noncomputable def bU (c : Nat) : List Nat → List Nat → List (List Nat)
 | acc, [] => [acc]
 | acc, a :: r => if a = c then acc :: bU c [] r else bU c (acc ++ [a]) r
theorem gk (x : Str) (c : Nat) : ∀ (l pre acc : List Nat) (st : Nat), x.cps.toList = pre ++ l → acc = pre.drop st → st ≤ pre.length →
   (((st :: (aE c l pre.length).map (· + 1)).zip (aE c l pre.length ++ [x.length])).map fun (i, j) => Str.strSub x i j) = (bU c acc l).map fun l => ⟨l.toArray⟩
 | [], pre, acc, st, hx, ha, hs => by
   have hl : x.length = pre.length := by have : x.cps.toList.length = x.length := (by simp [Str.length]); rw [← this, hx]; simp
   show [Str.strSub x st x.length] = [_]
   congr 1
   unfold Str.strSub; congr 1
   apply Array.toList_inj.mp; rw [Array.toList_extract, List.extract_eq_take_drop, hx, hl, ha, List.append_nil, List.take_of_length_le (by simp)]
 | a :: r, pre, acc, st, hx, ha, hs => by
   have hx' : x.cps.toList = (pre ++ [a]) ++ r := by rw [hx]; simp
   have hlen : (pre ++ [a]).length = pre.length + 1 := by simp
   unfold aE bU; by_cases hc : a = c
   · rw [if_pos hc, if_pos hc, ai, List.cons_append, List.zip_cons_cons, ai, ai]; have := gk x c r (pre ++ [a]) [] (pre.length + 1) hx' (by rw [← hlen, List.drop_length]) (a333 hlen); rw [hlen] at this; rw [this]; congr 1
     show Str.strSub x st pre.length = _
     unfold Str.strSub; congr 1
     apply Array.toList_inj.mp; rw [Array.toList_extract, List.extract_eq_take_drop, hx, ha, List.drop_append_of_le_length hs, List.take_append_of_le_length (by simp), List.take_of_length_le (by simp)]
   rw [if_neg hc, if_neg hc]; have := gk x c r (pre ++ [a]) (acc ++ [a]) st hx' (by rw [ha, List.drop_append_of_le_length hs]) (a332 hs hlen); rw [hlen] at this; exact this
theorem fy (x : Str) (c : Nat) (hc : c < 256) : Txt.split x ⟨#[c]⟩ = (bU c [] x.cps.toList).map fun l => ⟨l.toArray⟩ := by
 have hl : x.cps.toList.length = x.length := by simp [Str.length]
 have hp := gk x c x.cps.toList [] [] 0 rfl rfl (Nat.le_refl _); have ho := gm x c (x.length + 1); rw [List.take_of_length_le (by have := c4 c x.cps.toList 0; exact a331 hl this)] at ho; unfold Txt.split; rw [ho]; have hself : aE c x.cps.toList 0 = [] → [x] = (bU c [] x.cps.toList).map fun l => ⟨l.toArray⟩ := fun he => by
   rw [List.length_nil, he] at hp; rw [← hp]; show [x] = [Str.strSub x 0 x.length]
   congr 1
   unfold Str.strSub Str.length; rw [Array.extract_size]
 split
 · rename_i h
   simp only [Bool.or_eq_true, decide_eq_true_eq] at h; refine hself ?_; rcases h with h | h
   · have h0 : x.length = 0 := by have : (⟨#[c]⟩ : Str).length = 1 := rfl; exact a330 h this
     have : x.cps.toList = [] := List.length_eq_zero_iff.mp (a329 hl h0); rw [this]; rfl
   exfalso
   have h1 : Str.strKind ⟨#[c]⟩ = 1 := by unfold Str.strKind; simp [hc]
   rw [h1] at h; unfold Str.strKind at h; split at h
   · exact a328 h
   split at h <;> (first | lia | omega)
 split
 · rename_i h
   exact hself (List.isEmpty_iff.mp h)
 exact hp
theorem dS (c : Nat) : ∀ (l acc : List Nat), (bU c acc l).length ≤ l.length + 1
 | [], _ => Nat.le_refl _
 | a :: r, acc => by
   unfold bU; have h1 := dS c r []; have h2 := dS c r (acc ++ [a]); split <;> simp <;> (first | lia | omega)
theorem dR (c : Nat) : ∀ (l acc : List Nat), ∀ p ∈ bU c acc l, p.length ≤ acc.length + l.length
 | [], acc, p, h => by rw [mSg h]; exact Nat.le_refl _
 | a :: r, acc, p, h => by
   unfold bU at h; rw [List.length_cons]; split at h
   · rcases mCo h with rfl | h
     · exact a327
     have := dR c r [] p h; simp only [List.length_nil] at this; exact a326 this
   have := dR c r (acc ++ [a]) p h; simp only [List.length_append, List.length_cons, List.length_nil] at this; exact a325 this
theorem fD (c : Nat) : ∀ (l acc : List Nat), 0 < (bU c acc l).length
 | [], acc => Nat.one_pos
 | a :: r, acc => by
   unfold bU; split
   · simp
   exact fD c r _
theorem parts_len (x : Str) (c : Nat) : (Str.partsBetween x (Str.occurrences x ⟨#[c]⟩ 0 x.length (x.length + 1)) 1).length ≤ x.length + 1 := by
 have ho := gm x c (x.length + 1); unfold Str.partsBetween; simp only [am, List.length_zip, List.length_cons, List.length_append, List.length_nil, ho, List.length_take]; have hl : x.cps.toList.length = x.length := by simp [Str.length]
 have := c4 c x.cps.toList 0; exact a324 hl this
theorem hZ : ∀ (r : List Str) (acc : Array Nat), (r.foldl (fun acc p => acc ++ (aa "").cps ++ p.cps) acc).toList = acc.toList ++ (r.map fun y => y.cps.toList).flatten
 | [], acc => by simp
 | x :: r, acc => by
   rw [List.foldl_cons, hZ r, ai, List.flatten_cons]; have : (aa "").cps = #[] := by decide +kernel
   rw [this]; simp
theorem gy (ys : List Str) : (Txt.join (aa "") ys).cps.toList = (ys.map fun y => y.cps.toList).flatten := by
 show (Builtin.Str.glued (aa "") ys).cps.toList = _
 unfold Builtin.Str.glued; rw [hZ]; cases ys with
 | nil => rfl
 | cons y r => rfl
theorem bL (x : Str) : x.length = x.cps.toList.length := by simp [Str.length]
theorem cQ (ys : List Str) : (Txt.join (aa "") ys).length = (ys.map (·.length)).sum := by
 rw [bL, gy, List.length_flatten, List.map_map]; have : (List.length ∘ fun (y : Str) => y.cps.toList) = fun y => y.length := by funext y; rw [bL]; rfl
 rw [this]
end
section
section
variable {w : World} {c : Cx} {γ γ' : Array GenState} {m m' : Mp} {env cenv : Env} {own : List Addr} {ρ ρ' : List VE} {nw nw' : Led} {s s' : Shared} {A : Around} {E : VP}
theorem l_pop {l : Addr} {vs : List Value} {k : Nat} {u : Tok} {y : Value} {Q : VP} (B : Bd w c γ m env own ρ nw s) (up : Upd l (au vs) (au (vs.eraseIdx k)) nw nw') (hy : vs[k]? = some y) (hz : vs.length ≤ 1000)
   (h : ∀ s', Bd w c γ m env own ρ nw' s' → Q y s') : wpAny (model PG w) A (call (.builtin "list.pop") [.ref l, .int (k : Nat) u]) Q E s := by
 obtain ⟨n, ho⟩ := (B.at up.mem).plain; have hk := (List.getElem?_eq_some_iff.mp hy).1; have hi : seqIndex? (k : Nat) vs.toArray.size = some k := by
   unfold seqIndex?; simp only [List.size_toArray]; split <;> rename_i hh
   · (first | lia | omega)
   simp; exact hk
 have hT : s.TypeIs (.ref l) "list" := (B.at up.mem).list.typeIs; have hfit : Builtin.List.listFitsIndex (k : Nat) = true := by
   unfold Builtin.List.listFitsIndex; have h1 : decide (-(2 ^ 63 : Int) ≤ (k : Nat)) = true := decide_eq_true (a154); have h2 : decide (((k : Nat) : Int) < 2 ^ 63) = true := decide_eq_true (a28 hz hk); rw [h1, h2]; rfl
 have hz1 : vs.toArray.size ≤ sizeLine := by rw [sizeLine_eq, List.size_toArray]; exact a97 hz
 have hy1 : vs.toArray[k]? = some y := by rw [List.getElem?_toArray]; exact hy
 have hm := @PySem.MeetsSeq.list_pop_at l vs.toArray n ((k : Nat) : Int) u k y hfit hi hy1 hz1; have hsb : Heap.SameBut l s.heap (s.heap.update l (Obj.mapSeq fun xs => xs.eraseIdxIfInBounds k)) := Heap.SameBut.update ..; have e : vs.toArray.eraseIdxIfInBounds k = (vs.eraseIdx k).toArray := by
   unfold Array.eraseIdxIfInBounds; simp [hk]
 have hq : wants Q E (.ok (.ret y)) { s with heap := s.heap.update l (Obj.mapSeq fun xs => xs.eraseIdxIfInBounds k) } := by
   refine h _ (B.turn up (fun b o hb e => hsb.extBut b o hb e) ⟨_, Heap.get?_update_self _ ho rfl, (if (vs.eraseIdx k).toArray.size == vs.toArray.size then n else n + 1), ?_⟩)
   show Obj.mk _ _ _ _ = _
   simp only [e]
 exact @call_meets PG w A E s _ _ _ _ _ _ _ Q F.slot_list_pop hT F.entry_list_pop (F.args_list_pop_2 _ _) @hm ⟨ho, hq⟩
theorem gm_pop {l : Addr} {vs : List Value} {pl : Sem Bool} {Q : Value × List Value → Shared → Prop} (hl : At l (au vs) s.heap) (h : Q (.builtin "list.pop", [.ref l]) s) : wpAny (model PG w) A (getMethod (.ref l) (aa "pop") pl) Q E s := by
 obtain ⟨n, ho⟩ := hl.plain; exact getMethod_builtin hl.list.typeIs PySem.F.plainAttrs_list PySem.F.slot_list_pop PySem.F.type_list_pop (fun a e => by cases e; exact ⟨_, ho, rfl⟩) h
theorem gq (a b : Nat) : ((a : Int)).fmod (b : Int) = ((a % b : Nat) : Int) := by rw [Int.fmod_eq_emod_of_nonneg _ (Int.natCast_nonneg _)]; rfl
theorem gu (a b : Nat) : ((a : Int)).fdiv (b : Int) = ((a / b : Nat) : Int) := by rw [Int.fdiv_eq_ediv_of_nonneg _ (Int.natCast_nonneg _)]; rfl
theorem jK {vs : List Value} {ns : List Str} (k : Nat) (h : StrsAre vs ns) : StrsAre (vs.eraseIdx k) (ns.eraseIdx k) := by
 induction h generalizing k with
 | nil => rw [List.eraseIdx_nil, List.eraseIdx_nil]; exact .nil
 | cons n t r ih =>
   cases k with
   | zero => exact r
   | succ k => exact .cons n t (ih k)
theorem gR {vs : List Value} {ns : List Str} (k : Nat) (h : StrsAre vs ns) : StrsAre (vs.take k) (ns.take k) := by
 induction h generalizing k with
 | nil => rw [List.take_nil, List.take_nil]; exact .nil
 | cons n t r ih =>
   cases k with
   | zero => exact .nil
   | succ k => exact .cons n t (ih k)
theorem gS {vs : List Value} {ns : List Str} (k : Nat) (h : StrsAre vs ns) : StrsAre (vs.drop k) (ns.drop k) := by
 induction h generalizing k with
 | nil => rw [List.drop_nil, List.drop_nil]; exact .nil
 | cons n t r ih =>
   cases k with
   | zero => exact .cons n t r
   | succ k => exact ih k
theorem cL {vs : List Value} {ns : List Str} (h : StrsAre vs ns) {k : Nat} (hk : k < ns.length) : ∃ t, vs[k]? = some (.str (ns.getD k ak) t) :=
 dk h (c9 hk)
end
noncomputable def dressL : List Str := [aa "", aa "\\)", aa "\\\\\"(\"", aa "\\\"", aa "\")\"", aa "\"(\""]
noncomputable def poolL : List Str := ["a", "A", "b", "B", "c", "C"]
noncomputable def cb (st : Nat × Nat × List Str × List Str) (size : Nat) : Nat × Nat × List Str × List Str :=
 (st.1 / size, st.2.1 / 6, st.2.2.1.eraseIdx (st.1 % size), st.2.2.2 ++ [dressL.getD (st.2.1 % 6) ak ++ st.2.2.1.getD (st.1 % size) ak])
noncomputable def aH (order dress k : Nat) : Nat × Nat × List Str × List Str := ([6, 5, 4, 3, 2, 1].take k).foldl cb (order, dress, poolL, [])
noncomputable def iP (x y : Str) : Str := aa "(" ++ x ++ aa "?" ++ y ++ aa ")"
noncomputable def bX (st : Nat × List Str) (size : Nat) : Nat × List Str :=
 (st.1 / size, st.2.take (st.1 % size) ++ [iP (st.2.getD (st.1 % size) ak) (st.2.getD (st.1 % size + 1) ak)] ++ st.2.drop (st.1 % size + 2))
noncomputable def aW (merging : Nat) (leaves : List Str) (k : Nat) : Nat × List Str := ([5, 4, 3, 2, 1].take k).foldl bX (merging, leaves)
noncomputable def cI (text : Str) (signs : List Str) : Str := (Txt.split text (aa "?")).getD 0 ak ++ Txt.join (aa "") (List.zipWith (· ++ ·) signs ((Txt.split text (aa "?")).drop 1))
theorem ed {order dress i : Nat} (hi : i < 6) : aH order dress (i + 1) = cb (aH order dress i) (6 - i) := by
 unfold aH; rw [List.take_add_one, List.foldl_append]; revert hi; generalize i = j; revert j; exact lt6 rfl rfl rfl rfl rfl rfl
theorem cP (order dress : Nat) : ∀ i, i ≤ 6 → (aH order dress i).2.2.1.length = 6 - i ∧ (aH order dress i).2.2.2.length = i ∧ (∀ x ∈ (aH order dress i).2.2.1, x ∈ poolL) ∧ ∀ x ∈ (aH order dress i).2.2.2, ∃ d ∈ dressL, ∃ p ∈ poolL, x = d ++ p
 | 0, _ => ⟨rfl, rfl, fun x h => h, fun x h => nomatch h⟩
 | i + 1, hi => by
   refine x04 (cP order dress i (a153 hi)) fun h1 h2 h3 h4 => ?_; rw [ed (by exact hi)]; have hk : (aH order dress i).1 % (6 - i) < (aH order dress i).2.2.1.length := by rw [h1]; exact Nat.mod_lt _ (a152 hi)
   have hd : (aH order dress i).2.1 % 6 < dressL.length := Nat.mod_lt _ (by decide); refine ⟨?_, ?_, fun x hx => h3 x (List.mem_of_mem_eraseIdx hx), fun x hx => ?_⟩
   · show ((aH order dress i).2.2.1.eraseIdx _).length = _
     rw [List.length_eraseIdx, if_pos hk, h1]; exact a151
   · show ((aH order dress i).2.2.2 ++ [_]).length = _
     rw [List.length_append, h2]; rfl
   rcases mAp hx with hx | hx
   · exact h4 x hx
   rw [mSg hx]; refine ⟨_, ?_, _, h3 _ ?_, rfl⟩
   · rw [ab, ac hd]; exact List.getElem_mem hd
   rw [ab, ac hk]; exact List.getElem_mem hk
noncomputable def tot (l : List Str) : Nat := (l.map (·.length)).sum
theorem fY (a b : List Str) : tot (a ++ b) = tot a + tot b := by unfold tot; rw [List.map_append, List.sum_append]
theorem tot_le {l : List Str} {k : Nat} (h : ∀ x ∈ l, x.length ≤ k) : tot l ≤ k * l.length := by
 induction l with
 | nil => exact Nat.zero_le _
 | cons x r ih =>
   have h1 := ih fun y hy => h y (.tail _ hy); have h2 := h x (.head _); unfold tot at h1 ⊢; rw [ai, List.sum_cons, List.length_cons, Nat.mul_succ]; exact a150 h1 h2
theorem iv {l : List Str} {x : Str} (h : x ∈ l) : x.length ≤ tot l := by
 induction l with
 | nil => cases h
 | cons y r ih =>
   unfold tot at ih ⊢; rw [ai, List.sum_cons]; rcases mCo h with rfl | h
   · exact Nat.le_add_right _ _
   exact ae (ih h) (Nat.le_add_left _ _)
theorem glue2_len (x y : Str) : (iP x y).length = x.length + y.length + 3 := by
 unfold iP; simp only [aq]; have h1 : (aa "(").length = 1 := by decide +kernel
 have h2 : (aa "?").length = 1 := by decide +kernel
 have h3 : (aa ")").length = 1 := by decide +kernel
 exact a149 h1 h2 h3
theorem split2 {α : Type} {l : List α} {k : Nat} (d : α) (h : k + 1 < l.length) : l = l.take k ++ [l.getD k d, l.getD (k + 1) d] ++ l.drop (k + 2) := by
 have e1 : l.getD k d = l[k] := by rw [ab, ac (a148 h)]; rfl
 have e2 : l.getD (k + 1) d = l[k + 1] := by rw [ab, ac h]; rfl
 rw [e1, e2, List.append_assoc]; conv => lhs; rw [← List.take_append_drop k l, List.drop_eq_getElem_cons (a148 h), List.drop_eq_getElem_cons h]
 rfl
theorem dw {merging i : Nat} {leaves : List Str} (hi : i < 5) : aW merging leaves (i + 1) = bX (aW merging leaves i) (5 - i) := by
 unfold aW; rw [List.take_add_one, List.foldl_append]; revert hi; generalize i = j; revert j; exact lt5 rfl rfl rfl rfl rfl
theorem c6 {merging : Nat} {leaves : List Str} (h6 : leaves.length = 6) (ht : tot leaves ≤ 36) : ∀ i, i ≤ 5 → (aW merging leaves i).2.length = 6 - i ∧ tot (aW merging leaves i).2 ≤ 36 + 3 * i
 | 0, _ => ⟨h6, ht⟩
 | i + 1, hi => by
   obtain ⟨h1, h2⟩ := c6 (merging := merging) h6 ht i (a147 hi); rw [dw (by exact hi)]; generalize hS : aW merging leaves i = S at *
   obtain ⟨mg, ps⟩ := S; simp only at h1 h2; have hk : mg % (5 - i) < 5 - i := Nat.mod_lt _ (a146 hi); have hsp := split2 (l := ps) (k := mg % (5 - i)) ak (a128 h1 hk); unfold bX; simp only; refine ⟨?_, ?_⟩
   · simp only [List.length_append, List.length_take, List.length_drop, List.length_cons, List.length_nil]; exact a145 h1 hk
   rw [fY, fY]; have e : tot ps = tot (ps.take (mg % (5 - i))) + tot [ps.getD (mg % (5 - i)) ak, ps.getD (mg % (5 - i) + 1) ak] + tot (ps.drop (mg % (5 - i) + 2)) := by
     conv => lhs; rw [hsp]
     rw [fY, fY]
   have g : tot [iP (ps.getD (mg % (5 - i)) ak) (ps.getD (mg % (5 - i) + 1) ak)] = tot [ps.getD (mg % (5 - i)) ak, ps.getD (mg % (5 - i) + 1) ak] + 3 := by
     unfold tot; simp only [ai, List.map_nil, List.sum_cons, List.sum_nil, glue2_len]; exact a144
   exact a143 h2 e g
theorem fN {x : Str} (h : ∃ d ∈ dressL, ∃ p ∈ poolL, x = d ++ p) : x.length ≤ 6 := by
 obtain ⟨d, hd, p, hp, rfl⟩ := h; have : ∀ d ∈ dressL, ∀ p ∈ poolL, (d ++ p).length ≤ 6 := by decide +kernel
 exact this d hd p hp
section
variable {w : World}
inductive Down : Nat → List Value → Prop
 | nil : Down 0 []
 | cons {n : Nat} {vs : List Value} (t : Tok) (h : Down n vs) : Down (n + 1) (.int ((n + 1 : Nat) : Int) t :: vs)
theorem jz {n i : Nat} {vs : List Value} {v : Value} (h : Down n vs) (e : vs[i]? = some v) : ∃ t, v = .int ((n - i : Nat) : Int) t := by
 induction h generalizing i with
 | nil => cases e
 | @cons n vs t h ih =>
   cases i with
   | zero => exact ⟨t, (Option.some.inj e).symm⟩
   | succ i =>
     have := ih (i := i) e; rwa [Nat.add_sub_add_right]
theorem zip_short {signs pcs : List Str} (hsx : ∀ x ∈ signs, x.length ≤ 10) (hp : ∀ x ∈ pcs, x.length ≤ 60) : ∀ x ∈ List.zipWith (fun (a b : Str) => a ++ b) signs (pcs.drop 1), x.length ≤ 70 := by
 intro x hx; obtain ⟨j, hj, rfl⟩ := List.mem_iff_getElem.mp hx; rw [List.getElem_zipWith, aq]; exact Nat.add_le_add (hsx _ (List.getElem_mem _)) (hp _ (List.mem_of_mem_drop (List.getElem_mem _)))
theorem zip_len {signs pcs : List Str} (hsl : signs.length ≤ 1000) : (List.zipWith (fun (a b : Str) => a ++ b) signs (pcs.drop 1)).length ≤ 1000 := by
 rw [List.length_zipWith]; exact ae (Nat.min_le_left ..) hsl
theorem all_getD {l : List Str} : (af l.length).map (fun j => l.getD j ak) = l := by
 have := aB (l := l) (d := ak) (f := fun x => x) rfl; simpa using this
theorem parts_q (text : Str) : (Builtin.Str.partsBetween text (Builtin.Str.occurrences text (aa "?") 0 text.length (text.length + 1)) 1).length ≤ text.length + 1 := parts_len text 63
theorem g0 {text : Str} (hl1 : text.length ≤ 60) : (∀ x ∈ Txt.split text (aa "?"), x.length ≤ 60) ∧ 0 < (Txt.split text (aa "?")).length ∧ (Txt.split text (aa "?")).length ≤ 1000 := by
 have hq : aa "?" = ⟨#[63]⟩ := by decide +kernel
 have htl' : text.cps.toList.length = text.length := by simp [Str.length]
 rw [hq, fy text 63 (by decide), am]; refine ⟨fun x hx => ?_, fD 63 text.cps.toList [], a110 hl1 (dS 63 text.cps.toList []) htl'⟩; obtain ⟨p, hp, rfl⟩ := mMa hx; have := dR 63 text.cps.toList [] p hp; show p.toArray.size ≤ 60
 simp only [List.size_toArray, List.length_nil] at this ⊢; exact a111 hl1 htl' this
theorem c_formula (order merging dress : Nat) {sg : Addr} {signs : List Str} {A : Around} {m : Mp} {s : Shared} {t1 t2 t3 : Tok} {Q E : VP} (hR : Rm A 1 4) (b : Bef w m s) (hk : Kn m (LS sg signs)) (hsl : signs.length ≤ 1000) (hsx : ∀ x ∈ signs, x.length ≤ 10)
   (h : ∀ T lv t m' s', Aft [] m s m' s' → Kn m' (LS lv (aH order dress 6).2.2.2) → Kn m' (At T (ki [.ref lv, .str (cI ((aW merging (aH order dress 6).2.2.2 5).2.getD 0 ak) signs) t])) → Q (.ref T) s') :
   wpAny (model PG w) A (call (.ref 283) [.int order t1, .int merging t2, .ref sg, .int dress t3]) Q E s := by
 refine dK (d := 0) (u := 1) (nw := []) (ns := ["order", "merging", "signs", "dress", "pool", "leaves", "size", "parts", "place", "pieces"])
   (ρ₀ := [⟨"order", none, some (.int order t1)⟩, ⟨"merging", none, some (.int merging t2)⟩, ⟨"signs", none, some (.ref sg)⟩, ⟨"dress", none, some (.int dress t3)⟩, ⟨"pool", none, none⟩, ⟨"leaves", none, none⟩, ⟨"size", none, none⟩, ⟨"parts", none, none⟩, ⟨"place", none, none⟩, ⟨"pieces", none, none⟩]) hR b .nil rfl rfl rfl rfl rfl rfl rfl rfl rfl rfl (by decide +kernel) (by rfl) (by decide +kernel) (by decide +kernel) rfl ?_
 intro A env L c s' hE hR' hc B hL; ktf_call "opq"; ktf_call "sts"; with_reducible refine cm B.vars.kind (hE.kind ?_) (hE.kind ?_) ?_ ?_ ?_ ?_ ?_ ?_
 iterate 3 (· rfl)
 · decide +kernel
 iterate 3 (· rfl)
 ktf_call "sts"; ktf_call "nL"; intro pl s B; ktf_call "sts"; ktf_call "nL"; intro lv s B; ktf_call "sts"; ktf_call "nt"; intro tp m1 s hm1 hk1 B; refine fX B hR'.handled (B.kn hk1).tup rfl ?_; clear B; intro s B; refine al (bindName_ ?_); ktf_call "st"; refine al (bindName_ ?_); ktf_call "st"; refine assignInOrder_nil ?_; ktf_call "sts"; ktf_call "nt"; intro tq m2 s hm2 hk2 B; apply eH B hR'.handled (B.ko hk2); intro I s B T; refine codeAny_mono (fg (σ := List Value × List Value) (x₀ := ([], _)) (fun x => [(lv, au x.1), (pl, au x.2)]) B T ["order", "dress", "size"] (fun i m' ρ x => ∃ ta td, (⟨"order", none, some (.int ((aH order dress i).1 : Nat) ta)⟩ : VE) ∈ ρ ∧ (⟨"dress", none, some (.int ((aH order dress i).2.1 : Nat) td)⟩ : VE) ∈ ρ ∧ StrsAre x.1 (aH order dress i).2.2.2 ∧ StrsAre x.2 (aH order dress i).2.2.1) ?_ ?_ ?_) (fun kq kq x => x)
 · exact ⟨t1, t3, by ktf_call "mem", by ktf_call "mem", .nil, .cons _ _ (.cons _ _ (.cons _ _ (.cons _ _ (.cons _ _ (.cons _ _ .nil)))))⟩
 · clear B T; rintro i v c1 γ1 m3 ρ s xx hi how ⟨ta, td, rm1, rm2, hlv, hpv⟩ hm3 hv B hback Qb hN hB hQ; have hi6 : i < 6 := hi; obtain ⟨tz, rfl⟩ := jz (n := 6) (.cons _ (.cons _ (.cons _ (.cons _ (.cons _ (.cons _ .nil)))))) hv; refine x04 (cP order dress i (a142 hi6)) fun g1 g2 g3 g4 => ?_; have hrs := ed (order := order) (dress := dress) hi6; generalize hS : aH order dress i = S at *
   obtain ⟨o, d, pls, lvl⟩ := S; simp only at hlv hpv g1 g2 g3 g4 rm1 rm2; refine ag ?_; ktf_call "sts"; ktf_call "nl"; intro x1 m4 s hm4 hk4 B; ktf_call "sts"; rw [show (6 : Int) = ((6 : Nat) : Int) from rfl, gq]
   have hd6 : d % 6 < 6 := Nat.mod_lt _ (by decide); have hdl : Kn m4 (LS x1 dressL) := fun hp ok => ⟨_, hk4 hp ok, .cons _ _ (.cons _ _ (.cons _ _ (.cons _ _ (.cons _ _ (.cons _ _ .nil)))))⟩; have hdg : dressL[((d % 6 : Nat) : Int).toNat]? = some (dressL.getD (d % 6) ak) := c9 hd6; generalize hq : ((d % 6 : Nat) : Int) = q at hdg ⊢; refine cO (B.kn hdl) (a141 hq) (a140 hq) hdg fun td2 => ?_; ktf_call "sts"; refine gm_pop (B.at (.tail _ (.head _))) ?_; ktf_call "sts"; rw [gq]; have hk6 : o % (6 - i) < pls.length := by rw [g1]; exact Nat.mod_lt _ (a139 hi6)
   obtain ⟨tp2, hpg⟩ := cL hpv hk6; have hpl := ax hpv; refine l_pop B (.tail .head) hpg (a138 g1 hpl) ?_; clear B; intro s B; have hdm : dressL.getD (d % 6) ak ∈ dressL := bI hd6; have hpm : pls.getD (o % (6 - i)) ak ∈ poolL := g3 _ (bI hk6); have hsz : (dressL.getD (d % 6) ak).length + (pls.getD (o % (6 - i)) ak).length ≤ 6 := by
     have := fN ⟨_, hdm, _, hpm, rfl⟩; rwa [aq] at this
   refine cG B (szl (a137 hsz)) ?_; clear B; intro t5 s B; ktf_call "sts"; refine bH B .head (by rw [ax hlv]; exact szl (a136 hi6 g2)) ?_; clear B; intro s B; ktf_call "sts"; with_reducible refine cm B.vars.kind (hE.kind ?_) (hE.kind ?_) ?_ ?_ ?_ ?_ ?_ ?_
   iterate 3 (· rfl)
   · decide +kernel
   iterate 3 (· rfl)
   ktf_call "sts"; refine i_div B (a135 g1 hk6) (PyProof.noPylong_small (by (first | lia | omega))) ?_; clear B; intro t6 s B
   ktf_call "sts"; rw [gu o (6 - i), show (d : Int).fdiv 6 = ((d / 6 : Nat) : Int) from gu d 6]
   ktf_call "nt"; intro x7 m7 s hm7 hk7 B; refine fX B hR'.handled (B.kn hk7).tup rfl ?_; clear B; intro s B; refine al (bindName_ ?_); ktf_call "st"; refine al (bindName_ ?_); ktf_call "st"; refine assignInOrder_nil ?_; ktf_call "sts"; ktf_call "qs"; refine hN _ m7 _ _ (_, _) (by ktf_call "ow") ⟨_, _, by rw [hrs]; ktf_call "mem", by rw [hrs]; ktf_call "mem", by rw [hrs]; exact bG hlv (.cons _ _ .nil), by rw [hrs]; exact jK _ hpv⟩ (hm4.trans hm7) B
 clear B T; rintro γ1 m3 ρ s xx how ⟨ta, td, rm1, rm2, hlv, hpv⟩ hm3 B; obtain ⟨lvs, pvs⟩ := xx; replace hlv : StrsAre lvs (aH order dress 6).2.2.2 := hlv; refine x04 (cP order dress 6 (a134)) fun g1 g2 g3 g4 => ?_; have htl : tot (aH order dress 6).2.2.2 ≤ 36 := by
   have := tot_le fun x hx => fN (g4 x hx); rw [g2] at this; exact this
 generalize hLs : (aH order dress 6).2.2.2 = ls at *
 refine x13 B.freeze fun m4 hm4 hk4 B => ?_; ktf_call "sts"; ktf_call "nt"; intro tq2 m5 s hm5 hk5 B; apply eH B hR'.handled (B.ko hk5); intro I2 s B T; refine codeAny_mono (cD B T ["merging", "parts", "place", "size"] (fun i m' ρ => ∃ (pa : Addr) (tm : Tok), (⟨"merging", none, some (.int ((aW merging ls i).1 : Nat) tm)⟩ : VE) ∈ ρ ∧ (⟨"parts", none, some (.ref pa)⟩ : VE) ∈ ρ ∧ Kn m' (LS pa (aW merging ls i).2)) ?_ ?_ ?_) (fun kq kq x => x)
 · exact ⟨lv, t2, by ktf_call "mem", by ktf_call "mem", fun hp ok => ⟨lvs, (hk4.up hm5) hp ok, hlv⟩⟩
 · clear B T; rintro i v c1 γ2 m6 ρ s hi how ⟨pa, tm, rm3, rm4, hpa⟩ hm6 hv B hback Qb hN hB hQ; have hi5 : i < 5 := hi; obtain ⟨tz, rfl⟩ := jz (n := 5) (.cons _ (.cons _ (.cons _ (.cons _ (.cons _ .nil))))) hv; obtain ⟨q1, q2⟩ := c6 (merging := merging) g2 htl i (a133 hi5); have hrs := dw (merging := merging) (leaves := ls) hi5; generalize hS : aW merging ls i = S at *
   obtain ⟨mg, ps⟩ := S; simp only at hpa q1 q2 rm3; refine ag ?_; ktf_call "st"; ktf_call "st"; with_reducible refine cm B.vars.kind (hE.kind ?_) (hE.kind ?_) ?_ ?_ ?_ ?_ ?_ ?_
   iterate 3 (· rfl)
   · decide +kernel
   iterate 3 (· rfl)
   ktf_call "sts"; refine i_div B (a132 hi5) (PyProof.noPylong_small (by (first | lia | omega))) ?_; clear B; intro t7 s B
   ktf_call "sts"; rw [gq, gu]; ktf_call "nt"; intro x7 m7 s hm7 hk7 B; refine fX B hR'.handled (B.kn hk7).tup rfl ?_; clear B; intro s B; refine al (bindName_ ?_); ktf_call "st"; refine al (bindName_ ?_); ktf_call "st"; refine assignInOrder_nil ?_; have hk : mg % (5 - i) < 5 - i := Nat.mod_lt _ (a131 hi5); have hstep : bX (mg, ps) (5 - i) = (mg / (5 - i), ps.take (mg % (5 - i)) ++ [iP (ps.getD (mg % (5 - i)) ak) (ps.getD (mg % (5 - i) + 1) ak)] ++ ps.drop (mg % (5 - i) + 2)) := rfl; rw [hstep] at hrs; generalize hK : mg % (5 - i) = k at *
   refine x12 (B.koS (hpa.up hm7)) fun pv hpo hps => ?_; have hpl := ax hps; have hpz : pv.length ≤ sizeLine := by rw [hpl, q1]; exact szl (a130)
   ktf_call "sts"; refine bx B (B.ato hpo) .none (.int _ _) ?_ hpz; clear B; intro y1 m8 s hm8 hk8 B; rw [slicePick_upto'] at hk8; ktf_call "sts"; obtain ⟨ti1, hi1⟩ := cL hps (show k < ps.length by exact a129 q1 hk)
   obtain ⟨ti2, hi2⟩ := cL hps (show k + 1 < ps.length by exact a128 q1 hk)
   have hl1 : (ps.getD k ak).length ≤ 60 := a127 hi5 q2 (iv (bI (a129 q1 hk))); have hl2 : (ps.getD (k + 1) ak).length ≤ 60 := a127 hi5 q2 (iv (bI (a128 q1 hk))); have c1' : (aa "(").length = 1 := by decide +kernel
   have c2' : (aa "?").length = 1 := by decide +kernel
   have c3' : (aa ")").length = 1 := by decide +kernel
   refine aT (B.ato (aJ hm8 hpo)) (a12) (a126 hk) hi1 ?_; refine cG B (szl (a125 hl1 c1')) ?_; clear B; intro t8 s B; ktf_call "sts"; refine cG B (by rw [sizeLine_eq, aq]; exact a124 hl1 c1' c2') ?_; clear B; intro t9 s B; ktf_call "sts"; rw [show ((k : Nat) : Int) + 1 = ((k + 1 : Nat) : Int) from by exact a62]
   refine aT (B.ato (aJ hm8 hpo)) (a123) (a122 hk) hi2 ?_; refine cG B (by rw [sizeLine_eq, aq, aq]; exact a121 hl1 hl2 c1' c2') ?_; clear B; intro t10 s B; ktf_call "sts"; refine cG B (by rw [sizeLine_eq, aq, aq, aq]; exact a120 hl1 hl2 c1' c2' c3') ?_; clear B; intro t11 s B; ktf_call "sts"; ktf_call "nl"; intro y2 m9 s hm9 hk9 B; refine c8 B (B.kn (hk8.up hm9)) (B.kn hk9) (by rw [sizeLine_eq]; simp; exact a119 hk) ?_; clear B; intro y3 m10 s hm10 hk10 B; ktf_call "sts"; rw [show ((k : Nat) : Int) + 2 = ((k + 2 : Nat) : Int) from by exact a118]
   refine bx B (B.ato (aJ ((hm8.trans hm9).trans hm10) hpo)) (.int _ _) .none ?_ hpz; clear B; intro y4 m11 s hm11 hk11 B; rw [slicePick_from'] at hk11; refine c8 B (B.kn (hk10.up hm11)) (B.kn hk11) (by rw [sizeLine_eq]; simp; exact a117 q1 hpl) ?_; clear B; intro y5 m12 s hm12 hk12 B; ktf_call "sts"; have hmm : m6.le m12 := ((((hm7.trans hm8).trans hm9).trans hm10).trans hm11).trans hm12; ktf_call "qs"; refine hN _ m12 _ _ (by ktf_call "ow") ⟨y5, _, by rw [hrs]; ktf_call "mem", by ktf_call "mem", ?_⟩ hmm B; rw [hrs]; refine fun hp ok => ⟨_, hk12 hp ok, ?_⟩; simp only [List.toList_toArray]; ktf_call "qs"; exact bG (bG (gR k hps) (.cons _ _ .nil)) (gS (k + 2) hps)
 clear B T; rintro γ2 m6 ρ s how ⟨pa, tm, rm3, rm4, hpa⟩ hm6 B; replace hpa : Kn m6 (LS pa (aW merging ls 5).2) := hpa; obtain ⟨q1, q2⟩ := c6 (merging := merging) g2 htl 5 (a116); generalize hS : (aW merging ls 5).2 = ps at *
 refine x12 (B.koS hpa) fun pv hpo hps => ?_; have hpl := ax hps; obtain ⟨ti1, hi1⟩ := cL hps (show 0 < ps.length by exact a115 q1)
 have hl1 : (ps.getD 0 ak).length ≤ 60 := a114 q2 (iv (bI (a115 q1))); generalize ps.getD 0 ak = text at *
 ktf_call "sts"; refine aT (B.ato hpo) (by decide) (by decide) hi1 ?_; ktf_call "sts"; have hpl2 := parts_q text; refine gf B (by decide +kernel) (szl (a113 hl1)) ?_ ?_
 · rw [show (aa "?").length = 1 from by decide +kernel]; exact szl (a112 hl1 hpl2)
 clear B; intro pc m7 s hm7 hk7 B; refine x12 (B.koS hk7) fun us huo hus => ?_; have hul := ax hus; have hfin := h; unfold cI at hfin; have hpieces := (g0 hl1).1; have hps0 := (g0 hl1).2; generalize Txt.split text (aa "?") = pcs at *
 have huz : us.length ≤ sizeLine := szl (a109 hul hps0); obtain ⟨tu0, hu0⟩ := cL hus (show 0 < pcs.length by exact hps0.1)
 ktf_call "sts"; refine aT (B.ato huo) (by decide) (by decide) hu0 ?_; ktf_call "sts"; refine x12 (B.koS (hk.up ((((hm1.trans hm2).trans hm3).trans hm4).trans ((hm5.trans hm6).trans hm7)))) fun gs hgo hgs => ?_; have hgl := ax hgs; refine aA B [] (by ktf_call "cs") rfl rfl rfl ?_; ktf_call "sts"; refine bx B (B.ato huo) (.int _ _) .none ?_ huz; clear B; intro y1 m8 s hm8 hk8 B; rw [show (1 : Int) = ((1 : Nat) : Int) from rfl, slicePick_from'] at hk8
 ktf_call "sts"; have hdp := gS 1 hus; apply src_zip B hR'.handled (aJ hm8 hgo) (B.ko hk8); intro I3 s B T; refine cf B T [] ["sign", "piece"] (fun j v kq => ∃ t, v = .str ((List.zipWith (· ++ ·) signs (pcs.drop 1)).getD j ak) t) ⟨rfl, rfl, rfl, by ktf_call "cs", rfl, rfl⟩ ?_ ?_ ?_
 · rw [sizeLine_eq]; have := Nat.min_le_left gs.length (us.drop 1).toArray.toList.length; exact a108 hsl hgl
 · intro j v c2 cenv L3 γ3 m9 own ρ nw3 s hj hE hm9 hv hC hM B Qx hK; obtain ⟨T, x, y, rfl, hx, hy, hT⟩ := hv; obtain ⟨sx, tx, hsx1, rfl⟩ := aV hgs hx; obtain ⟨py, ty, hpy1, rfl⟩ := aV hdp (by simpa using hy); refine bA B hR'.handled hT rfl rfl ?_; clear B; intro s B; refine al (ag ?_); ktf_call "st"; refine al (ag ?_); ktf_call "st"; refine assignInOrder_nil ?_; ktf_call "sts"; have hz1 := hsx _ (List.mem_of_getElem? hsx1); have hz2 := hpieces _ (List.mem_of_mem_drop (List.mem_of_getElem? hpy1)); refine cG B (szl (a107 hz1 hz2)) ?_; clear B; intro t12 s B; ktf_call "qs"; exact hK.go (by ktf_call "tn") B .rfl (fun kq kq => ⟨t12, by rw [ab, List.getElem?_zipWith, hsx1, hpy1]; rfl⟩)
 intro γ3 m9 xs z1 s hm9 hk9 hxs B; have hst := B.strs hxs; have hlen2 : min gs.length (us.drop 1).toArray.toList.length = (List.zipWith (fun (a b : Str) => a ++ b) signs (pcs.drop 1)).length := by
   rw [List.length_zipWith, hgl, ← ax hdp]
 rw [hlen2] at hst; rw [all_getD] at hst; have hzl := zip_short hsx hpieces; have htz := tot_le hzl; have hzn := zip_len (pcs := pcs) hsl; ktf_call "sts"; refine dp B (B.kn hk9) hst ?_ ?_
 · have : (aa "").length = 0 := by decide +kernel
   rw [this, Nat.mul_zero, Nat.add_zero]; ktf_call "qs"; exact ae htz (a104 hzn)
 clear B; intro t13 s B; ktf_call "sts"; have hj := cQ (List.zipWith (fun (a b : Str) => a ++ b) signs (pcs.drop 1)); have hp0 : (pcs.getD 0 ak).length ≤ 60 := hpieces _ (bI hps0.1); unfold tot at htz; refine cG B (by rw [hj]; exact szl (a103 htz hzn hp0)) ?_; clear B; intro t14 s B; ktf_call "sts"; ktf_call "nt"; intro z2 m10 s hm10 hk10 B; have hmm : m4.le m10 := ((((hm5.trans hm6).trans hm7).trans hm8).trans hm9).trans hm10; ktf_call "qs"; exact hfin z2 lv t14 m10 s (B.done hc .nil av) (fun hp ok => ⟨lvs, (hk4.up hmm) hp ok, hlv⟩) hk10
end
end
section
theorem rp_attrs : PlainAttrs "re.Pattern" :=
 ⟨⟨"object.__getattribute__", by rw [typeLookup_type, builtinLookup_eq_fast]; kernel_rfl, by decide +kernel⟩, by rw [typeLookup_type, builtinLookup_eq_fast]; kernel_rfl⟩
theorem rp_slot : Slot "re.Pattern" "search" "re.Pattern.search" :=
 .of (owner := "re.Pattern") (n := "search") (by rw [typeLookup_type, builtinLookup_eq_fast]; kernel_rfl) (by decide +kernel) (by decide +kernel) (by decide +kernel)
   (by first | exact .inl (by decide +kernel) | exact .inr (by decide +kernel)) (by rw [isSubtype_type]; kernel_rfl)
theorem rp_type : typeOf (.builtin "re.Pattern.search") = pure (.type "method_descriptor") := by show builtinType _ = _; rw [builtinType_eq_fast]; kernel_rfl
theorem rp_entry : entryFor table "re.Pattern.search" = some Builtin.«re.Pattern.search» := entryFor_of_tree (by kernel_rfl)
theorem rp_args (a b : Value) : argsOk "re.Pattern.search" ⟨[a, b], []⟩ := by unfold argsOk; kernel_rfl
noncomputable def aG (w : World) (nm : Bool) (x : Str) : Prop := ∀ S t, peek (KK w) S (Builtin.«re.Pattern.search» ⟨[.ref (if nm then 114 else 119), .str x t], []⟩) = some (.done (.ret .none))
theorem so_word (w : World) : ∀ k, k < 32 → aG w true (aw k)
 | 0, _ => fun S t => by kernel_rfl
 | 1, _ => fun S t => by kernel_rfl
 | 2, _ => fun S t => by kernel_rfl
 | 3, _ => fun S t => by kernel_rfl
 | 4, _ => fun S t => by kernel_rfl
 | 5, _ => fun S t => by kernel_rfl
 | 6, _ => fun S t => by kernel_rfl
 | 7, _ => fun S t => by kernel_rfl
 | 8, _ => fun S t => by kernel_rfl
 | 9, _ => fun S t => by kernel_rfl
 | 10, _ => fun S t => by kernel_rfl
 | 11, _ => fun S t => by kernel_rfl
 | 12, _ => fun S t => by kernel_rfl
 | 13, _ => fun S t => by kernel_rfl
 | 14, _ => fun S t => by kernel_rfl
 | 15, _ => fun S t => by kernel_rfl
 | 16, _ => fun S t => by kernel_rfl
 | 17, _ => fun S t => by kernel_rfl
 | 18, _ => fun S t => by kernel_rfl
 | 19, _ => fun S t => by kernel_rfl
 | 20, _ => fun S t => by kernel_rfl
 | 21, _ => fun S t => by kernel_rfl
 | 22, _ => fun S t => by kernel_rfl
 | 23, _ => fun S t => by kernel_rfl
 | 24, _ => fun S t => by kernel_rfl
 | 25, _ => fun S t => by kernel_rfl
 | 26, _ => fun S t => by kernel_rfl
 | 27, _ => fun S t => by kernel_rfl
 | 28, _ => fun S t => by kernel_rfl
 | 29, _ => fun S t => by kernel_rfl
 | 30, _ => fun S t => by kernel_rfl
 | 31, _ => fun S t => by kernel_rfl
 | k + 32, h => absurd h (a157)
theorem so_lower (w : World) : ∀ k, k < 32 → aG w true (Txt.lower (Txt.swapcase (aw k)))
 | 0, _ => fun S t => by kernel_rfl
 | 1, _ => fun S t => by kernel_rfl
 | 2, _ => fun S t => by kernel_rfl
 | 3, _ => fun S t => by kernel_rfl
 | 4, _ => fun S t => by kernel_rfl
 | 5, _ => fun S t => by kernel_rfl
 | 6, _ => fun S t => by kernel_rfl
 | 7, _ => fun S t => by kernel_rfl
 | 8, _ => fun S t => by kernel_rfl
 | 9, _ => fun S t => by kernel_rfl
 | 10, _ => fun S t => by kernel_rfl
 | 11, _ => fun S t => by kernel_rfl
 | 12, _ => fun S t => by kernel_rfl
 | 13, _ => fun S t => by kernel_rfl
 | 14, _ => fun S t => by kernel_rfl
 | 15, _ => fun S t => by kernel_rfl
 | 16, _ => fun S t => by kernel_rfl
 | 17, _ => fun S t => by kernel_rfl
 | 18, _ => fun S t => by kernel_rfl
 | 19, _ => fun S t => by kernel_rfl
 | 20, _ => fun S t => by kernel_rfl
 | 21, _ => fun S t => by kernel_rfl
 | 22, _ => fun S t => by kernel_rfl
 | 23, _ => fun S t => by kernel_rfl
 | 24, _ => fun S t => by kernel_rfl
 | 25, _ => fun S t => by kernel_rfl
 | 26, _ => fun S t => by kernel_rfl
 | 27, _ => fun S t => by kernel_rfl
 | 28, _ => fun S t => by kernel_rfl
 | 29, _ => fun S t => by kernel_rfl
 | 30, _ => fun S t => by kernel_rfl
 | 31, _ => fun S t => by kernel_rfl
 | k + 32, h => absurd h (a157)
theorem so_pool (w : World) : ∀ x ∈ poolL, aG w true x := by
 intro x hx; rcases mCo hx with rfl | hx
 · exact fun S t => by kernel_rfl
 rcases mCo hx with rfl | hx
 · exact fun S t => by kernel_rfl
 rcases mCo hx with rfl | hx
 · exact fun S t => by kernel_rfl
 rcases mCo hx with rfl | hx
 · exact fun S t => by kernel_rfl
 rcases mCo hx with rfl | hx
 · exact fun S t => by kernel_rfl
 rcases mCo hx with rfl | hx
 · exact fun S t => by kernel_rfl
 cases hx
section
variable {w : World} {c : Cx} {γ γ' : Array GenState} {m m' : Mp} {env cenv : Env} {own : List Addr} {ρ ρ' : List VE} {nw nw' : Led} {s s' : Shared} {A : Around} {E : VP}
theorem rp_is (nm : Bool) {h : Heap} (G : Grd w h) : ∃ o, h.get? (if nm then 114 else 119) = some o ∧ o.cls = .type "re.Pattern" ∧ o.dict = none := by
 cases nm with
 | true => exact ⟨_, G.k 114 _ (by rfl), rfl, rfl⟩
 | false => exact ⟨_, G.k 119 _ (by rfl), rfl, rfl⟩
theorem ic (nm : Bool) {pl : Sem Bool} {Q : Value × List Value → Shared → Prop} (G : Grd w s.heap) (h : Q (.builtin "re.Pattern.search", [.ref (if nm then 114 else 119)]) s) : wpAny (model PG w) A (getMethod (.ref (if nm then 114 else 119)) (aa "search") pl) Q E s := by
 refine x13 (rp_is nm G) fun o ho hc hd => ?_; exact getMethod_builtin ⟨o, ho, hc⟩ rp_attrs rp_slot rp_type (fun a e => by cases e; exact ⟨_, ho, hd⟩) h
theorem gZ (nm : Bool) {x : Str} {t : Tok} {Q : VP} (G : Grd w s.heap) (hx : aG w nm x) (h : Q .none s) : wpAny (model PG w) A (call (.builtin "re.Pattern.search") [.ref (if nm then 114 else 119), .str x t]) Q E s := by
 refine x13 (rp_is nm G) fun o ho hc hd => ?_; refine wpAny_call_entry rp_slot ⟨o, ho, hc⟩ rp_entry ?_ (rp_args _ _); exact (Looks.of_peek (M := model PG w) G.k (hx _ t)).here ⟨_, rfl, h⟩
end
section
variable {w : World}
theorem type_str {A : Around} {E : VP} {s : Shared} {x : Str} {t : Tok} {Q : VP} (hq : Q (.type "str") s) : wpAny (model PG w) A (call (.type "type") [.str x t]) Q E s :=
 call_type_of (typeIs_str _ _ _) (by decide) hq
theorem is_types {M : Model} {A : Around} {E : VP} {s : Shared} {X Y : String} {Q : VP} (h : Q (.bool (Value.type X == Value.type Y)) s) : wpAny M A (compareOp .Is (.type X) (.type Y)) Q E s := wpAny_pure (a := Value.bool (Value.type X == Value.type Y)) h
theorem dL {x : Str} (nm : Bool) (hx : aG w nm x) {self : Value} {A : Around} {m : Mp} {s : Shared} {t : Tok} {Q E : VP} (hR : Rm A 1 4) (b : Bef w m s)
   (h : ∀ t m' s', Aft [] m s m' s' → Q (.str x t) s') :
   wpAny (model PG w) A (call (.ref 149) [self, .str x t] [(aa "name", .bool nm)]) Q E s := by
 refine dK (d := 0) (u := 1) (nw := []) (ns := ["self", "value", "name", "regex"]) (ρ₀ := [⟨"self", none, some self⟩, ⟨"value", none, some (.str x t)⟩, ⟨"name", none, some (.bool nm)⟩, ⟨"regex", none, none⟩]) hR b .nil rfl rfl rfl rfl rfl rfl rfl rfl rfl rfl (by decide +kernel) (by rfl) (by decide +kernel) (by decide +kernel) rfl ?_; intro A env L c s' hE hR' hc B hL; ktf_call "opq"; ktf_call "sts"; refine type_str ?_; ktf_call "sts"; refine is_types ?_; ktf_call "sts"; refine bZ rfl ?_; ktf_call "sts"; cases nm with
 | true =>
   refine bZ rfl ?_; ktf_call "sts"; refine ic true (B.kn B.gr) ?_; ktf_call "sts"; refine gZ true (B.kn B.gr) hx ?_; ktf_call "sts"; refine truthy_none ?_; refine aY rfl ?_; ktf_call "sts"; ktf_call "qs"; exact h t m s (B.done hc .nil av)
 | false =>
   refine aY rfl ?_; ktf_call "sts"; refine ic false (B.kn B.gr) ?_; ktf_call "sts"; refine gZ false (B.kn B.gr) hx ?_; ktf_call "sts"; refine truthy_none ?_; refine aY rfl ?_; ktf_call "sts"; ktf_call "qs"; exact h t m s (B.done hc .nil av)
end
end
section
theorem join_one (v : Str) : Txt.join (aa "; ") [v] = v := rfl
section
variable {w : World}
theorem c_add {x lst : Addr} {nm vl : Str} (hnm : aG w true nm) (hvl : aG w false vl) (hvz : vl.length ≤ 1000) {hs : List Value} (hhs : hs.length ≤ 1000) {A : Around} {m : Mp} {s : Shared} {t1 t2 : Tok} {Q E : VP} (hR : Rm A 3 10) (b : Bef w m s)
   (hx : HdK w m x lst) (hl : At lst (au hs) s.heap) (hlm : m lst = none)
   (h : ∀ T t t' m' s', Aft [lst] m s m' s' → At lst (au (hs ++ [.ref T])) s'.heap → Kn m' (At T (ki [.str nm t, .str vl t'])) → Q .none s') :
   wpAny (model PG w) A (call (.ref 245) [.ref x, .str nm t1, .str vl t2]) Q E s := by
 refine wpAny_call ?_; have G := b.gr _ b.ok; have k1 : ∀ a o, s.heap.get? a = some o → (s.heap.push emptyDict).get? a = some o := ar _; have hdx : (s.heap.push emptyDict).get? s.heap.objs.size = some emptyDict := Heap.get?_push_size _ rfl; have fresh : s.heap.get? s.heap.objs.size = none := by
   cases e : s.heap.get? s.heap.objs.size with
   | none => rfl
   | some o => exact absurd (Heap.lt_size e) (Nat.lt_irrefl _)
 have hsys : (s.heap.objs.size == sysModules) = false := by
   obtain ⟨mp, ⟨o, es, ep, ho, _⟩, _⟩ := G.g; have h1 := Heap.lt_size ho; have h2 : mainGlobals = 3 := rfl; have h3 : sysModules = 1 := rfl; refine beq_eq_false_iff_ne.mpr fun e => ?_; rw [h2] at h1; rw [e, h3] at h1; ktf_call "qs"; exact absurd h1 (by decide)
 generalize hdxe : s.heap.objs.size = dx at *
 have hmd : m dx = none := by
   cases e : m dx with
   | none => rfl
   | some o => have := b.ok _ _ e; rw [fresh] at this; cases this
 generalize hh1 : s.heap.push emptyDict = h1 at *
 have b1 : Bef w (m.put dx emptyDict) ⟨h1, s.gens, s.drawn, s.toks, s.os⟩ := by
   ktf_call "qs"; refine ⟨fun a o e => ?_, b.gr.up (Mp.le_put hmd), b.bare⟩; unfold Mp.put at e; by_cases q : a = dx
   · rw [if_pos q] at e; cases e; rw [q]; exact hdx
   rw [if_neg q] at e; exact k1 a o (b.ok a o e)
 have hne : lst ≠ dx := fun q => by
   refine x12 hl fun o ho kq => ?_; rw [q, fresh] at ho; cases ho
 have l1 : LedOk (m.put dx emptyDict) ⟨h1, s.gens, s.drawn, s.toks, s.os⟩ [(lst, au hs)] := ⟨fun p hp => by rcases mSg hp with rfl; obtain ⟨o, ho, hP⟩ := hl; exact ⟨o, k1 _ _ ho, hP⟩, fun p hp => by rcases mSg hp with rfl; show Mp.put _ _ _ lst = none; rw [Mp.put_ne hne]; exact hlm, by simp⟩
 refine enterX (d := 2) (u := 7) (s := ⟨h1, s.gens, s.drawn, s.toks, s.os⟩) (nw := [(lst, au hs)]) (binds := [(aa "self", .ref x), (aa "_name", .str nm t1), (aa "_value", .str vl t2), (aa "_params", .ref dx)])
   (ns := ["self", "_name", "_value", "_params", "parts", "k", "v"]) (ρ₀ := [⟨"self", none, some (.ref x)⟩, ⟨"_name", none, some (.str nm t1)⟩, ⟨"_value", none, some (.str vl t2)⟩, ⟨"_params", none, some (.ref dx)⟩, ⟨"parts", none, none⟩, ⟨"k", none, none⟩, ⟨"v", none, none⟩])
   (hR.less (a162) (a161)) G b1 l1 rfl rfl rfl (fun M A E Q q => ?_) rfl rfl rfl rfl rfl rfl (by decide +kernel) (by rfl) (by decide +kernel) (by decide +kernel) rfl ?_
 · show wpAny M A (alloc emptyDict >>= fun d => pure [(aa "self", Value.ref x), (aa "_name", .str nm t1), (aa "_value", .str vl t2), (aa "_params", .ref d)]) _ _ _
   refine aj (wpAny_alloc (wpAny_pure ?_)); rw [hdxe, hh1]; ktf_call "qs"; exact q
 intro A' env L c s' hA hfm hE hR' hc B hL; clear hA; generalize hγ : s.gens = γ0 at B; have hdk : (m.put dx emptyDict) dx = some emptyDict := Mp.put_self; have hx1 : HdK w (m.put dx emptyDict) x lst := hx.up (Mp.le_put hmd); generalize hm1 : m.put dx emptyDict = m1 at *
 ktf_call "sts"; ktf_call "nL"; intro ps s B; ktf_call "sts"; refine bZ rfl ?_; ktf_call "sts"; refine methodCall_KW ?_; ktf_call "sts"; refine cA (f := 149) B hx1 (by rfl) (by rfl) (fun kq kq => by rfl) ?_; refine cF (by rfl) (B.kn B.gr).k ?_; ktf_call "sts"; ktf_call "qs"; refine ⟨(B.kn B.gr).k, ?_⟩; refine dL false hvl (hR'.less (a160) (a159)) B.bef ?_; intro t3 m2 s2 f2; replace B := B.aft f2; ktf_call "sts"; refine bH B .head (by rw [sizeLine_eq]; decide) ?_; clear B; intro s B; ktf_call "sts"; refine gm_items (B.ok _ _ (f2.le _ _ hdk)) ?_; ktf_call "sts"; refine d_items B (f2.le _ _ hdk) hsys ?_; clear B; intro vw s B hvw; refine j3 B hR'.handled (f2.le _ _ hdk) hvw fun γ3 s B => ?_; ktf_call "sts"; refine Attribute_name ?_; ktf_call "sts"; refine ji B (hx1.up f2.le) ?_; clear B; intro s B; ktf_call "sts"; refine methodCall_KW ?_; ktf_call "sts"; refine cA (f := 149) B (hx1.up f2.le) (by rfl) (by rfl) (fun kq kq => by rfl) ?_; refine cF (by rfl) (B.kn B.gr).k ?_; ktf_call "sts"; ktf_call "qs"; refine ⟨(B.kn B.gr).k, ?_⟩; refine dL true hnm (hR'.less (a160) (a159)) B.bef ?_; intro t4 m3 s3 f3; replace B := B.aft f3; ktf_call "sts"; refine dp (ys := [vl]) B (B.at (.head _)) (.cons _ _ .nil) ?_ ?_
 · show ([vl].map (·.length)).sum + 1 * (aa "; ").length ≤ 16777216
   have : (aa "; ").length = 2 := by decide +kernel
   rw [this]; simp only [ai, List.map_nil, List.sum_cons, List.sum_nil]; exact a158 hvz
 clear B; intro t5 s B; rw [join_one]; ktf_call "sts"; ktf_call "nt"; intro T m4 s hm4 hk4 B; ktf_call "sts"; refine bH B (.tail .head) (szl (a97 hhs)) ?_; clear B; intro s B; ktf_call "sts"; have f := B.done hc l1 (by simp); ktf_call "qs"; refine h T _ _ m4 s ⟨(by rw [← hm1]; exact Mp.le_put hmd : m.le m1).trans f.le, f.ok, fun a o e hX => f.keep a o (k1 a o e) hX, fun a o e => (f.low a o (k1 a o e)).trans ?_, f.os, f.gens, f.bare⟩ (B.at (.tail _ (.head _))) hk4; rw [← hm1]; ktf_call "qs"; exact Mp.put_ne fun q => by rw [q, fresh] at e; cases e
end
end
section
noncomputable def HdL (m : Mp) (lst : Addr) (es : List (Str × Str)) : Prop := ∃ hs, (∃ o, m lst = some o ∧ au hs o) ∧ All2 (fun v p => ∃ T t t', v = .ref T ∧ ∃ o, m T = some o ∧ ki [.str p.1 t, .str p.2 t'] o) hs es
theorem HdL.up {m m' : Mp} {lst : Addr} {es : List (Str × Str)} (l : m.le m') (h : HdL m lst es) : HdL m' lst es := by obtain ⟨hs, h1, h2⟩ := h; exact ⟨hs, aJ l h1, h2.imp fun kq kq z1 => by obtain ⟨T, t, t', e, k⟩ := z1; exact ⟨T, t, t', e, aJ l k⟩⟩
noncomputable def allOf (es : List (Str × Str)) (nm : Str) : List Str := ((af es.length).filter fun i => Txt.lower (es.getD i (ak, ak)).1 == Txt.lower nm).map fun i => (es.getD i (ak, ak)).2
noncomputable def dM (x : Str) : Prop := Builtin.Str.tooLong (Txt.lower x).length = false
section
variable {w : World}
theorem c_getall {x lst : Addr} {nm : Str} {es : List (Str × Str)} (hso : aG w true (Txt.lower nm)) (hlo : dM nm) (hle : ∀ p ∈ es, dM p.1) (hel : es.length ≤ 1000) {A : Around} {m : Mp} {s : Shared} {t : Tok} {Q E : VP} (hR : Rm A 3 10) (b : Bef w m s)
   (hx : HdK w m x lst) (hl : HdL m lst es) (h : ∀ r m' s', Aft [] m s m' s' → Kn m' (LS r (allOf es nm)) → Q (.ref r) s') :
   wpAny (model PG w) A (call (.ref 187) [.ref x, .str nm t]) Q E s := by
 refine fj (d := 2) (u := 7) (nw := []) (ns := ["self"]) (cn := ["name"])
   (ρ₀ := fun L => [⟨"self", none, some (.ref x)⟩, ⟨"name", some (L + 1), some (.str nm t)⟩]) (own₀ := fun L => [L, L + 1]) hR b .nil rfl rfl rfl rfl rfl rfl rfl rfl rfl rfl (by rfl) (by decide +kernel) (by decide +kernel) (by decide +kernel) (fun L => rfl) (fun L => rfl) (fun L => rfl) ?_
 intro A env L c s' hE hR' hc B hL; ktf_call "opq"; ktf_call "sts"; refine methodCall_KW ?_; ktf_call "sts"; refine cA (f := 149) B hx (by rfl) (by rfl) (fun kq kq => by rfl) ?_; refine cF (by rfl) (B.kn B.gr).k ?_; ktf_call "sts"; refine SC.lower hlo ?_; replace B := B.tk s'.drawn (s'.toks + 1); ktf_call "sts"; ktf_call "qs"; refine ⟨(B.kn B.gr).k, ?_⟩; refine dL true hso (hR'.less (a160) (a159)) B.bef ?_; intro t3 m2 s2 f2; replace B := B.aft f2; ktf_call "sts"; refine aA B [⟨"name", some (L + 1), some (.str (Txt.lower nm) t3)⟩] (by ktf_call "cs") rfl rfl rfl ?_; refine Attribute_name ?_; ktf_call "sts"; refine ji B (hx.up f2.le) ?_; clear B; intro s B; refine x12 (hl.up f2.le) fun hs hko hes => ?_; have hel2 := hes.length; apply aC B hR'.handled hko; intro I s B T; refine dC B T [⟨"name", some (L + 1), some (.str (Txt.lower nm) t3)⟩] ["kv"] (fun i => Txt.lower (es.getD i (ak, ak)).1 == Txt.lower nm) (fun i v kq => ∃ t, v = .str (es.getD i (ak, ak)).2 t) ⟨rfl, rfl, rfl, by ktf_call "cs", rfl, rfl⟩ (szl (a164 hel hel2)) ?_ ?_
 · intro i v c1 cenv L2 γ1 m1 own ρ nw1 s hi hE hm1 hv hC hM B Qt hK; obtain ⟨p, hp, T, ta, tb, rfl, hT⟩ := hes.get hv; have hpd : es.getD i (ak, ak) = p := by rw [ab, hp]; rfl
   refine ag ?_; ktf_call "st"; ktf_call "sts"; refine t_item (B.ato (aJ hm1 hT)).tup (by decide) (by decide) rfl ?_; ktf_call "sts"; refine SC.lower (hle p (List.mem_of_getElem? hp)) ?_; replace B := B.tk s.drawn (s.toks + 1); ktf_call "sts"; refine hK.go (by simp only [hpd]) (by ktf_call "tn") B .rfl fun hb Qx hK => ?_; ktf_call "sts"; refine t_item (B.ato (aJ hm1 hT)).tup (by decide) (by decide) rfl ?_; exact hK.go (by ktf_call "tn") B .rfl (fun kq kq => ⟨_, by rw [hpd]⟩)
 intro γ1 m1 xs r1 s hm1 hk1 hz B; have hst := B.strs hz; ktf_call "sts"; rw [hel2] at hst; ktf_call "qs"; exact h r1 _ _ (B.done hc .nil av) fun hp ok => ⟨xs, hk1 hp ok, hst⟩
theorem c_keys {x lst : Addr} {es : List (Str × Str)} (hel : es.length ≤ 1000) {A : Around} {m : Mp} {s : Shared} {Q E : VP} (hR : Rm A 1 4) (b : Bef w m s)
   (hx : HdK w m x lst) (hl : HdL m lst es) (h : ∀ r m' s', Aft [] m s m' s' → Kn m' (LS r (es.map (·.1))) → Q (.ref r) s') :
   wpAny (model PG w) A (call (.ref 200) [.ref x]) Q E s := by
 refine dK (d := 0) (u := 1) (nw := []) (ns := ["self"]) (ρ₀ := [⟨"self", none, some (.ref x)⟩]) hR b .nil rfl rfl rfl rfl rfl rfl rfl rfl rfl rfl (by decide +kernel) (by rfl) (by decide +kernel) (by decide +kernel) rfl ?_; intro A env L c s' hE hR' hc B hL; ktf_call "opq"; ktf_call "sts"; refine aA B [] (by ktf_call "cs") rfl rfl rfl ?_; refine Attribute_name ?_; ktf_call "sts"; refine ji B hx ?_; clear B; intro s B; refine x12 hl fun hs hko hes => ?_; have hel2 := hes.length; apply aC B hR'.handled hko; intro I s B T; refine cf B T [] ["k", "v"] (fun i v kq => ∃ t, v = .str (es.getD i (ak, ak)).1 t) ⟨rfl, rfl, rfl, by ktf_call "cs", rfl, rfl⟩ (szl (a164 hel hel2)) ?_ ?_
 · intro i v c1 cenv L2 γ1 m1 own ρ nw1 s hi hE hm1 hv hC hM B Qx hK; obtain ⟨p, hp, T, ta, tb, rfl, hT⟩ := hes.get hv; have hpd : es.getD i (ak, ak) = p := by rw [ab, hp]; rfl
   refine bA B hR'.handled (B.ato (aJ hm1 hT)).tup rfl rfl ?_; clear B; intro s B; refine al (ag ?_); ktf_call "st"; refine al (ag ?_); ktf_call "st"; refine assignInOrder_nil ?_; ktf_call "sts"; exact hK.go (by ktf_call "tn") B .rfl (fun kq kq => ⟨_, by rw [hpd]⟩)
 intro γ1 m1 xs r1 s hm1 hk1 hz B; have hst := B.strs hz; ktf_call "sts"; rw [hel2, aB (f := fun (p : Str × Str) => p.1) rfl] at hst; ktf_call "qs"; exact h r1 _ _ (B.done hc .nil av) fun hp ok => ⟨xs, hk1 hp ok, hst⟩
noncomputable def dG (es : List (Str × Str)) (nm d : Str) : Str := match es.find? (fun p => Txt.lower p.1 == Txt.lower nm) with | some p => p.2 | none => d
theorem c_get {x lst : Addr} {nm d : Str} {es : List (Str × Str)} (hso : aG w true (Txt.lower nm)) (hlo : dM nm) (hle : ∀ p ∈ es, dM p.1) (hel : es.length ≤ 1000) {A : Around} {m : Mp} {s : Shared} {t td : Tok} {R : Result → Shared → Prop} (hR : Rm A 3 10) (b : Bef w m s)
   (hx : HdK w m x lst) (hl : HdL m lst es) (h : ∀ t m' s', Aft [] m s m' s' → R (.ok (.ret (.str (dG es nm d) t))) s') :
   codeAny (model PG w) A (.call (.ref 195) ⟨[.ref x, .str nm t], [(aa "default", .str d td)]⟩) R s := by
 refine enterX (d := 2) (u := 7) (s := s) (nw := []) (binds := [(aa "self", .ref x), (aa "name", .str nm t), (aa "default", .str d td)])
   (ns := ["self", "name", "default", "k", "v"]) (ρ₀ := [⟨"self", none, some (.ref x)⟩, ⟨"name", none, some (.str nm t)⟩, ⟨"default", none, some (.str d td)⟩, ⟨"k", none, none⟩, ⟨"v", none, none⟩])
   hR (b.gr _ b.ok) b .nil rfl rfl rfl (fun M A E Q q => kp_binds (K := KK w) (b.gr _ b.ok).k (fun S => by rfl) M A E Q q) rfl rfl rfl rfl rfl rfl (by decide +kernel) (by rfl) (by decide +kernel) (by decide +kernel) rfl ?_
 intro A env L c s' hA hfm hE hR' hc B hL; clear hA; ktf_call "opq"; ktf_call "sts"; refine methodCall_KW ?_; ktf_call "sts"; refine cA (f := 149) B hx (by rfl) (by rfl) (fun kq kq => by rfl) ?_; refine cF (by rfl) (B.kn B.gr).k ?_; ktf_call "sts"; refine SC.lower hlo ?_; replace B := B.tk s'.drawn (s'.toks + 1); ktf_call "sts"; ktf_call "qs"; refine ⟨(B.kn B.gr).k, ?_⟩; refine dL true hso (hR'.less (a160) (a159)) B.bef ?_; intro t3 m2 s2 f2; replace B := B.aft f2; ktf_call "sts"; refine Attribute_name ?_; ktf_call "sts"; refine ji B (hx.up f2.le) ?_; clear B; intro s B; refine x12 (hl.up f2.le) fun hs hko hes => ?_; have hel2 := hes.length; apply aC B hR'.handled hko; intro I s B T; refine codeAny_mono (cD B T ["k", "v"] (fun i m' ρ => ∀ j p, j < i → es[j]? = some p → (Txt.lower p.1 == Txt.lower nm) = false) (fun j p hj => absurd hj (Nat.not_lt_zero _)) ?_ ?_) (fun kq kq x => x)
 · clear B T; intro i v c1 γ1 m3 ρ s hi how hno hm3 hv B hback Qb hN hB hQ; obtain ⟨p, hp, T, ta, tb, rfl, hT⟩ := hes.get hv; refine bA B hR'.handled (B.ato (aJ hm3 hT)).tup rfl rfl ?_; clear B; intro s B; refine al (ag ?_); ktf_call "st"; refine al (ag ?_); ktf_call "st"; refine assignInOrder_nil ?_; ktf_call "sts"; refine SC.lower (hle p (List.mem_of_getElem? hp)) ?_; replace B := B.tk s.drawn (s.toks + 1); ktf_call "sts"; refine br (fun hb => ?_) (fun hb => ?_)
   · ktf_call "sts"; have e : dG es nm d = p.2 := by
       unfold dG; have : es.find? (fun p => Txt.lower p.1 == Txt.lower nm) = some p := by
         rw [List.find?_eq_some_iff_getElem]; have hi' := (List.getElem?_eq_some_iff.mp hp).1; ktf_call "qs"; refine ⟨hb, i, hi', (List.getElem?_eq_some_iff.mp hp).2, fun j hj => ?_⟩; have := hno j es[j] hj (ac (a163 hel2 hi hj)); rw [this]; rfl
       rw [this]
     have := h tb _ _ ((hback.go B).done hc .nil av); rw [e] at this; ktf_call "qs"; refine hQ _ _ ?_; ktf_call "qs"; exact this
   ktf_call "sts"; ktf_call "qs"; refine hN _ m3 _ _ (by ktf_call "ow") (fun j q hj hq => ?_) .rfl B; rcases Nat.lt_succ_iff_lt_or_eq.mp hj with hj | rfl
   · ktf_call "qs"; exact hno j q hj hq
   rw [hp] at hq; cases hq; exact hb
 clear B T; intro γ1 m3 ρ s how hno hm3 B; ktf_call "sts"; have e : dG es nm d = d := by
   unfold dG; have : es.find? (fun p => Txt.lower p.1 == Txt.lower nm) = none := by
     rw [List.find?_eq_none]; intro p hp; obtain ⟨j, hj, e⟩ := List.mem_iff_getElem.mp hp; have := hno j p (a10 hel2 hj) (by rw [ac hj, e]); rw [this]; decide
   rw [this]
 have := h td _ _ (B.done hc .nil av); rw [e] at this; ktf_call "qs"; exact this
end
end
section
local macro_rules | `(tactic| ktf_call "lk") => `(tactic| first
 | with_reducible refine Looks.at (by assumption) ?_
 | with_reducible refine aj ?_ | with_reducible refine nd_bind ?_ | with_reducible refine wpAny_holding ?_ | with_reducible refine wpAny_onRaise ?_
 | (refine nd_load (by assumption) ?_; try dsimp only) | (refine nd_pure ?_; try dsimp only) | k_node)
section
variable {w : World} {A : Around} {E : VP}
theorem merge_one {h : Heap} {g dr t os} {d a : Addr} {hsh : Int} {key : Str} {tk : Tok} {v : Value} {n : Nat} {Q : Unit → Shared → Prop}
   (hd : h.get? d = some emptyDict) (ha : h.get? a = some (dictOf [⟨hsh, .str key tk, v⟩] n)) (hs : (a == sysModules) = false)
   (hq : ∀ h', (∀ b o, b ≠ d → h.get? b = some o → h'.get? b = some o) → h'.get? d = some (dictOf [⟨hsh, .str key tk, v⟩] 1) → Q () ⟨h', g, dr, t, os⟩) :
   wpAny (model PG w) A (mergeMapping d (.ref a) true) Q E ⟨h, g, dr, t, os⟩ := by
 have hne : a ≠ d := fun e => by rw [e, hd] at ha; cases ha
 unfold mergeMapping; unfold isInstance; repeat ktf_call "lk"
 rw [if_neg (by rw [hs]; exact Bool.false_ne_true)]; repeat ktf_call "lk"
 rw [if_pos (show (#[].all fun (e : DictEntry) => isExactStrKey e.key) = true from by simp)]
 repeat ktf_call "lk"
 simp only [Array.findIdx?_empty]; repeat ktf_call "lk"
 rw [if_pos (show (#[].all fun (e : DictEntry) => isExactStrKey e.key) = true from by simp)]
 repeat ktf_call "lk"
 simp only [Array.findIdx?_empty]; repeat ktf_call "lk"
 show wpAny _ _ (updatePart d none (Obj.mapDictKeys fun x => x.push ⟨hsh, .str key tk, v⟩)) _ _ _
 refine wpAny_updatePart (s := ⟨h, g, dr, t, os⟩) hd ?_; have D' : (h.update d (Obj.mapDictKeys fun x => x.push ⟨hsh, .str key tk, v⟩)).get? d = some (dictOf [⟨hsh, .str key tk, v⟩] 1) := by
   rw [Heap.get?_update_self _ hd (by rfl)]; rfl
 have K' : ∀ b o, b ≠ d → h.get? b = some o → (h.update d (Obj.mapDictKeys fun x => x.push ⟨hsh, .str key tk, v⟩)).get? b = some o := fun b o hb e => (Heap.SameBut.update h d _).extBut b o hb e; have ha' := K' a _ hne ha; show wpAny _ _ _ _ _ ⟨h.update d (Obj.mapDictKeys fun x => x.push ⟨hsh, .str key tk, v⟩), g, dr, t, os⟩
 generalize h.update d (Obj.mapDictKeys fun x => x.push ⟨hsh, .str key tk, v⟩) = h' at *
 refine wpAny_lookBehind (o := dictOf [⟨hsh, .str key tk, v⟩] 1) D' (pastItsLine_dict (by rw [sizeLine_eq]; show 1 ≤ _; decide)) ?_
 repeat ktf_call "lk"
 rw [if_neg (by simp)]; repeat ktf_call "lk"
 exact hq h' K' D'
theorem iX {pos : Pos} {q f a : Addr} {self : Value} {env : Env} {e e2 : Expr} {s : Shared} {hsh : Int} {key : Str} {tk : Tok} {v : Value} {n : Nat} {Q : VP} (hf : fnIn (KK w) f = true) (hs : (a == sysModules) = false)
   (h : wpAny (model PG w) A (eval e env) (fun v0 s₁ => wpAny (model PG w) A (eval e2 env) (fun mv s₂ => mv = .ref a ∧ s₂.heap.get? s₁.heap.objs.size = some emptyDict ∧ s₂.heap.get? a = some (dictOf [⟨hsh, .str key tk, v⟩] n) ∧
     ∀ h', (∀ b o, b ≠ s₁.heap.objs.size → s₂.heap.get? b = some o → h'.get? b = some o) → MethP (KK w) q f self h' ∧ wpAny (model PG w) A (call (.ref q) [v0] [(key, v)]) Q E ⟨h', s₂.gens, s₂.drawn, s₂.toks, s₂.os⟩) E ⟨s₁.heap.push emptyDict, s₁.gens, s₁.drawn, s₁.toks, s₁.os⟩) E s) :
   wpAny (model PG w) A (callWith pos (.ref q) [] (backTo pos [(false, eval e env)]) (backToKw pos [(none, eval e2 env)])) Q E s := by
 generalize eval e2 env = x2 at *
 replace h := Calls.spliced_cons (rest := []) (Q := fun vs s₁ => wpAny (model PG w) A x2 (fun mv s₂ => mv = .ref a ∧ s₂.heap.get? s₁.heap.objs.size = some emptyDict ∧ s₂.heap.get? a = some (dictOf [⟨hsh, .str key tk, v⟩] n) ∧
     ∀ h' : Heap, (∀ b o, b ≠ s₁.heap.objs.size → s₂.heap.get? b = some o → h'.get? b = some o) → MethP (KK w) q f self h' ∧ wpAny (model PG w) A (call (.ref q) vs [(key, v)]) Q E ⟨h', s₂.gens, s₂.drawn, s₂.toks, s₂.os⟩) E ⟨s₁.heap.push emptyDict, s₁.gens, s₁.drawn, s₁.toks, s₁.os⟩) (an h (fun v0 s₁ h₁ => Calls.spliced_nil h₁) fun kq kq x => x)
 unfold callWith; refine aj (wpAny_holding ?_); unfold evalArgs; show wpAny _ _ (spliced (backTo pos [(false, eval e env)]) >>= _) _ _ _
 refine aj (an h (fun vs s₁ h₁ => ?_) fun kq kq x => x); refine wpAny_holding ?_; rw [if_neg (show ¬ ((backToKw pos [(none, x2)]).all fun x => x.1.isSome) = true from by show ¬ (false = true); decide)]
 refine aj ?_; unfold mergedKeywords; refine aj (wpAny_alloc ?_); refine aj (wpAny_holding ?_); dsimp only
 refine aj ?_; show wpAny _ _ (forIn [((none : Option Str), (do let v ← x2; standAt pos; pure v))] _ _) _ _ _
 rw [List.forIn_cons]; obtain ⟨hh, g, dr, tt, os⟩ := s₁; dsimp only at h₁ ⊢
 repeat ktf_call "lk"
 refine an h₁ (fun mv s₂ h₂ => ?_) fun kq kq x => x; obtain ⟨rfl, hd, ha, hk⟩ := h₂; refine aj (wpAny_standAt (wpAny_pure ?_)); refine aj (wpAny_onRaise (wpAny_holding (wpAny_tryCatch (wpAny_onRaise ?_)))); obtain ⟨h2, g2, dr2, tt2, os2⟩ := s₂; refine merge_one hd ha hs fun h3 K3 D3 => ?_; have hc := hk h3 K3; clear hk K3 ha hd h₁; dsimp only at hc ⊢
 repeat ktf_call "lk"
 show wpAny _ _ (standAt pos) _ _ _
 refine wpAny_standAt ?_; show wpAny _ _ (keeperOf (.ref q) >>= _) _ _ _
 obtain ⟨hM, hc⟩ := hc; refine x12 (keeps_M (M := model PG w) hf h3 hM) fun k hk' L => ?_; refine aj (L.at ?_)
 have tail : ∀ {t : Sem Value}, wpAny (model PG w) A t Q E ⟨h3, g2, dr2, tt2, os2⟩ → wpAny (model PG w) A (t >>= fun r => holding [r] point >>= fun kq => pure r) Q E ⟨h3, g2, dr2, tt2, os2⟩ :=
   fun ht => aj (an ht (fun r s₂ hr => aj (wpAny_holding (wpAny_point (wpAny_pure hr)))) fun kq kq x => x)
 rw [show (((backTo pos [(false, eval e env)]).any fun x => x.fst) || (backToKw pos [(none, x2)]).any fun x => x.fst.isNone) = true from rfl]
 rcases hk' with rfl | rfl | rfl
 · refine tail ?_; unfold callMarked; exact Calls.wpAny_keep hc
 · exact tail (wpAny_operateT hc)
 exact tail (wpAny_operateT hc)
theorem Call_KW {x : Str} {p pos : Pos} {args : List Expr} {kws : List Keyword} {env : Env} {s : Shared} {Q : VP}
   (h : wpAny (model PG w) A (eval (.Name x p) env) (fun f s₁ => wpAny (model PG w) A (callWith pos f [] (backTo pos (starEach args env)) (backToKw pos (keywordEach kws env))) Q E s₁) E s) :
   wpAny (model PG w) A (eval (.Call (.Name x p) args kws pos) env) Q E s := aj h
end
end
section
section
variable {w : World} {c : Cx} {γ γ' : Array GenState} {m m' : Mp} {env cenv : Env} {own : List Addr} {ρ ρ' : List VE} {nw nw' : Led} {s s' : Shared} {A : Around} {E : VP}
theorem o_bound {x lst : Addr} {expr : Bool} {Q : VP} (B : Bd w c γ m env own ρ nw s) (hx : HdK w m x lst)
   (h : ∀ q m' s', m.le m' → m' q = some (methodObj (.ref 195) (.ref x)) → Bd w c γ m' env own ρ nw s' → Q (.ref q) s') : wpAny (model PG w) A (getAttr (.ref x) (aa "get") expr) Q E s := by
 refine x31 (hx.inst B.ok) fun dx tk n I => ?_; have X := (B.kn B.gr).k; refine get_bind X I (by rfl) (g := .builtin "function.__get__") (a := .ref 195) (by rfl) (by rfl) ?_; refine wpAny_call (fn_get (s := { s with toks := s.toks + 1 }) X (by rfl) (handed_on rfl ?_))
 exact h _ _ _ (B.freshLe _) Mp.put_self (B.pushK rfl)
theorem kd {x lst q : Addr} {nm d : Str} {es : List (Str × Str)} (hso : aG w true (Txt.lower nm)) (hlo : dM nm) (hle : ∀ p ∈ es, dM p.1) (hel : es.length ≤ 1000) {A : Around} {m : Mp} {s : Shared} {t td : Tok} {Q E : VP} (hR : Rm A 4 13) (b : Bef w m s)
   (hx : HdK w m x lst) (hl : HdL m lst es) (hq : m q = some (methodObj (.ref 195) (.ref x))) (h : ∀ t T m' s', Aft [] m s m' s' → Kn m' (At T (ki [.str (dG es nm d) t, .str (dG es nm d) t])) → Q (.ref T) s') :
   wpAny (model PG w) A (call (.ref 97) [.str nm t, .ref q] [(aa "default", .str d td)]) Q E s := by
 refine wpAny_call ?_; have G := b.gr _ b.ok; have k1 : ∀ a o, s.heap.get? a = some o → (s.heap.push emptyDict).get? a = some o := ar _; have hdx0 : (s.heap.push emptyDict).get? s.heap.objs.size = some emptyDict := Heap.get?_push_size _ rfl; have fresh : s.heap.get? s.heap.objs.size = none := by
   cases e : s.heap.get? s.heap.objs.size with
   | none => rfl
   | some o => exact absurd (Heap.lt_size e) (Nat.lt_irrefl _)
 have hsys : (s.heap.objs.size == sysModules) = false := by
   obtain ⟨mp, ⟨o, es, ep, ho, _⟩, _⟩ := G.g; have h1 := Heap.lt_size ho; have h2 : mainGlobals = 3 := rfl; have h3 : sysModules = 1 := rfl; refine beq_eq_false_iff_ne.mpr fun e => ?_; rw [h2] at h1; rw [e, h3] at h1; ktf_call "qs"; exact absurd h1 (by decide)
 generalize hdxe : s.heap.objs.size = dx at *
 have hmd : m dx = none := by
   cases e : m dx with
   | none => rfl
   | some o => have := b.ok _ _ e; rw [fresh] at this; cases this
 generalize hob : dictOf [⟨PyData.keyHash w.params (aa "default"), .str (aa "default") s.toks, .str d td⟩] 1 = ob; generalize hh1 : (s.heap.push emptyDict).update dx (Obj.putName (aa "default") (PyData.keyHash w.params (aa "default")) (.str (aa "default") s.toks) (.str d td)) = h1; have hdx : h1.get? dx = some ob := by
   rw [← hh1, Heap.get?_update_self _ hdx0 (by rfl), ← hob]; rfl
 have k2 : ∀ a o, s.heap.get? a = some o → h1.get? a = some o := fun a o e => by
   rw [← hh1]; have hne : a ≠ dx := fun q => by rw [q, fresh] at e; cases e
   ktf_call "qs"; exact (Heap.SameBut.update _ dx _).extBut a o hne (k1 a o e)
 have b1 : Bef w (m.put dx ob) ⟨h1, s.gens, s.drawn, s.toks + 1, s.os⟩ := by
   ktf_call "qs"; refine ⟨fun a o e => ?_, b.gr.up (Mp.le_put hmd), b.bare⟩; unfold Mp.put at e; by_cases q : a = dx
   · rw [if_pos q] at e; cases e; rw [q]; exact hdx
   rw [if_neg q] at e; exact k2 a o (b.ok a o e)
 refine enterY (d := 3) (u := 10) (s := ⟨h1, s.gens, s.drawn, s.toks + 1, s.os⟩) (nw := []) (binds := [(aa "name_index", .str nm t), (aa "get_name", .ref q), (aa "extrainfo", .ref dx)])
   (ns := ["name_index", "get_name", "extrainfo", "argval"]) (ρ₀ := [⟨"name_index", none, some (.str nm t)⟩, ⟨"get_name", none, some (.ref q)⟩, ⟨"extrainfo", none, some (.ref dx)⟩, ⟨"argval", none, none⟩])
   hR G b1 .nil rfl rfl rfl (fun A E Q qq => ?_) rfl rfl rfl rfl rfl rfl (by decide +kernel) (by rfl) (by decide +kernel) (by decide +kernel) rfl ?_
 · refine Eq.mpr (congrArg (fun z => wpAny (model PG w) A z Q E _) (?e : _ = alloc emptyDict >>= fun D => forIn [(aa "default", Value.str d td)] PUnit.unit (fun x kq => nsSet D x.1 x.2 >>= fun kq => pure (ForInStep.yield PUnit.unit)) >>= fun kq => pure [(aa "name_index", Value.str nm t), (aa "get_name", .ref q), (aa "extrainfo", .ref D)])) ?_; case e => kernel_rfl
   refine aj (wpAny_alloc ?_); rw [hdxe]; rw [List.forIn_cons]; unfold nsSet; refine aj (aj (aj (aj (aj (wpAny_askSetting (wpAny_pure (aj (wpAny_mkText (aj (wpAny_loadPart hdx0 ?_)))))))))); dsimp only
   rw [show aRefKeyMayBeTheName (aa "default") #[] = false from by rw [aRefKeyMayBeTheName_at]; simp]
   refine wpAny_updatePart hdx0 (wpAny_pure (wpAny_pure (wpAny_pure ?_))); have := qq; rw [← hh1] at this; ktf_call "qs"; exact this
 intro A' env L c s' hA hfm hE hR' hc B hL; clear hA; generalize hγ : s.gens = γ0 at B; have hdk : (m.put dx ob) dx = some ob := Mp.put_self; have hle1 := Mp.le_put (o := ob) hmd; have hx1 : HdK w (m.put dx ob) x lst := hx.up hle1; have hl1 : HdL (m.put dx ob) lst es := hl.up hle1; have hq1 := hle1 _ _ hq; generalize hm1 : m.put dx ob = m1 at *
 obtain ⟨tk0, htk0⟩ : ∃ x, x = s.toks := ⟨_, rfl⟩; rw [← htk0] at hob; ktf_call "sts"; refine bZ rfl ?_; ktf_call "sts"; refine Call_KW ?_; ktf_call "sts"; refine iX (f := 195) (self := .ref x) (key := aa "default") (v := .str d td) (n := 1) (hsh := PyData.keyHash w.params (aa "default")) (tk := tk0) (by rfl) hsys ?_; ktf_call "st"; have hfr := B.fresh; have hself : (s.heap.push emptyDict).get? s.heap.objs.size = some emptyDict := Heap.get?_push_size _ rfl; replace B := B.grow (d := s.drawn) (t := s.toks) (ar emptyDict); ktf_call "sts"; ktf_call "qs"; refine ⟨rfl, hself, ?_, fun h' K' => ?_⟩
 · rw [hob]; exact B.ok _ _ hdk
 replace B := B.lose (d := s.drawn) (tk := s.toks) (h' := h') (fun b o hb e => K' b o hb e) hfr.1 hfr.2.2 hfr.2.1; ktf_call "qs"; refine ⟨⟨B.ok _ _ hq1, (B.kn B.gr).k⟩, ?_⟩; refine wpAny_call (method_call (B.ok _ _ hq1) ?_); refine c_get hso hlo hle hel (hR'.less (a171) (a170)) B.bef hx1 hl1 ?_; intro t2 m2 s2 f2; replace B := B.aft f2; ktf_call "sts"; ktf_call "nt"; intro T m3 s3 hm3 hT B; ktf_call "sts"; subst hγ; have f := B.done hc .nil av; ktf_call "qs"; refine h _ T m3 s3 ⟨hle1.trans f.le, f.ok, fun a o e hX => f.keep a o (k2 a o e) hX, fun a o e => (f.low a o (k2 a o e)).trans ?_, f.os, f.gens, f.bare⟩ hT; rw [← hm1]; ktf_call "qs"; exact Mp.put_ne fun q => by rw [q, fresh] at e; cases e
end
end
section
noncomputable def stBody : Stmt → List Stmt
 | .FunctionDef _ _ b _ _ _ _ _ _ _ => b
 | _ => []
noncomputable def stScope : Stmt → Scope
 | .FunctionDef _ _ _ _ _ _ sc _ _ _ => sc
 | _ => PySem.Challenge.pw_kl0125_01.main.scope
noncomputable def lastSt : List Stmt → Stmt
 | [] => .Pass ⟨0, 0, 0, 0⟩
 | [a] => a
 | _ :: b :: r => lastSt (b :: r)
noncomputable def lawDef : Stmt := lastSt PySem.Challenge.pw_kl0125_01.main.body
noncomputable def lawBody : List Stmt := stBody lawDef
noncomputable def lawScope : Scope := stScope lawDef
structure LawE (A : Around) (env : Env) (L : Addr) : Prop where
 kinds : EnvOf env lawScope L (cellsFrom (L + 1) lawScope.names [])
 room : Rm A 60 300
 frames : A.frames = some [env]
 frame : env.frame = some L
noncomputable def ao (i : Nat) : Nat := [7, 11, 13, 14, 19, 21, 22, 25, 26, 28, 3, 30].getD i 0
noncomputable def aZ (f : Nat) : List Str := (af 5).map fun k => aw (f + k)
section
variable {w : World} {c : Cx} {γ γ' : Array GenState} {m m' : Mp} {env cenv : Env} {own : List Addr} {ρ ρ' : List VE} {nw nw' : Led} {s s' : Shared} {A : Around} {E : VP}
variable {elt t1 i1 t2 i2 : Expr} {ifs : List Expr} {scope : Scope} {pos : Pos} {I : Addr} {n : Nat} {V : VH}
theorem lc2_go_to {Q : VP} {y : Str} {py : Pos} (B : Bd w c γ m env own ρ nw s) (T : Src w A t1 c m own nw I n V s) (ce : List VE) (ns : List Str) (Z : Nat → List Value → Mp → Prop) (Zup : ∀ i xs m m', m.le m' → Z i xs m → Z i xs m')
   (ok : CompOk scope ns ce ρ)
   (hs : ∀ cenv x, foldedSetIterable i2 cenv x = pure x) (z0 : Z 0 [] m) (hput : Hn y none ρ)
   (turn : ∀ i v c1 cenv L acc γ m1 xs s, i < n → EnvOf cenv (relabel scope env) L (bc (fun n => env.cells.lookup n) scope.names []) → m.le m1 → V i v s.heap → Z i xs m1 →
     Bd w c1 γ m1 cenv [L] (ns.map (fun n => ⟨n, none, none⟩) ++ ce) ((acc, au xs) :: nw) s →
     wpAny (model PG w) A (assign t1 cenv v) (fun kq s₂ => wpAny (model PG w) A (eval i2 cenv) (fun x s₃ => wpAny (model PG w) A (pyIter x) (fun it s₄ =>
       bF w A (.ListComp elt [⟨t1, i1, [], 0⟩, ⟨t2, i2, ifs, 0⟩] scope pos) acc cenv (fun s₅ => ∃ γ' m' ρ' ys, m1.le m' ∧ Z (i + 1) (xs ++ ys) m' ∧ cV ρ' = cV (ns.map (fun n => ⟨n, none, none⟩) ++ ce) ∧ Bd w c1 γ' m' cenv [L] ρ' ((acc, au (xs ++ ys)) :: nw) s₅) it s₄) NoE s₃) NoE s₂) NoE s)
   (fin : ∀ γ' m' xs a ρ' s', m.le m' → Kn m' (At a (au xs)) → Z n xs m' → PutV y none (.ref a) ρ ρ' → Bd w c γ' m' env own ρ' nw s' → Q .none s') :
   Lc2Go w A env elt t1 i1 t2 i2 ifs scope pos (some (assign (.Name y py) env)) E Q (.ref I) s := by
 refine jo (R := fun acc C => compPost (model PG w) A E (some (assign (.Name y py) env)) Q acc C) B T ce ns Z ok hs z0 turn fun γ' m' xs L acc s' hm hz B' => ?_; show wpAny _ A (assign (.Name y py) env (.ref acc)) _ _ _
 refine ag (r_storeO B' hput nocel fun ρ' s'' hV B2 => ?_); obtain ⟨mp, hn⟩ := NsO.ns (B2.at (.head _)); refine ⟨mp, hn, fun h' hs => ?_⟩; have B3 := B2.lose1 (h' := h') (d := s''.drawn) (tk := s''.toks) (aM hs); refine x13 B3.freeze fun m2 h1 h2 h3 => ?_; exact fin γ' m2 xs acc ρ' _ (hm.trans h1) h2 (Zup _ _ _ _ h1 hz) hV h3
end
end
section
section
variable {w : World} {s : Shared} {A : Around} {E : VP}
theorem jF {n : Nat} : ((af n).all fun kq => true) = true := by simp
theorem iH {l b : Addr} {xs ys : List Value} {Q : VP} (hu : A.units < cLine) (hl : At l (au xs) s.heap) (hb : At b (au ys) s.heap) (hz : xs.length = ys.length)
   (he : ∀ (A : Around) (j : Nat) (x y : Value), xs[j]? = some x → ys[j]? = some y → SeqAt.EqAt A s x y true) (h : Q (.bool false) s) : wpAny (model PG w) A (compareOp .NotEq (.ref l) (.ref b)) Q E s := by
 have := SeqAt.RcNeAt.lists (e := fun kq => true) hl.list hb.list (by simpa using hz) hu (fun j h1 h2 => he A.in1 j _ _ (by simp at h1; rw [ac h1]; rfl) (by simp at h2; rw [ac h2]; rfl)) PG w E Q; rw [jF] at this; exact this h
theorem eq_same {l b : Addr} {xs ys : List Value} {Q : VP} (hu : A.units < cLine) (hl : At l (au xs) s.heap) (hb : At b (au ys) s.heap) (hz : xs.length = ys.length)
   (he : ∀ (A : Around) (j : Nat) (x y : Value), xs[j]? = some x → ys[j]? = some y → SeqAt.EqAt A s x y true) (h : Q (.bool true) s) : wpAny (model PG w) A (compareOp .Eq (.ref l) (.ref b)) Q E s := by
 refine SeqAt.eq_listAt (e := fun kq => true) hl.list hb.list (by simpa using hz) hu (fun j h1 h2 => he A.in1 j _ _ (by simp at h1; rw [ac h1]; rfl) (by simp at h2; rw [ac h2]; rfl)) ?_; rw [jF]; exact h
theorem ne_ints {l b : Addr} {ns : List Int} {Q : VP} (hu : A.units < cLine) (hl : LI l ns s.heap) (hb : LI b ns s.heap) (h : Q (.bool false) s) : wpAny (model PG w) A (compareOp .NotEq (.ref l) (.ref b)) Q E s := by
 refine x12 hl fun xs h1 h2 => ?_; refine x12 hb fun ys h3 h4 => ?_; refine iH hu h1 h3 (by rw [aF h2, aF h4]) (fun A j x y hx hy => ?_) h; obtain ⟨n, t, e1, rfl⟩ := bz h2 hx; obtain ⟨n', t', e2, rfl⟩ := bz h4 hy; rw [e1] at e2; cases e2
 have := SeqAt.EqAt.int_int (A := A) (s := s) n t n t'; rwa [beq_self_eq_true] at this
theorem gp {l b : Addr} {ns : List Str} {Q : VP} (hu : A.units < cLine) (hl : LS l ns s.heap) (hb : LS b ns s.heap) (h : Q (.bool false) s) : wpAny (model PG w) A (compareOp .NotEq (.ref l) (.ref b)) Q E s := by
 refine x12 hl fun xs h1 h2 => ?_; refine x12 hb fun ys h3 h4 => ?_; refine iH hu h1 h3 (by rw [ax h2, ax h4]) (fun A j x y hx hy => ?_) h; obtain ⟨n, t, e1, rfl⟩ := aV h2 hx; obtain ⟨n', t', e2, rfl⟩ := aV h4 hy; rw [e1] at e2; cases e2
 have := SeqAt.EqAt.str_str (A := A) (s := s) n t n t'; rwa [beq_self_eq_true] at this
end
end
section
section
variable {w : World} {c : Cx} {γ γ' : Array GenState} {m m' : Mp} {env cenv : Env} {own : List Addr} {ρ ρ' : List VE} {nw nw' : Led} {s s' : Shared} {A : Around} {E : VP}
theorem gm_index {l : Addr} {vs : List Value} {pl : Sem Bool} {Q : Value × List Value → Shared → Prop} (hl : At l (au vs) s.heap) (h : Q (.builtin "list.index", [.ref l]) s) : wpAny (model PG w) A (getMethod (.ref l) (aa "index") pl) Q E s := by
 obtain ⟨n, ho⟩ := hl.plain; exact getMethod_builtin hl.list.typeIs PySem.F.plainAttrs_list PySem.F.slot_list_index PySem.F.type_list_index (fun a e => by cases e; exact ⟨_, ho, rfl⟩) h
theorem jq (k : Str) {vs : List Value} {ys : List Str} (h : StrsAre vs ys) (j : Nat) (h1 : j < vs.length) {y : Str} (hy : ys[j]? = some y) : isStrOf k vs[j] = (y == k) := by
 obtain ⟨t, ht⟩ := dk h hy; rw [ac h1] at ht; rw [Option.some.inj ht]; rfl
theorem l_indexS {l : Addr} {ys : List Str} {k : Str} {j : Nat} {t : Tok} {Q : VP} (B : Bd w c γ m env own ρ nw s) (hl : LS l ys s.heap) (hz : ys.length ≤ 1000) (hj : ys[j]? = some k) (hno : ∀ i, i < j → ∀ y, ys[i]? = some y → (y == k) = false)
   (h : ∀ t s', Bd w c γ m env own ρ nw s' → Q (.int j t) s') : wpAny (model PG w) A (call (.builtin "list.index") [.ref l, .str k t]) Q E s := by
 refine x12 hl fun vs h1 h2 => ?_; obtain ⟨n, ho⟩ := h1.plain; have hlen := ax h2; have hjl := (List.getElem?_eq_some_iff.mp hj).1
 refine call_meets PySem.F.slot_list_index ⟨_, ho, rfl⟩ PySem.F.entry_list_index (PySem.F.args_list_index_2 _ _)
   (PySem.MeetsSeq.list_index l vs.toArray n (.str k t) (isStrOf k) (fun y hy => eq_isStrOf k t h2 y (by simpa using hy)) j (by simp; exact a10 hlen hjl) (a23 hz hjl) ?_ ?_) ⟨ho, h _ _ (B.tk _ _)⟩
 · show isStrOf k vs[j] = true
   rw [jq k h2 j (a10 hlen hjl) hj]; simp
 intro i hi hlt; show isStrOf k vs[i] = false
 have hil : i < ys.length := a22 hjl hlt
 rw [jq k h2 i (by (first | lia | omega)) (ac hil)]
 exact hno i hlt _ (ac hil)
end
theorem swapsNone {env : Env} {x y : Str} {px py p p' : Pos} {k k' : Nat} {v1 v2 : Expr} (hk : env.scope.kind = .function) (hx : env.kindOf x = some .cell) (hy : env.kindOf y = some .cell)
   (hst : ([v1, v2].any fun | .Starred .. => true | _ => false) = false) :
   swappedStores [.Tuple [.Name x px, .Name y py] k p] (.Tuple [v1, v2] k' p') env = pure none := by
 unfold swappedStores; have e1 : (env.blockKind != ScopeKind.function) = false := by rw [blk hk]; rfl
 dsimp only
 refine (if_neg ?_).trans ((if_neg ?_).trans ?_)
 · rw [e1]; exact Bool.false_ne_true
 · exact fun h => Bool.noConfusion (h.symm.trans hst)
 have e2 : (List.filterMap (fun
   | Expr.Name id pos => if env.kindOf id == some .local && pos.line == (([Expr.Name x px, Expr.Name y py].head?.map (·.pos.line)).getD 0) then some id else none
   | _ => none) [Expr.Name x px, Expr.Name y py]) = [] := by
   simp only [List.filterMap_cons, List.filterMap_nil, hx, hy]; have h1 : ∀ b, ((some NameKind.cell == some NameKind.local) && b) = false := fun b => rfl; rw [h1, h1]; rfl
 generalize hN : List.filterMap _ [Expr.Name x px, Expr.Name y py] = N; have hN' : N = [] := hN.symm.trans e2; subst hN'; exact if_pos rfl
end
section
section
variable {w : World} {A : Around} {E : VP} {c : Cx} {γ γ' : Array GenState} {m m' : Mp} {env cenv : Env} {own : List Addr} {ρ ρ' : List VE} {nw nw' : Led} {s s' : Shared} {wr : List Addr} {gw : Nat → Prop}
section
variable {elt target iter : Expr} {ifs : List Expr} {scope : Scope} {pos : Pos} {I : Addr} {n : Nat} {V : VH}
theorem lc_goT {t0 : Nat} {Q : VP} (B : Bd w c γ m env own ρ nw s) (T : Src w A target c m own nw I n V s) (ht : t0 ≤ s.toks) (ce : List VE) (ns : List Str) (p : Nat → Bool) (W : VH)
   (ok : CompOk scope ns ce ρ) (hz : n ≤ sizeLine)
   (turn : ∀ i v c1 cenv L γ m1 nw1 s, i < n → t0 ≤ s.toks → EnvOf cenv (relabel scope env) L (bc (fun n => env.cells.lookup n) scope.names []) → m.le m1 → V i v s.heap → (∀ q ∈ nw, q ∈ nw1) →
     Bd w c1 γ m1 cenv [L] (ns.map (fun n => ⟨n, none, none⟩) ++ ce) nw1 s →
     wpAny (model PG w) A (assign target cenv v) (fun kq s₂ => wpAny (model PG w) A (bt ifs cenv) (fun ok s₃ =>
         ok = p i ∧ if ok = true then wpAny (model PG w) A (eval elt cenv) (fun x s₄ => bB w c1 cenv [L] (ns.map (fun n => ⟨n, none, none⟩) ++ ce) nw1 m1 (W i x) s₄) NoE s₃
         else bB w c1 cenv [L] (ns.map (fun n => ⟨n, none, none⟩) ++ ce) nw1 m1 (fun kq => True) s₃) NoE s₂) NoE s)
   (fin : ∀ γ' m' xs a s', m.le m' → Kn m' (At a (au xs)) → All2 (fun x i => Kn m' (W i x)) xs ((af n).filter p) → Bd w c γ' m' env own ρ nw s' → Q (.ref a) s') :
   kj w A env elt target iter ifs scope pos none E Q (.ref I) s := by
 refine iM (t0 := t0) (R := fun acc C => compPost (model PG w) A E none Q acc C) B T ht ce ns p W ok hz turn fun γ' m' xs L acc s' hm hxs B' => ?_; obtain ⟨mp, hn⟩ := NsO.ns (B'.at (.head _)); refine ⟨mp, hn, fun h' hs => ?_⟩; have B2 : Bd w c γ' m' env own ρ ((acc, au xs) :: nw) ⟨h', s'.gens, s'.drawn, s'.toks, s'.os⟩ := B'.lose1 (aM hs); refine x13 B2.freeze fun m2 h1 h2 h3 => ?_; exact fin γ' m2 xs acc _ (hm.trans h1) h2 (hxs.imp fun kq kq k => k.up h1) h3
end
end
end
section
section
variable {w : World} {c : Cx} {γ γ' : Array GenState} {m m' : Mp} {env cenv : Env} {own : List Addr} {ρ ρ' : List VE} {nw nw' : Led} {s s' : Shared} {A : Around} {E : VP}
theorem execs_consT {st : Stmt} {rest : List Stmt} {Q : Flow → Shared → Prop} (ht : 1 ≤ s.toks)
   (h : wpAny (model PG w) A (exec st env) (fun f s' => 1 ≤ s'.toks → match f with | .next => wpAny (model PG w) A (execs rest env) Q E s' | f => Q f s') E s) : wpAny (model PG w) A (execs (st :: rest) env) Q E s :=
 wpAny_execs_cons (bn ht (an h (fun kq kq q => q) fun kq kq x kq => x))
theorem k_intT {i : Int} {k : Nat} {pos : Pos} {Q : VP} (B : Bd w c γ m env own ρ nw s) (h : ∀ t s', 1 ≤ s'.toks → Bd w c γ m env own ρ nw s' → Q (.int i t) s') :
   wpAny (model PG w) A (eval (.Constant (.int i) k pos) env) Q E s := wpAny_Constant_int (h _ _ (Nat.le_add_left 1 _) (B.tk _ _))
theorem toksQ {α : Type} {t : Sem α} {Q : α → Shared → Prop} (ht : 1 ≤ s.toks) (h : wpAny (model PG w) A t (fun a s' => 1 ≤ s'.toks → Q a s') E s) : wpAny (model PG w) A t Q E s :=
 bn ht (an h (fun kq kq q => q) fun kq kq x kq => x)
end
end
local macro_rules | `(tactic| ktf_call $s:str) => Mine.wkX (s.getString ++ "+")
section
section
variable {w : World} {c : Cx} {γ : Array GenState} {m : Mp} {env : Env} {s : Shared} {A : Around} {E : VP} {Q : Flow → Shared → Prop} {L : Addr} {own : List Addr} {ρ : List VE}
theorem law_1 (W : LawE A env L) {sa : Addr} {ns : List Int} (hns : ns.length ≤ 1000) (hsa : Kn m (LI sa ns)) (B : Bd w c γ m env own ρ [] s) (r_script : (⟨"script", none, some (.ref sa)⟩ : VE) ∈ ρ) (r_sums : Hn (aa "sums") none ρ) (r_first : Hn (aa "first") (some (L + 1)) ρ) (o_first : L + 1 ∈ own) (r_words : Hn (aa "words") (some (L + 2)) ρ) (o_words : L + 2 ∈ own) (r_mask : Hn (aa "mask") (some (L + 3)) ρ) (o_mask : L + 3 ∈ own) (r_due : Hn (aa "due") none ρ)
   (h : ∀ (f i o g d : Nat) (sums words due : Addr) (tf tm : Tok) ρ' γ m' s', f < 24 → i < 12 → o < 720 → g < 120 → d < 46656 → m.le m' → 1 ≤ s'.toks → Kn m' (LS words (aZ f)) → Kn m' (LI due [(o : Int), (g : Int), ((ao i <<< f : Nat) : Int), (d : Int)]) →
     Ow ["sums", "first", "words", "mask", "due"] ρ ρ' → (⟨"due", none, some (.ref due)⟩ : VE) ∈ ρ' → (⟨"first", some (L + 1), some (.int (f : Nat) tf)⟩ : VE) ∈ ρ' → (⟨"words", some (L + 2), some (.ref words)⟩ : VE) ∈ ρ' → (⟨"mask", some (L + 3), some (.int (ao i : Nat) tm)⟩ : VE) ∈ ρ' → Bd w c γ m' env own ρ' [] s' → wpAny (model PG w) A (execs (lawBody.drop 5) env) Q E s') :
   wpAny (model PG w) A (execs (lawBody.drop 0) env) Q E s := by
 conv => arg 3; arg 1; whnf
 have hE := W.kinds; have hR' := W.room; ktf_call "sts"; ktf_call "nl"; intro sd m1 s hm1 hsd B; ktf_call "sts"; refine c_sums (sds := [516, 45, 8, 3926]) hns (by decide) (hR'.less (a178) (a177)) B.bef (hsa.up hm1) (hsd.map fun h x => ⟨_, x, .cons _ _ (.cons _ _ (.cons _ _ (.cons _ _ .nil)))⟩) ?_; intro sums rs m2 s f2 hrs hrl hrb; replace B := B.aft f2; obtain ⟨n0, n1, n2, n3, rfl⟩ : ∃ n0 n1 n2 n3, rs = [n0, n1, n2, n3] := by
   exact len4 hrl
 ktf_call "sts"; refine l_sum B hR'.handled (B.kn hrs) ?_; clear B; intro t s B; refine k_intT B ?_; clear B; intro tk s htk B; refine toksQ htk ?_; refine i_mod B (by decide) ?_; clear B htk; intro tk s B htk; refine toksQ htk ?_; ktf_call "sts"; generalize hfe : ([n0, n1, n2, n3].sum).fmod 24 = fi at *
 obtain ⟨f, rfl⟩ : ∃ f : Nat, fi = (f : Nat) := ⟨fi.toNat, by rw [Int.toNat_of_nonneg]; rw [← hfe]; exact Int.fmod_nonneg_of_pos _ (by decide)⟩; have hf24 : f < 24 := by have := Int.fmod_lt_of_pos ([n0, n1, n2, n3].sum) (show (0 : Int) < 24 by decide); rw [hfe] at this; exact a181 this
 clear hfe; obtain ⟨tf, htf⟩ : ∃ t, t = tk := ⟨_, rfl⟩; rw [← htf] at hV; refine d5 B (hE.kind (by rfl)) rfl ?_; refine aA B [⟨"first", some (L + 1), some (.int (f : Nat) tf)⟩] (by ktf_call "cs") rfl rfl rfl ?_; ktf_call "sts"; apply bu (k := 5) B hR'.handled (by decide +kernel); intro I s B T; refine cf B T [⟨"first", some (L + 1), some (.int (f : Nat) tf)⟩] ["k"] (fun i v kq => ∃ t, v = .str (aw (f + i)) t) ⟨rfl, rfl, rfl, by ktf_call "cs", rfl, rfl⟩ (by decide) ?_ ?_
 · intro j v c2 cenv L2 γ2 m6 own ρ nw2 s hj hE hm6 hv hC hM B Qx hK; obtain ⟨t, rfl⟩ := hv; refine ag ?_; ktf_call "st"; ktf_call "sts"; rw [show (f : Int) + (j : Int) = ((f + j : Nat) : Int) from by exact a180]
   refine c_word (f + j) (a179 hf24 hj) (hR'.less (a178) (a177)) B.bef ?_; intro t2 m7 s7 f7; replace B := B.aft f7; exact hK.go (by ktf_call "tn") B f7.le (fun kq kq => ⟨_, rfl⟩)
 intro γ3 m3 xs words s hm3 hk3 hxs B; have hws : Kn m3 (LS words (aZ f)) := by
   have := B.strs hxs; exact fun hp ok => ⟨xs, hk3 hp ok, this⟩
 clear hxs hk3; replace hrs := hrs.up hm3; ktf_call "sts"; ktf_call "nl"; intro ml m4 s hm4 hml B; ktf_call "sts"; replace hrs := hrs.up hm4; replace hws := hws.up hm4; refine bE (n := n2) (B.kn hrs) (by decide) (by decide) rfl fun t2 => ?_; ktf_call "sts"; obtain ⟨i, hi⟩ : ∃ i : Nat, n2.fmod 12 = (i : Nat) := ⟨(n2.fmod 12).toNat, by rw [Int.toNat_of_nonneg]; exact Int.fmod_nonneg_of_pos _ (by decide)⟩; have hi12 : i < 12 := by have := Int.fmod_lt_of_pos n2 (show (0 : Int) < 12 by decide); rw [hi] at this; exact a176 this
 rw [hi]; refine bE (ns := [7, 11, 13, 14, 19, 21, 22, 25, 26, 28, 3, 30]) (n := ((ao i : Nat) : Int)) (B.kn (hml.map fun h x => ⟨_, x, .cons _ _ (.cons _ _ (.cons _ _ (.cons _ _ (.cons _ _ (.cons _ _ (.cons _ _ (.cons _ _ (.cons _ _ (.cons _ _ (.cons _ _ (.cons _ _ .nil)))))))))))⟩)) (a12) (a175 hi12) ?_ fun tm => ?_
 · rw [Int.toNat_natCast]; exact (by decide +kernel : ∀ i : Nat, i < 12 → ([7, 11, 13, 14, 19, 21, 22, 25, 26, 28, 3, 30] : List Int)[i]? = some ((ao i : Nat) : Int)) i hi12
 have hmask : ao i ≤ 30 := (by decide +kernel : ∀ i : Nat, i < 12 → ao i ≤ 30) i hi12; ktf_call "sts"; refine bE (n := n0) (B.kn hrs) (by decide) (by decide) rfl fun t3 => ?_; ktf_call "sts"; refine bE (n := n1) (B.kn hrs) (by decide) (by decide) rfl fun t4 => ?_; ktf_call "sts"; refine bE (n := n3) (B.kn hrs) (by decide) (by decide) rfl fun t5 => ?_; ktf_call "sts"; ktf_call "nl"; intro due m5 s hm5 hdue B; ktf_call "st"; ktf_call "st"; obtain ⟨o, ho⟩ : ∃ i : Nat, n0.fmod 720 = (i : Nat) := ⟨(n0.fmod 720).toNat, by rw [Int.toNat_of_nonneg]; exact Int.fmod_nonneg_of_pos _ (by decide)⟩; have ho2 : o < 720 := by have := Int.fmod_lt_of_pos n0 (show (0 : Int) < 720 by decide); rw [ho] at this; exact a174 this
 obtain ⟨g, hg⟩ : ∃ i : Nat, n1.fmod 120 = (i : Nat) := ⟨(n1.fmod 120).toNat, by rw [Int.toNat_of_nonneg]; exact Int.fmod_nonneg_of_pos _ (by decide)⟩; have hg2 : g < 120 := by have := Int.fmod_lt_of_pos n1 (show (0 : Int) < 120 by decide); rw [hg] at this; exact a173 this
 obtain ⟨d, hd⟩ : ∃ i : Nat, n3.fmod 46656 = (i : Nat) := ⟨(n3.fmod 46656).toNat, by rw [Int.toNat_of_nonneg]; exact Int.fmod_nonneg_of_pos _ (by decide)⟩; have hd2 : d < 46656 := by have := Int.fmod_lt_of_pos n3 (show (0 : Int) < 46656 by decide); rw [hd] at this; exact a172 this
 rw [ho, hg, hd] at hdue; refine h f i o g d sums words due tf tm _ _ m5 s hf24 hi12 ho2 hg2 hd2 (hm1.trans (f2.le.trans (hm3.trans (hm4.trans hm5)))) htk (hws.up hm5) (hdue.map fun h x => ⟨_, x, .cons _ _ (.cons _ _ ?_)⟩) (by ktf_call "ow") (by ktf_call "mem") (by ktf_call "mem") (by ktf_call "mem") (by ktf_call "mem") B; rw [show ((ao i : Nat) : Int) * 2 ^ ((f : Nat) : Int).toNat = ((ao i <<< f : Nat) : Int) from by rw [Nat.shiftLeft_eq, Int.toNat_natCast]; simp]
 exact .cons _ _ (.cons _ _ .nil)
end
end
section
theorem or_digit (v r : Nat) (hr : r < 64) : Builtin.bitOr ((v * 64 : Nat) : Int) (r : Int) = ((v * 64 + r : Nat) : Int) := by
 have e : (v * 64) &&& r = 0 := by
   apply Nat.eq_of_testBit_eq; intro j; rw [Nat.testBit_and, show 64 = 2 ^ 6 from rfl, Nat.testBit_mul_two_pow, Nat.zero_testBit]
   by_cases h : 6 ≤ j
   · have : r.testBit j = false := Nat.testBit_lt_two_pow (Nat.lt_of_lt_of_le hr (Nat.pow_le_pow_right (n := 2) (by decide) h)); rw [this, Bool.and_false]
   simp [h]
 rw [bitOr_and, bitAnd_pp (Int.natCast_nonneg _) (Int.natCast_nonneg _), Int.toNat_natCast, Int.toNat_natCast, e]; exact a92
theorem and_more (o : Nat) (ho : o < 256) : (Builtin.bitAnd (o : Int) 64 != 0) = o.testBit 6 := by
 have : ∀ o : Fin 256, (Builtin.bitAnd (o.val : Int) 64 != 0) = o.val.testBit 6 := by decide +kernel
 exact this ⟨o, ho⟩
noncomputable def aS (l : List Nat) : Nat := l.foldl (fun v o => v * 64 + o % 64) 0
theorem eO {l : List Nat} {k o : Nat} (h : l[k]? = some o) : aS (l.take (k + 1)) = aS (l.take k) * 64 + o % 64 := by
 unfold aS; rw [List.take_add_one, h]; simp
theorem fG : ∀ (l : List Nat) (v k : Nat), v < 64 ^ k → l.foldl (fun v o => v * 64 + o % 64) v < 64 ^ (k + l.length)
 | [], v, k, h => h
 | x :: l, v, k, h => by
   have hx := Nat.mod_lt x (show 64 > 0 by decide)
   have := fG l (v * 64 + x % 64) (k + 1) (by rw [Nat.pow_succ]; exact a91 h); rw [List.foldl_cons, List.length_cons, show k + (l.length + 1) = k + 1 + l.length from by exact a90]
   exact this
theorem segVal_lt (l : List Nat) : aS l < 64 ^ l.length := by
 have := fG l 0 0 (by decide); rw [Nat.zero_add] at this; exact this
section
variable {w : World}
theorem c_varint {bs : Array UInt8} {tb : Tok} {i : Nat} {seg : List Nat} (hseg : ∀ (j o : Nat), seg[j]? = some o → ∃ u, bs[i + j]? = some u ∧ u.toNat = o) (hmid : ∀ (j o : Nat), seg[j]? = some o → o.testBit 6 = decide (j + 1 < seg.length)) (hlen : seg.length ≤ 8) (hne : 0 < seg.length)
   {A : Around} {m : Mp} {s : Shared} {I : Addr} {Q E : VP} (hR : Rm A 1 4) (b : Bef w m s) (hI : At I (BIt bs tb i) s.heap) (hmI : m I = none)
   (h : ∀ t m' s', Aft [I] m s m' s' → At I (BIt bs tb (i + seg.length)) s'.heap → Q (.int (aS seg : Nat) t) s') :
   wpAny (model PG w) A (call (.ref 104) [.ref I]) Q E s := by
 have hl : LedOk m s [(I, BIt bs tb i)] := ⟨fun p hp => by rcases mSg hp with rfl; exact hI, fun p hp => by rcases mSg hp with rfl; exact hmI, by simp⟩
 refine dK (d := 0) (u := 1) (nw := [(I, BIt bs tb i)]) (ns := ["iterator", "b", "val"]) (ρ₀ := [⟨"iterator", none, some (.ref I)⟩, ⟨"b", none, none⟩, ⟨"val", none, none⟩]) hR b hl rfl rfl rfl rfl rfl rfl rfl rfl rfl rfl (by decide +kernel) (by rfl) (by decide +kernel) (by decide +kernel) rfl ?_; intro A env L c s' hE hR' hc B hL; generalize hγ : s.gens = γ0 at B; have hat : ∀ j, j < seg.length → ∃ o u, seg[j]? = some o ∧ bs[i + j]? = some u ∧ u.toNat = o ∧ o < 256 ∧ o.testBit 6 = decide (j + 1 < seg.length) := fun j hj => by
   refine x12 (hseg j seg[j] (ac hj)) fun u h1 h2 => ?_; ktf_call "qs"; exact ⟨seg[j], u, ac hj, h1, h2, by rw [← h2]; exact u.toNat_lt, hmid j _ (ac hj)⟩
 ktf_call "sts"; refine x25 (hat 0 hne) fun o0 u0 hs0 hb0 hu0 ho0 ht0 => ?_; refine b_next B .head hb0 ?_; clear B; intro t1 s B; rw [hu0] at *
 ktf_call "sts"; have e0 : Builtin.bitAnd (o0 : Int) 63 = ((aS (seg.take (0 + 1)) : Nat) : Int) := by
   rw [eO hs0, bitAnd_m6]; show _ = (((aS [] * 64 + o0 % 64 : Nat)) : Int)
   show _ = (((0 * 64 + o0 % 64 : Nat)) : Int)
   exact a89
 rw [e0] at B; refine wpAny_While ?_; refine codeAny_whileLoop (fun n s => ∃ k, k < seg.length ∧ n = seg.length - k ∧ ∃ o tb' tv, seg[k]? = some o ∧ Bd w c γ0 m env [L] [⟨"iterator", none, some (.ref I)⟩, ⟨"b", none, some (.int (o : Nat) tb')⟩, ⟨"val", none, some (.int (aS (seg.take (k + 1)) : Nat) tv)⟩] [(I, BIt bs tb (i + (k + 1)))] s) ?_ seg.length ⟨0, hne, rfl, o0, _, _, hs0, B⟩; clear B; rintro n s ⟨k, hk, rfl, o, tb', tv, hsk, B⟩; refine x25 (hat k hk) fun o' u' h1 h2 h3 h4 h5 => ?_; rw [hsk] at h1; cases h1
 have hlt := segVal_lt (seg.take (k + 1)); have hle : (seg.take (k + 1)).length ≤ 8 := by rw [List.length_take]; exact a88 hlen
 have hlt2 : aS (seg.take (k + 1)) < 64 ^ 8 := Nat.lt_of_lt_of_le hlt (Nat.pow_le_pow_right (by decide) hle); have hlt3 : k + 1 < seg.length → aS (seg.take (k + 1)) < 64 ^ 7 := fun h => Nat.lt_of_lt_of_le hlt (Nat.pow_le_pow_right (by decide) (by rw [List.length_take]; exact a87 hlen h)); ktf_call "sts"; rw [and_more o h4, h5]; by_cases hlast : k + 1 < seg.length
 · refine bZ (by simpa using hlast) ?_; have hlt4 := hlt3 hlast; ktf_call "sts"; refine x25 (hat (k + 1) hlast) fun o2 u2 g1 g2 g3 g4 g5 => ?_; refine b_next B .head g2 ?_; clear B; intro t1 s B; rw [g3] at *
   ktf_call "sts"; have e1 : Builtin.bitOr ((aS (seg.take (k + 1)) : Nat) * 2 ^ Int.toNat 6) (Builtin.bitAnd (o2 : Int) 63) = ((aS (seg.take (k + 1 + 1)) : Nat) : Int) := by
     rw [eO g1, bitAnd_m6]; have e2 : ((aS (seg.take (k + 1)) : Nat) : Int) * 2 ^ Int.toNat 6 = ((aS (seg.take (k + 1)) * 64 : Nat) : Int) := by
       rw [show (Int.toNat 6) = 6 from rfl]; (first | lia | omega)
     have e3 : (o2 : Int) % 64 = ((o2 % 64 : Nat) : Int) := a86
     rw [e2, e3]; ktf_call "qs"; exact or_digit _ _ (Nat.mod_lt _ (by decide))
   rw [e1] at B; ktf_call "qs"; exact ⟨seg.length - (k + 1), by exact a85 hlast, k + 1, hlast, rfl, o2, _, _, g1, B⟩
 refine aY (by simpa using hlast) ?_; ktf_call "sts"; have hk1 : k + 1 = seg.length := a84 hk hlast
 rw [hk1] at B ⊢; rw [List.take_length] at B ⊢; have f := B.done hc hl (by simp); ktf_call "qs"; exact h _ _ _ f (B.at (.head _))
theorem gO {bs : Array UInt8} {tb : Tok} {i : Nat} (hx : bs[i]? = none) {A : Around} {m : Mp} {s : Shared} {I : Addr} {X : List Addr} {outer : List Env} {Q E : VP} (hR : Rm A 1 4) (hfr : A.frames = some outer) (hF : s.heap.FunFrames (hideAll s.heap X) outer) (hIX : I ∈ X)
   (b : Bef w m s) (hI : At I (BIt bs tb i) s.heap) (hmI : m I = none)
   (h : ∀ e a0 s', Rz s X outer (.type "StopIteration") e a0 s' → E (.ref e) s') :
   wpAny (model PG w) A (call (.ref 104) [.ref I]) Q E s := by
 have hl : LedOk m s [(I, BIt bs tb i)] := ⟨fun p hp => by rcases mSg hp with rfl; exact hI, fun p hp => by rcases mSg hp with rfl; exact hmI, by simp⟩
 refine enterF (d := 0) (u := 1) (nw := [(I, BIt bs tb i)]) (ns := ["iterator", "b", "val"]) (ρ₀ := [⟨"iterator", none, some (.ref I)⟩, ⟨"b", none, none⟩, ⟨"val", none, none⟩]) hR b hl rfl rfl rfl rfl rfl rfl rfl rfl rfl rfl (by decide +kernel) (by rfl) (by decide +kernel) (by decide +kernel) rfl ?_; intro A' env L c s' hA hfm hE hR' hc B hL; ktf_call "sts"; refine b_stop hR'.handled (B.at (.head _)) hx fun h' e a0 hext hnew hob => ?_; refine x25 hob fun oe vs he hcl hd hv0 hv1 => ?_; subst hA; have keep : ∀ a o, a ≠ I → s.heap.get? a = some o → h'.get? a = some o := fun a o ha hg => by
   have h1 : c.old a = some o := by
     rw [hc]; ktf_call "qs"; exact Mp.get_of hg (by simpa using ha)
   ktf_call "qs"; exact hext a o ha (B.old a o h1)
 have eI : ∀ o, s.heap.get? I = some o → o.data = .fields #[.bytes bs tb, .int i 0] := fun o ho => by
   refine x13 hI fun o' h1 kq h2 => ?_; rw [ho] at h1; cases h1; exact h2
 have hLn : s.heap.get? L = none := by
   cases q : s.heap.get? L with
   | none => rfl
   | some o => exact absurd (hL L o q) (Nat.lt_irrefl _)
 have hLI : L ≠ I := fun q => by
   refine x12 hI fun o' h1 kq => ?_; rw [← q, hLn] at h1; cases h1
 have stay : (hideAll s.heap X).StaysIn h' := fun a o hg => keep a o (fun q => by rw [q, hideAll_none X hIX] at hg; cases hg) (of_hideAll _ hg)
 have upd : s.heap.UpToSlots h' := fun a o ho hn => ⟨o.slots, keep a o (fun q => by subst q; exact hn _ (eI o ho)) ho⟩; have hsn : s.heap.get? e = none := by
   cases q : s.heap.get? e with
   | none => rfl
   | some o =>
     by_cases hq : e = I
     · subst hq; refine x12 (B.at (.head _)) fun o' h1 kq => ?_; rw [hnew] at h1; cases h1
     have h1 : c.old e = some o := by
       rw [hc]; ktf_call "qs"; exact Mp.get_of q (by simpa using hq)
     have := B.old e o h1; rw [hnew] at this; cases this
 have hbe : (hideAll s.heap X).get? e = none := by
   cases q : (hideAll s.heap X).get? e with
   | none => rfl
   | some o => have := of_hideAll _ q; rw [hsn] at this; cases this
 have hfl : h'.FunFrames (hideAll s.heap X) (env :: outer) := by
   ktf_call "qs"; refine ⟨by rw [B.vars.kind]; decide, ?_, hF.of_keeps fun a o ho hn => ⟨o, keep a o (fun q => by subst q; exact hn _ (eI o ho)) ho, rfl⟩⟩; obtain ⟨mp, ⟨o, es, ep, ho, hdd, _⟩, _⟩ := B.vars.ns; rw [hE.locals] at ho; ktf_call "qs"; refine ⟨L, o, hfm, ?_, hext L o hLI ho, fun vs q => by rw [hdd] at q; cases q⟩
   cases q : (hideAll s.heap X).get? L with
   | none => rfl
   | some o => have := of_hideAll _ q; rw [hLn] at this; cases this
 refine wpAny_leaving_firstW (base := hideAll s.heap X) (outer := outer) (Around.frames_deeper hfr) hfl hfm he stay hbe hd hv1 hv0 fun h2 hleft => ?_; obtain ⟨k1, ⟨_, _, k2⟩, k3, k4⟩ := hleft; rw [hcl] at k3; ktf_call "qs"; exact h e a0 _ ⟨⟨k1, hbe, k2, k3⟩, upd.trans k4, B.gens, by rw [show s.os = c.os from by rw [hc]]; exact B.os⟩
end
end
section
noncomputable def SegOk (seg : List Nat) : Prop := (∀ (j o : Nat), seg[j]? = some o → o.testBit 6 = decide (j + 1 < seg.length) ∧ o < 256) ∧ seg.length ≤ 8 ∧ 0 < seg.length
theorem flat_at {α : Type} {segs : List (List α)} {i j : Nat} {seg : List α} {o : α} (h : segs[i]? = some seg) (hj : seg[j]? = some o) : segs.flatten[(segs.take i).flatten.length + j]? = some o := by
 have e : segs = segs.take i ++ seg :: segs.drop (i + 1) := by
   have hi := (List.getElem?_eq_some_iff.mp h).1; have e : segs[i] = seg := (List.getElem?_eq_some_iff.mp h).2; conv => lhs; rw [← List.take_append_drop i segs, List.drop_eq_getElem_cons hi, e]
 have e2 : segs.flatten = (segs.take i).flatten ++ (seg ++ (segs.drop (i + 1)).flatten) := by
   conv => lhs; rw [e]
   rw [List.flatten_append, List.flatten_cons]
 have hl := (List.getElem?_eq_some_iff.mp hj).1; rw [e2, List.getElem?_append_right (a82), Nat.add_sub_cancel_left, List.getElem?_append_left hl]; exact hj
theorem take_flat {α : Type} {segs : List (List α)} {i : Nat} {seg : List α} (h : segs[i]? = some seg) : (segs.take (i + 1)).flatten.length = (segs.take i).flatten.length + seg.length := by
 rw [List.take_add_one, h]; simp
theorem segs_len {segs : List (List Nat)} (h : ∀ seg ∈ segs, SegOk seg) : segs.length ≤ segs.flatten.length := by
 induction segs with
 | nil => exact Nat.le_refl _
 | cons x r ih =>
   have h1 := ih fun s hs => h s (.tail _ hs); have h2 := (h x (.head _)).2.2; rw [List.flatten_cons, List.length_append, List.length_cons]; exact a99 h1 h2
theorem bytes_at {l : List Nat} {bs : Array UInt8} (hbs : byteArr (l.map Int.ofNat) = bs) {k o : Nat} (hk : l[k]? = some o) (ho : o < 256) : ∃ u, bs[k]? = some u ∧ u.toNat = o := by
 refine ⟨o.toUInt8, ?_, by simp; exact ho⟩; rw [← hbs]; unfold byteArr; rw [List.getElem?_toArray, List.getElem?_map, List.getElem?_map, hk]; rfl
theorem bytes_end {l : List Nat} {bs : Array UInt8} (hbs : byteArr (l.map Int.ofNat) = bs) : bs[l.length]? = none := by
 rw [← hbs]; unfold byteArr; rw [List.getElem?_toArray]; exact List.getElem?_eq_none (by rw [am, am]; exact Nat.le_refl _)
section
variable {w : World}
theorem num_mk {c : Cx} {γ : Array GenState} {m : Mp} {env : Env} {L I td LW : Addr} {ρ : List VE} {s s1 : Shared} {oL oW oW' : Obj} {vs : List Value} {P : Obj → Prop} (hE : env.locals = L) (B : Bd w c γ m env [L] ρ [(td, au vs), (I, P), (LW, Upto oW)] s) (hg : s1.gens = s.gens) (ho : s1.os = s.os)
   (hoL : s.heap.get? L = some oL) (hdL : ∀ vs, oL.data ≠ .fields vs) (hoW : s.heap.get? LW = some oW') (hW : ∃ sl, oW' = { oW with slots := sl }) (hdW : ∀ vs, oW'.data ≠ .fields vs) {h' : Heap} (hst : (hideAll s.heap [I, L, LW]).StaysIn h') (hup : s.heap.UpToSlots h') :
   Bd w c s1.gens m env [L] ρ [(td, au vs), (LW, Upto oW)] ⟨h', s1.gens, s1.drawn, s1.toks, s1.os⟩ := by
 have keep : ∀ a o, s.heap.get? a = some o → a ∉ [I, L, LW] → h'.get? a = some o := fun a o h1 h2 => hst a o (hideAll_get _ h1 h2); have hnd := B.nodup; simp only [ai, List.map_nil, List.cons_append, List.nil_append, List.nodup_cons, List.mem_cons, List.not_mem_nil, or_false, not_or] at hnd; refine B.aftX (X := [I, L, LW]) (nw' := [(td, au vs), (LW, Upto oW)]) (keep_aft (s' := ⟨h', s1.gens, s1.drawn, s1.toks, s1.os⟩) B.bef keep hg ho (al2 (P := fun b => m b = none) (B.out _ (by simp)).1 (al2 (B.out _ (by simp)).1 (al1 (B.out _ (by simp)).1)))) (al2 (P := fun a => a = env.locals ∨ a ∈ ([(td, au vs), (I, P), (LW, Upto oW)] : Led).map (·.1)) (.inr (by simp)) (al2 (.inl hE.symm) (al1 (.inr (by simp))))) (fun kq => ?_) (al2 (P := fun p : Addr × (Obj → Prop) => p.1 ∈ ([(td, au vs), (I, P), (LW, Upto oW)] : Led).map (·.1)) (by simp) (al1 (by simp))) ?_ (al2 (P := fun p : Addr × (Obj → Prop) => ∃ o, h'.get? p.1 = some o ∧ p.2 o) ?_ (al1 ?_))
 · rw [hE]; obtain ⟨sl, h1⟩ := hup L oL hoL hdL; exact ⟨oL, _, hoL, h1, rfl⟩
 · simp only [ai, List.map_nil, List.nodup_cons, List.mem_cons, List.not_mem_nil, or_false]; exact ⟨hnd.2.1.2, fun h => h, .nil⟩
 · obtain ⟨o, ho, hP⟩ := B.at (P := au vs) (a := td) (by simp); refine ⟨o, keep td o ho ?_, hP⟩; simp only [List.mem_cons, List.not_mem_nil, or_false, not_or]; exact ⟨hnd.2.1.1, fun q => hnd.1.1 q.symm, hnd.2.1.2⟩
 obtain ⟨sl, h1⟩ := hup LW oW' hoW hdW; obtain ⟨s2, rfl⟩ := hW; exact ⟨_, h1, sl, rfl⟩
theorem c_numbers {a : Addr} {segs : List (List Nat)} (hok : ∀ seg ∈ segs, SegOk seg) (hlen : segs.flatten.length ≤ 1000)
   {A : Around} {m : Mp} {s : Shared} {envW : Env} {LW : Addr} {oW : Obj} {Q E : VP} (hR : Rm A 2 7) (hfr : A.frames = some [envW]) (hWk : envW.scope.kind = .function) (hWf : envW.frame = some LW) (hWo : s.heap.get? LW = some oW) (hWd : ∀ vs, oW.data ≠ .fields vs) (hWm : m LW = none)
   (b : Bef w m s) (hk : Kn m (LI a (segs.flatten.map Int.ofNat)))
   (h : ∀ r m' s', Aft [LW] m s m' s' → At LW (Upto oW) s'.heap → Kn m' (LI r (segs.map fun seg => Int.ofNat (aS seg))) → Q (.ref r) s') :
   wpAny (model PG w) A (call (.ref 278) [.ref a]) Q E s := by
 have hl : LedOk m s [(LW, Upto oW)] := ⟨fun p hp => by rcases mSg hp with rfl; exact ⟨oW, hWo, oW.slots, rfl⟩, fun p hp => by rcases mSg hp with rfl; exact hWm, by simp⟩
 refine enterF (d := 1) (u := 4) (nw := [(LW, Upto oW)]) (ns := ["octets", "reader", "told", "octet"]) (ρ₀ := [⟨"octets", none, some (.ref a)⟩, ⟨"reader", none, none⟩, ⟨"told", none, none⟩, ⟨"octet", none, none⟩]) hR b hl rfl rfl rfl rfl rfl rfl rfl rfl rfl rfl (by decide +kernel) (by rfl) (by decide +kernel) (by decide +kernel) rfl ?_; intro A' env L c s' hA hfm hE hR' hc B hL; refine an (E := NoE) ?_ (fun kq kq x => x) (fun kq kq x => x.elim); have hfr' : A'.frames = some [env, envW] := by rw [hA]; exact Around.frames_deeper hfr
 clear hA; ktf_call "sts"; with_reducible refine cm B.vars.kind (hE.kind ?_) (hE.kind ?_) ?_ ?_ ?_ ?_ ?_ ?_
 iterate 3 (· rfl)
 · decide +kernel
 iterate 3 (· rfl)
 ktf_call "sts"; refine b_make B hR'.handled (B.kn hk) ?_ ?_ ?_
 · intro n hn; obtain ⟨o, ho, rfl⟩ := mMa hn; refine x12 (List.mem_flatten.mp ho) fun seg hs ho => ?_; obtain ⟨j, hj, e⟩ := List.mem_iff_getElem.mp ho; have := ((hok seg hs).1 j o (by rw [ac hj, e])).2; constructor
   · ktf_call "qs"; exact Int.natCast_nonneg _
   show ((o : Nat) : Int) < 256
   exact a98 this
 · rw [am]; exact szl (a97 hlen)
 clear B; intro tb s B; generalize hbs : byteArr (segs.flatten.map Int.ofNat) = bs at *
 ktf_call "sts"; refine b_iter B ?_; clear B; intro I s B; ktf_call "sts"; ktf_call "nL"; intro td s B; ktf_call "sts"; ktf_call "nt"; intro tp m1 s hm1 hk1 B; refine fX B hR'.handled (B.kn hk1).tup rfl ?_; clear B; intro s B; refine al (bindName_ ?_); ktf_call "st"; refine al (bindName_ ?_); ktf_call "st"; refine assignInOrder_nil ?_; ktf_call "st"; ktf_call "st"; refine wpAny_Try_except ?_; ktf_call "sts"; ktf_call "nl"; intro z1 m2 s hm2 hk2 B; refine x12 (B.kn (hk.up (hm1.trans hm2))) fun vs0 hls0 hia => ?_; have hvl0 := aF hia; rw [am] at hvl0; refine c8 B hls0 (B.kn hk2) (by rw [hvl0, sizeLine_eq]; show segs.flatten.length + 1 ≤ _; exact a96 hlen) ?_; clear B; intro z2 m3 s hm3 hk3 B
 apply aC B hR'.handled (B.ko hk3); intro J s B T; have hn : (vs0 ++ [Value.int 0 tk]).length = segs.flatten.length + 1 := by rw [List.length_append, hvl0]; rfl
 have hsl := segs_len hok
 refine codeAny_mono (for_goE B T (fun i m' ρ nw => m3.le m' ∧ i ≤ segs.length ∧ ∃ (vs : List Value) (v1 : Option Value), ρ = [⟨"octets", none, some (.ref a)⟩, ⟨"reader", none, some (.ref I)⟩, ⟨"told", none, some (.ref td)⟩, ⟨"octet", none, v1⟩] ∧
     nw = [(td, au vs), (I, BIt bs tb (segs.take i).flatten.length), (LW, Upto oW)] ∧ IntsAre vs ((segs.take i).map fun seg => Int.ofNat (aS seg))) ?_ ?_ ?_) (fun kq kq x => x)
 · ktf_call "qs"; exact ⟨.rfl, Nat.zero_le _, [], none, rfl, rfl, .nil⟩
 · clear B T; rintro i v c1 γ1 m4 ρ1 nw1 s hi ⟨hm4, his, vs, v1, rfl, rfl, hvs⟩ hm hv B hback; refine ag ?_; ktf_call "sts"; have hvl := aF hvs; rw [am, List.length_take] at hvl; by_cases hlt : i < segs.length
   · have hsg : segs[i]? = some segs[i] := ac hlt; have hso := hok segs[i] (List.getElem_mem hlt); generalize segs[i] = seg at hsg hso; refine x03 hso fun hs1 hs2 hs3 => ?_; refine c_varint (i := (segs.take i).flatten.length) (fun j o hj => bytes_at hbs (flat_at hsg hj) (hs1 j o hj).2) (fun j o hj => (hs1 j o hj).1) hs2 hs3 (hR'.less (a94) (a93)) B.bef (B.at (.tail _ (.head _))) (B.out I (by simp)).1 ?_; intro t5 m5 s5 f5 hI5; replace B := B.aft1 (.tail (.head)) f5 hI5; ktf_call "sts"; refine bH B .head (by rw [hvl]; exact szl (a95 hlen hsl)) ?_; clear B; intro s B; ktf_call "sts"; ktf_call "qs"; refine ⟨_, m5, _, _, ⟨hm4.trans f5.le, hlt, _, _, rfl, by rw [take_flat hsg], ?_⟩, f5.le, B⟩; rw [List.take_add_one, hsg, List.map_append]; ktf_call "qs"; exact gB hvs (.cons _ _ .nil)
   have hie : i = segs.length := a13 his hlt
   rw [hie, List.take_length] at B hvs; have B' := hback _ _ _ _ _ B; have hLW : (LW : Addr) ∉ ([L] : List Addr) := fun q => by
     have := B.nodup; rw [List.nodup_append] at this; ktf_call "qs"; exact this.2.2 L (.head _) LW (by simp) (mSg q).symm
   obtain ⟨mp, ⟨oL, esL, epL, hoL, hdL, _⟩, _⟩ := B.vars.ns; rw [hE.locals] at hoL; obtain ⟨oW', hoW', slW, hsW⟩ := B.at (P := Upto oW) (a := LW) (by simp); have hdW : oW'.data = oW.data := by rw [hsW]
   refine gO (X := [I, L, LW]) (outer := [env, envW]) (bytes_end hbs) (hR'.less (a94) (a93)) hfr' ?_ (.head _) B.bef (B.at (.tail _ (.head _))) (B.out I (by simp)).1 ?_
   · ktf_call "qs"; exact ⟨by rw [B.vars.kind]; decide, ⟨L, oL, hfm, hideAll_none _ (by simp), hoL, fun vs q => by rw [hdL] at q; cases q⟩, by rw [hWk]; decide, ⟨LW, oW', hWf, hideAll_none _ (by simp), hoW', fun vs q => hWd vs (hdW ▸ q)⟩, trivial⟩
   intro e a0 s1 rz; have mk := fun h' => num_mk (h' := h') hE.locals B' rz.gens rz.os hoL (fun vs q => by rw [hdL] at q; cases q) hoW' ⟨slW, hsW⟩ (fun vs q => hWd vs (hdW ▸ q))
   refine PassesOwn.looking _ _ ?_; refine wpAny_looks_onW hfr' hfm rz.fly fun h4 hheld4 hsm4 => ?_; refine wpAny_landsW hheld4 fun h5 hfl5 hsm5 => ?_; have B5 := mk _ hfl5.1 ((rz.up.trans hsm4).trans hsm5); refine x12 hfl5.there fun ob hob hobc => ?_; refine wpAny_handleBy_builtin (X := "StopIteration") (T := "StopIteration") (b := true) stop_exc stop_tup stop_self ?_; refine r_blt B5 (hE.kind (by rfl)) rfl rfl (by decide) (by decide) ?_; ktf_call "qs"; refine ⟨rfl, ⟨ob, hob, hobc⟩, ?_⟩; rw [if_pos rfl]; refine lands_againW hfl5 fun h6 hfl6 hsm6 => ?_; have B6 := mk _ hfl6.1 (((rz.up.trans hsm4).trans hsm5).trans hsm6); clear B5 mk B' hheld4 hfl5 hfl6 hob rz; clear B; refine x13 B6.freeze fun m7 hm7 hk7 B => ?_; simp only at B ⊢; generalize (⟨h6, s1.gens, s1.drawn, s1.toks, s1.os⟩ : Shared) = s at B ⊢; ktf_call "sts"; have f := B.done hc hl (by simp); ktf_call "qs"; clear hQc; clear hQc; ktf_call "qs"; exact h td m7 s f (B.at (.head _)) fun hp ok => ⟨vs, hk7 hp ok, hvs⟩
 clear B T; rintro γ1 m4 ρ1 nw1 s ⟨hm4, his, _⟩ hm B; rw [hn] at his; (first | lia | omega)
end
end
section
noncomputable def octs : Nat → Int → Int → List Int
 | 0, n, f => [n.fmod 64 + f]
 | k + 1, n, f => (if 63 < n then octs k (n.fdiv 64) 64 else []) ++ [n.fmod 64 + f]
theorem octs_le : ∀ (k : Nat) (n f : Int), (octs k n f).length ≤ k + 1
 | 0, _, _ => Nat.le_refl _
 | k + 1, n, f => by
   unfold octs; have := octs_le k (n.fdiv 64) 64; split <;> simp <;> exact this
section
variable {w : World}
theorem c_octets (k : Nat) : ∀ {A : Around} {m : Mp} {s : Shared} {n f : Int} {t u : Tok} {Q E : VP}, k ≤ 20 → 0 ≤ n → n < 64 ^ (k + 1) → Rm A (k + 1) (4 * k + 4) → Bef w m s →
   (∀ a m' s', Aft [] m s m' s' → Kn m' (LI a (octs k n f)) → Q (.ref a) s') →
   wpAny (model PG w) A (call (.ref 271) [.int n t, .int f u]) Q E s := by
 induction k with
 | zero =>
   intro A m s n f t u Q E hk20 hn0 hn hR b h; refine dK (d := 0) (u := 1) (nw := []) (ns := ["number", "further"]) (ρ₀ := [⟨"number", none, some (.int n t)⟩, ⟨"further", none, some (.int f u)⟩]) hR b .nil rfl rfl rfl rfl rfl rfl rfl rfl rfl rfl (by decide +kernel) (by rfl) (by decide +kernel) (by decide +kernel) rfl ?_; intro A env L c s' hE hR' hc B hL; ktf_call "opq"; ktf_call "sts"; refine aY (by simp; (first | lia | omega)) ?_
   ktf_call "sts"; ktf_call "nl"; intro a1 m1 s hm1 hk1 B; ktf_call "sts"; ktf_call "nl"; intro a2 m2 s hm2 hk2 B; refine c8 B ((B.kn (hk1.up hm2))) (B.kn hk2) (by ktf_call "fit") ?_; clear B; intro a3 m3 s hm3 hk3 B; ktf_call "qs"; exact h _ m3 _ (B.done hc .nil av) (fun h o => ⟨_, hk3 h o, .cons _ _ .nil⟩)
 | succ k ih =>
   intro A m s n f t u Q E hk20 hn0 hn hR b h; refine dK (d := k + 1) (u := 4 * k + 5) (nw := []) (ns := ["number", "further"]) (ρ₀ := [⟨"number", none, some (.int n t)⟩, ⟨"further", none, some (.int f u)⟩]) hR b .nil rfl rfl rfl rfl rfl rfl rfl rfl rfl rfl (by decide +kernel) (by rfl) (by decide +kernel) (by decide +kernel) rfl ?_; intro A env L c s' hE hR' hc B hL; ktf_call "opq"; ktf_call "sts"; refine br (fun hb => ?_) (fun hb => ?_)
   · ktf_call "sts"; refine ih (a169 hk20) (by rw [Int.fdiv_eq_ediv_of_nonneg _ (by decide)]; exact a168 hn0) (by rw [Int.fdiv_eq_ediv_of_nonneg _ (by decide)]; have e : (64 : Int) ^ (k + 1 + 1) = 64 ^ (k + 1) * 64 := Int.pow_succ ..; (first | lia | omega)) (hR'.less (a167) (a166)) B.bef ?_
     intro a1 m1 s1 f1 hk1; replace B := B.aft f1; ktf_call "sts"; ktf_call "nl"; intro a2 m2 s hm2 hk2 B; refine x12 (B.kn (hk1.up hm2)) fun vs h1 h2 => ?_; refine c8 B h1 (B.kn hk2) (by have := aF h2; have := octs_le k (n.fdiv 64) 64; simp [sizeLine_eq]; exact a165 hk20 (by assumption) this) ?_; clear B; intro a3 m3 s hm3 hk3 B; ktf_call "qs"; refine h _ m3 _ (B.done hc .nil av) (fun h o => ⟨_, hk3 h o, ?_⟩); unfold octs; rw [if_pos (by simpa using hb)]; ktf_call "qs"; exact gB h2 (.cons _ _ .nil)
   ktf_call "sts"; ktf_call "nl"; intro a1 m1 s hm1 hk1 B; ktf_call "sts"; ktf_call "nl"; intro a2 m2 s hm2 hk2 B; refine c8 B ((B.kn (hk1.up hm2))) (B.kn hk2) (by ktf_call "fit") ?_; clear B; intro a3 m3 s hm3 hk3 B; ktf_call "qs"; refine h _ m3 _ (B.done hc .nil av) (fun h o => ⟨_, hk3 h o, ?_⟩); unfold octs; rw [if_neg (by simpa using hb)]; ktf_call "qs"; exact .cons _ _ .nil
end
end
section
noncomputable def dN : Nat → Nat → Nat → List Nat
 | 0, n, f => [n % 64 + f]
 | k + 1, n, f => (if 63 < n then dN k (n / 64) 64 else []) ++ [n % 64 + f]
theorem jg : ∀ (k n f : Nat), octs k n f = (dN k n f).map Int.ofNat
 | 0, n, f => by
   have : ((n : Nat) : Int).fmod 64 = ((n % 64 : Nat) : Int) := by rw [Int.fmod_eq_emod_of_nonneg _ (by decide)]; rfl
   simp only [octs, dN, this, ai, List.map_nil]; rfl
 | k + 1, n, f => by
   have h1 : ((n : Nat) : Int).fmod 64 = ((n % 64 : Nat) : Int) := by rw [Int.fmod_eq_emod_of_nonneg _ (by decide)]; rfl
   have h2 : ((n : Nat) : Int).fdiv 64 = ((n / 64 : Nat) : Int) := by rw [Int.fdiv_eq_ediv_of_nonneg _ (by decide)]; rfl
   have ih := jg k (n / 64) 64; have e64 : ((64 : Nat) : Int) = 64 := rfl; rw [e64] at ih; unfold octs dN; rw [h1, h2, ih, List.map_append]; congr 1
   by_cases q : 63 < n
   · rw [if_pos q, if_pos (a262 q)]
   rw [if_neg q, if_neg (a357 q)]; rfl
noncomputable def aX (p : Nat) : List Nat → List Nat
 | [] => []
 | x :: r => (x + 128 * (p % 2)) :: aX (p + 1) r
theorem bP : ∀ (p : Nat) (l : List Nat), (aX p l).length = l.length
 | _, [] => rfl
 | p, x :: r => by simp [aX, bP (p + 1) r]
theorem fM : ∀ (p : Nat) (a b : List Nat), aX p (a ++ b) = aX p a ++ aX (p + a.length) b
 | p, [], b => by simp [aX]
 | p, x :: r, b => by
   have := fM (p + 1) r b; simp only [List.cons_append, aX, this, List.length_cons]; rw [show p + 1 + r.length = p + (r.length + 1) from by exact a342]
theorem dZ : ∀ (p : Nat) (l : List Nat) (j : Nat), (aX p l)[j]? = (l[j]?).map fun x => x + 128 * ((p + j) % 2)
 | p, [], j => by simp [aX]
 | p, x :: r, 0 => by simp [aX]
 | p, x :: r, j + 1 => by
   simp only [aX, List.getElem?_cons_succ]; rw [dZ (p + 1) r j, show p + 1 + j = p + (j + 1) from by exact a342]
theorem jU (p : Nat) (l : List Nat) : aS (aX p l) = aS l := by
 have : ∀ (l : List Nat) (p v : Nat), (aX p l).foldl (fun v o => v * 64 + o % 64) v = l.foldl (fun v o => v * 64 + o % 64) v := by
   intro l; induction l with
   | nil => intro p v; rfl
   | cons x r ih =>
     intro p v; simp only [aX, List.foldl_cons]; rw [ih, show (x + 128 * (p % 2)) % 64 = x % 64 from by exact a356]
 exact this l p 0
theorem jQ (l : List Nat) (o : Nat) : aS (l ++ [o]) = aS l * 64 + o % 64 := by
 unfold aS; simp
theorem jh : ∀ (k n f : Nat), n < 64 ^ (k + 1) → f % 64 = 0 → aS (dN k n f) = n
 | 0, n, f, hn, hf => by
   simp only [dN, aS, List.foldl_cons, List.foldl_nil]; (first | lia | omega)
 | k + 1, n, f, hn, hf => by
   unfold dN; rw [jQ]; have e : 64 ^ (k + 1 + 1) = 64 ^ (k + 1) * 64 := Nat.pow_succ ..; by_cases q : 63 < n
   · rw [if_pos q, jh k (n / 64) 64 (by (first | lia | omega)) rfl]; exact a355 hf
   rw [if_neg q]; show 0 * 64 + _ = n; exact a354 hf q
theorem eo : ∀ (k n f : Nat), 0 < (dN k n f).length ∧ (dN k n f).length ≤ k + 1
 | 0, n, f => by simp [dN]
 | k + 1, n, f => by
   have := eo k (n / 64) 64; unfold dN; split <;> simp <;> exact this.2
theorem octN_in : ∀ (k n o : Nat), o ∈ dN k n 64 → o / 64 = 1
 | 0, n, o, h => by
   simp only [dN, List.mem_singleton] at h; exact a353 h
 | k + 1, n, o, h => by
   unfold dN at h; rcases mAp h with h | h
   · split at h
     · exact octN_in k _ _ h
     cases h
   rw [List.mem_singleton] at h; exact a353 h
theorem jR : ∀ (k n : Nat), ∃ pre, dN k n 0 = pre ++ [n % 64] ∧ (∀ o ∈ pre, o / 64 = 1) ∧ pre.length ≤ k
 | 0, n => ⟨[], rfl, (by simp), Nat.le_refl _⟩
 | k + 1, n => by
   refine ⟨if 63 < n then dN k (n / 64) 64 else [], rfl, fun o h => ?_, ?_⟩
   · split at h
     · exact octN_in k _ _ h
     cases h
   have := eo k (n / 64) 64; split <;> simp <;> exact this.2
theorem bit6 (x p : Nat) : (x + 128 * (p % 2)).testBit 6 = decide (x / 64 % 2 = 1) := by
 rw [Nat.testBit_eq_decide_div_mod_eq]; rw [show (x + 128 * (p % 2)) / 2 ^ 6 % 2 = x / 64 % 2 from by (first | lia | omega)]
theorem seg_ok (k n p : Nat) (hk : k ≤ 7) : SegOk (aX p (dN k n 0)) := by
 refine x13 (jR k n) fun pre e h1 h2 => ?_; refine ⟨fun j o h => ?_, ?_, ?_⟩
 · rw [dZ, e] at h; rw [bP, e, List.length_append]; obtain ⟨x, hx, rfl⟩ := Option.map_eq_some_iff.mp h; rw [bit6]; by_cases q : j < pre.length
   · rw [List.getElem?_append_left q] at hx; have h3 := h1 x (List.mem_of_getElem? hx); refine ⟨?_, by exact a352 h3⟩; rw [decide_eq_true (a351 h3), decide_eq_true (by show j + 1 < _ + 1; exact a350 q)]
   rw [List.getElem?_append_right (a349 q)] at hx; match hj : j - pre.length with
   | 0 =>
     rw [hj] at hx; simp only [List.getElem?_cons_zero, Option.some.injEq] at hx; refine ⟨?_, by exact a348 hx⟩; rw [decide_eq_false (a347 hx), decide_eq_false (by show ¬ (j + 1 < _ + 1); exact a346 q)]
   | z + 1 => rw [hj] at hx; simp at hx
 · rw [bP, e, List.length_append]; show _ + 1 ≤ 8; exact a345 hk h2
 rw [bP, e, List.length_append]; show 0 < _ + 1; exact a344
theorem seg_val (k n p : Nat) (hn : n < 64 ^ (k + 1)) : aS (aX p (dN k n 0)) = n := by
 rw [jU]; exact jh k n 0 hn rfl
noncomputable def d9 (k : Nat) : Nat → List Nat → List (List Nat)
 | _, [] => []
 | p, n :: r => aX p (dN k n 0) :: d9 k (p + (dN k n 0).length) r
theorem cZ (k : Nat) : ∀ (p : Nat) (l : List Nat), (d9 k p l).flatten = aX p (l.flatMap fun n => dN k n 0)
 | _, [] => rfl
 | p, n :: r => by
   simp only [d9, List.flatten_cons, List.flatMap_cons, fM, cZ k]
theorem gX (k : Nat) (hk : k ≤ 7) : ∀ (p : Nat) (l : List Nat), ∀ seg ∈ d9 k p l, SegOk seg
 | _, [], _, h => nomatch h
 | p, n :: r, seg, h => by
   rcases mCo h with rfl | h
   · exact seg_ok k n p hk
   exact gX k hk _ r seg h
theorem fF (k : Nat) : ∀ (p : Nat) (l : List Nat), (∀ n ∈ l, n < 64 ^ (k + 1)) → (d9 k p l).map aS = l
 | _, [], _ => rfl
 | p, n :: r, h => by
   simp only [d9, ai, seg_val k n p (h n (.head _)), fF k _ r fun x hx => h x (.tail _ hx)]
theorem gg (k : Nat) : ∀ (l : List Nat), (l.flatMap fun n => dN k n 0).length ≤ (k + 1) * l.length
 | [] => Nat.zero_le _
 | n :: r => by
   rw [List.flatMap_cons, List.length_append, List.length_cons]; have h1 := (eo k n 0).2; have h2 := gg k r; rw [Nat.mul_succ]; exact a343 h1 h2
end
section
section
variable {w : World} {c : Cx} {γ : Array GenState} {m : Mp} {env : Env} {s : Shared} {A : Around} {E : VP} {Q : Flow → Shared → Prop} {L : Addr} {own : List Addr} {ρ : List VE}
theorem law_2 (W : LawE A env L) (htk : 1 ≤ s.toks) {f i o g d : Nat} {words due : Addr} {tf : Tok} (hf : f < 24) (hi : i < 12) (ho : o < 720) (hg : g < 120) (hd : d < 46656) (hws : Kn m (LS words (aZ f))) (hdue : Kn m (LI due [(o : Int), (g : Int), ((ao i <<< f : Nat) : Int), (d : Int)]))
   (B : Bd w c γ m env own ρ [] s) (r_due : (⟨"due", none, some (.ref due)⟩ : VE) ∈ ρ) (r_first : (⟨"first", some (L + 1), some (.int (f : Nat) tf)⟩ : VE) ∈ ρ) (r_octets : Hn (aa "octets") none ρ) (r_numbers : Hn (aa "numbers") none ρ)
   (h : ∀ (oc nm : Addr) ρ' γ m' s', m.le m' → 1 ≤ s'.toks → Kn m' (LI nm [(o : Int), (g : Int), ((ao i <<< f : Nat) : Int), (d : Int)]) →
     Ow ["octets", "numbers"] ρ ρ' → (⟨"numbers", none, some (.ref nm)⟩ : VE) ∈ ρ' → Bd w c γ m' env own ρ' [] s' → wpAny (model PG w) A (execs (lawBody.drop 7) env) Q E s') :
   wpAny (model PG w) A (execs (lawBody.drop 5) env) Q E s := by
 conv => arg 3; arg 1; whnf
 have hE := W.kinds; have hR' := W.room; have hmask : ao i ≤ 30 := (by decide +kernel : ∀ i : Nat, i < 12 → ao i ≤ 30) i hi; have hmf : ao i <<< f < 64 ^ 5 := by
   rw [Nat.shiftLeft_eq]; have h1 : 2 ^ f ≤ 2 ^ 23 := Nat.pow_le_pow_right (by decide) (a193 hf); have h2 : ao i * 2 ^ f ≤ 30 * 2 ^ 23 := Nat.mul_le_mul hmask h1; exact a192 h2
 generalize ao i <<< f = mf at *
 ktf_call "st"; refine jY B [] (by ktf_call "ce") rfl rfl (by decide +kernel) (hE.kind (by rfl)) (by decide +kernel) ?_; ktf_call "sts"; refine x12 (B.koI hdue) fun vs hko hvs => ?_; have hvl := aF hvs; apply aC B hR'.handled hko; intro I s B T; obtain ⟨ds, hdse⟩ : ∃ ds : List Nat, ds = [o, g, mf, d] := ⟨_, rfl⟩; have hds : ∀ (j : Nat) (n : Int), ([(o : Int), (g : Int), (mf : Int), (d : Int)] : List Int)[j]? = some n → ∃ k : Nat, ds[j]? = some k ∧ n = (k : Nat) ∧ k < 64 ^ 5 := by
   subst hdse; intro j n hj; match j with
   | 0 => cases hj; exact ⟨o, rfl, rfl, by exact a191 ho⟩
   | 1 => cases hj; exact ⟨g, rfl, rfl, by exact a190 hg⟩
   | 2 => cases hj; exact ⟨mf, rfl, rfl, hmf⟩
   | 3 => cases hj; exact ⟨d, rfl, rfl, by exact a189 hd⟩
   | k + 4 => simp at hj
 refine lc2_go_to (y := aa "octets") B T [] ["number", "octet"] (fun i xs kq => IntsAre xs (((ds.take i).flatMap fun n => dN 4 n 0).map Int.ofNat)) (fun kq kq kq kq kq h => h) ⟨rfl, by decide +kernel, by decide +kernel, by ktf_call "ce", rfl, by show List.Nodup [aa "number", aa "octet"]; decide +kernel⟩ (fun kq kq => rfl) .nil (by ktf_call "has") ?_ ?_
 · rintro j v c1 cenv L2 acc γ1 m1 xs s hj hE hm1 hv hz B; simp only [ai, List.map_nil, List.cons_append, List.nil_append] at B; obtain ⟨n, tn, hn, rfl⟩ := bz hvs hv; obtain ⟨k, hk, rfl, hkb⟩ := hds j n hn; refine ag ?_; ktf_call "st"; ktf_call "sts"; refine c_octets 4 (n := (k : Nat)) (f := 0) (by decide) (a12) (by have : (64 : Int) ^ (4 + 1) = ((64 ^ 5 : Nat) : Int) := rfl; rw [this]; exact a188 hkb) (hR'.less (a187) (a186)) B.bef ?_; intro r m2 s2 f2 hr; replace B := B.aft f2; have e := jg 4 k 0; rw [show ((0 : Nat) : Int) = 0 from rfl] at e
   rw [e] at hr; refine x12 (B.koI hr) fun us hku hui => ?_; have hul := aF hui; have hll := (eo 4 k 0).2; rw [am] at hul; have hxl := aF hz; rw [am] at hxl; have hxr := gg 4 (ds.take j); have hxt : (ds.take j).length ≤ 4 := by rw [List.length_take]; exact ae (Nat.min_le_right _ _) (Nat.le_of_eq (by rw [hdse]; rfl))
   apply aC B hR'.handled hku; intro I2 s B T2; refine jt B T2 (fun j v kq => ∃ t, v = .int (((dN 4 k 0).map Int.ofNat).getD j 0) t) (by rw [sizeLine_eq]; (first | lia | omega)) ?_ ?_
   · intro j2 v2 c2 γ3 m3 nw3 s hj hm3 hv2 hnw B; replace B : Bd w c2 γ3 m3 cenv [L2] [⟨"number", none, none⟩, ⟨"octet", none, none⟩] nw3 s := B; obtain ⟨xj, tj, hxj, rfl⟩ := bz hui hv2; refine ag ?_; ktf_call "st"; refine bQ ⟨rfl, ?_⟩; ktf_call "sts"; exact fu B .rfl (fun kq kq => ⟨tj, by rw [ab, hxj]; rfl⟩) rfl
   intro γ3 m3 ys s hm3 hys B; have hyi := B.ints hys; refine ⟨γ3, m3, _, ys, f2.le.trans hm3, ?_, ?_, B⟩
   · rw [List.take_add_one, hk, List.flatMap_append, List.map_append]; refine gB hz ?_; have : (af us.length).map (fun i => ((dN 4 k 0).map Int.ofNat).getD i 0) = (dN 4 k 0).map Int.ofNat := by
       have := aB (l := (dN 4 k 0).map Int.ofNat) (d := 0) (f := fun x => x) (n := us.length) (by rw [am]; exact a184 hul); exact this.trans (List.map_id' _)
     rw [this] at hyi; simpa using hyi
   rfl
 intro γ3 m3 xs oc ρ s hm3 hk3 hxs hV B; have hdl : ds.length = 4 := by rw [hdse]; rfl
 have hrl := gg 4 ds; rw [show vs.length = ds.length from hvl.trans hdl.symm, List.take_length] at hxs
 have hdv : ∀ n ∈ ds, n < 64 ^ (4 + 1) := by
   intro n hn; rw [hdse] at hn; simp only [List.mem_cons, List.not_mem_nil, or_false] at hn; rcases hn with rfl | rfl | rfl | rfl <;> (first | lia | omega)
 generalize hrow : (ds.flatMap fun n => dN 4 n 0) = row at hxs hrl; have hxl := aF hxs; rw [am] at hxl; ktf_call "sts"; refine aA B [⟨"first", some (L + 1), some (.int (f : Nat) tf)⟩] (by ktf_call "cs") rfl rfl rfl ?_; ktf_call "sts"; apply bJ B hR'.handled (B.ko hk3); intro I s B T; refine cf B T [⟨"first", some (L + 1), some (.int (f : Nat) tf)⟩] ["place", "octet"] (fun j v kq => ∃ t, v = .int (((aX f row).map Int.ofNat).getD j 0) t) ⟨rfl, rfl, rfl, by ktf_call "cs", rfl, rfl⟩ ?_ ?_ ?_
 · rw [sizeLine_eq]; show xs.length ≤ _; (first | lia | omega)
 · intro j v c2 cenv L3 γ4 m4 own ρ nw3 s hj hE hm4 hv hC hM B Qx hK; obtain ⟨T, tj, x, rfl, hx, hT⟩ := hv; obtain ⟨num, tn, hn2, rfl⟩ := bz hxs (by simpa using hx); obtain ⟨x, hx2, rfl⟩ := Option.map_eq_some_iff.mp (by rwa [List.getElem?_map] at hn2); refine bA B hR'.handled hT rfl rfl ?_; clear B; intro s B; refine al (ag ?_); ktf_call "st"; refine al (ag ?_); ktf_call "st"; refine assignInOrder_nil ?_; have hmul : ∀ z : Int, IntMulOk 128 z := fun z => .of_left (by decide +kernel); ktf_call "sts"; refine i_mul B (hmul _) ?_; clear B; intro tk s B; ktf_call "sts"; have e : Int.ofNat x + 128 * ((f : Int) + (j : Nat)).fmod 2 = ((aX f row).map Int.ofNat).getD j 0 := by
     rw [ab, List.getElem?_map, dZ, hx2, Int.fmod_eq_emod_of_nonneg _ (by decide)]; show _ = Int.ofNat (x + 128 * ((f + j) % 2))
     simp only [Int.ofNat_eq_natCast]; exact a185
   rw [e]; exact hK.go (by ktf_call "tn") B .rfl (fun kq kq => ⟨_, rfl⟩)
 intro γ4 m4 ys r4 s hm4 hk4 hys B; have hyi := B.ints hys; rw [show (af xs.length).map (fun j => ((aX f row).map Int.ofNat).getD j 0) = (aX f row).map Int.ofNat from (aB (l := (aX f row).map Int.ofNat) (d := 0) (f := fun x => x) (n := xs.length) (by rw [am, bP]; exact a184 hxl)).trans (List.map_id' _)] at hyi
 have hLI : Kn m4 (LI r4 ((d9 4 f ds).flatten.map Int.ofNat)) := by
   rw [cZ, hrow]; exact fun hp ok => ⟨ys, hk4 hp ok, hyi⟩
 ktf_call "sts"; obtain ⟨mp, ⟨oW, es, ep, hoW, hWd, _⟩, _⟩ := B.vars.ns; have hloc : env.locals = L := hE.locals; rw [hloc] at hoW; refine c_numbers (oW := oW) (segs := d9 4 f ds) (gX 4 (by decide) f ds) (by rw [cZ, hrow, bP]; (first | lia | omega)) (hR'.less (a183) (a182)) W.frames B.vars.kind W.frame hoW (fun vs => by rw [hWd]; exact fun h => nomatch h) (B.out L (List.mem_append.mpr (.inl (hloc ▸ B.vars.loc)))).1 B.bef hLI ?_
 intro r5 m5 s5 f5 hup hk5; have hk6 : Kn m5 (LI r5 (ds.map Int.ofNat)) := by
   have := fF 4 f ds hdv; rw [← this, List.map_map]; exact hk5
 replace B := B.aftX f5 (nw' := []) (fun a ha => .inl (by rw [hloc]; exact mSg ha)) (fun kq => by rw [hloc]; obtain ⟨o, ho, sl, he⟩ := hup; exact ⟨oW, o, hoW, ho, by rw [he]⟩) (fun p hp => nomatch hp) .nil (fun p hp => nomatch hp); ktf_call "st"; ktf_call "st"; rw [hdse] at hk6; exact h oc r5 _ _ m5 s (hm3.trans (hm4.trans f5.le)) htk hk6 (by ktf_call "ow") (by ktf_call "mem") B
end
end
section
theorem and_bitN (f i : Nat) : ((f / 2 ^ i * 2 ^ i) &&& 2 ^ i) = if f.testBit i then 2 ^ i else 0 := by
 apply Nat.eq_of_testBit_eq; intro j; rw [Nat.testBit_and, Nat.testBit_mul_two_pow, Nat.testBit_two_pow, Nat.testBit_div_two_pow]; by_cases h : i = j
 · subst h; simp
   cases f.testBit i <;> simp
 simp [h]
 cases f.testBit i <;> simp [h, Nat.testBit_two_pow]
theorem bit_step (f i : Nat) : f / 2 ^ i = 2 * (f / 2 ^ (i + 1)) + (f.testBit i).toNat := by
 rw [Nat.testBit_eq_decide_div_mod_eq, Nat.pow_succ, ← Nat.div_div_eq_div_mul]; have := Nat.div_add_mod (f / 2 ^ i) 2; rcases Nat.mod_two_eq_zero_or_one (f / 2 ^ i) with h | h <;> simp [h] <;> (first | lia | omega)
theorem bit_rest (f i : Nat) : f / 2 ^ i * 2 ^ i = f / 2 ^ (i + 1) * 2 ^ (i + 1) + if f.testBit i then 2 ^ i else 0 := by
 rw [bit_step f i, Nat.pow_succ]; generalize 2 ^ i = p; generalize f / (p * 2) = q; cases f.testBit i
 · simp [Nat.mul_comm, Nat.mul_assoc, Nat.mul_left_comm]
 simp [Nat.mul_comm, Nat.mul_assoc, Nat.mul_left_comm, Nat.add_mul, Nat.mul_add]
theorem kh {f i j : Nat} (h : f / 2 ^ i = 0) (hj : i ≤ j) : f.testBit j = false := by
 have : f < 2 ^ j := by
   have h1 : f < 2 ^ i := (Nat.div_eq_zero_iff_lt (Nat.two_pow_pos i)).mp h; exact Nat.lt_of_lt_of_le h1 (Nat.pow_le_pow_right (by decide) hj)
 exact Nat.testBit_lt_two_pow this
theorem bits_all {f i : Nat} (h : f / 2 ^ i = 0) (hi : i ≤ 32) : ((af 32).filter fun i => f.testBit i) = (af i).filter fun i => f.testBit i := by
 have e : (32 : Nat) = i + (32 - i) := a83 hi
 rw [e, List.range_add, List.filter_append]; have : ((af (32 - i)).map (i + ·)).filter (fun i => f.testBit i) = [] := by
   rw [List.filter_eq_nil_iff]; intro j hj; obtain ⟨k, _, rfl⟩ := mMa hj; rw [kh h (a82)]; decide
 rw [this, List.append_nil]
theorem bits_succ (f i : Nat) : ((af (i + 1)).filter fun i => f.testBit i) = (af i).filter (fun i => f.testBit i) ++ if f.testBit i then [i] else [] := by
 rw [List.range_succ, List.filter_append]; congr 1
 rw [List.filter_cons]; split <;> simp
section
variable {w : World}
noncomputable def flagRow (i : Nat) : Int × PyData := (((2 ^ i : Nat) : Int), .str (flagNames.getD i ak))
noncomputable def flagRows : List (Int × PyData) := (af 10).map flagRow
theorem jw {h : Heap} (G : Frag.In (KH w.params) h) : KTD.Keyed h 60 flagRows :=
 KTD.keyed_of_look (get := fun a => (KH w.params).lookup a) G (by rfl)
noncomputable def aK (f : Nat) : Str := if f = 0 then aa "0x0" else Txt.join (aa ", ") (((af 32).filter fun i => f.testBit i).map aw)
theorem flag_name : ∀ i : Fin 32, (PySem.Spec.lookup (PyData.int ((2 ^ i.val : Nat) : Int)) (flagRows.map fun p => (PyData.int p.1, p.2))).getD (.str (baseText "0x" 16 ((2 ^ i.val : Nat) : Int))) = .str (aw i.val) := by
 intro i; have : ∀ i : Fin 32, (match (PySem.Spec.lookup (PyData.int ((2 ^ i.val : Nat) : Int)) (flagRows.map fun p => (PyData.int p.1, p.2))).getD (.str (baseText "0x" 16 ((2 ^ i.val : Nat) : Int))) with | .str x => x == aw i.val | _ => false) = true := by decide +kernel
 have h := this i; split at h
 · rename_i x e
   rw [e, beq_iff_eq.mp h]
 cases h
theorem hex_len : ∀ i : Fin 32, (baseText "0x" 16 ((2 ^ i.val : Nat) : Int)).length ≤ 100 := by decide +kernel
theorem di : ∀ i : Fin 32, (aw i.val).length ≤ 30 := by decide +kernel
theorem and_bit (f i : Nat) : Builtin.bitAnd ((f / 2 ^ i * 2 ^ i : Nat) : Int) ((2 ^ i : Nat) : Int) = ((if f.testBit i then 2 ^ i else 0 : Nat) : Int) := by
 rw [← and_bitN]; exact bitAnd_pp (Int.natCast_nonneg _) (Int.natCast_nonneg _)
theorem gP (f : Nat) (hf : f < 2 ^ 32) {A : Around} {m : Mp} {s : Shared} {t : Tok} {Q E : VP} (hR : Rm A 1 4) (b : Bef w m s)
   (h : ∀ t m' s', Aft [] m s m' s' → Q (.str (aK f) t) s') :
   wpAny (model PG w) A (call (.ref 67) [.int (f : Nat) t]) Q E s := by
 refine dK (d := 0) (u := 1) (nw := []) (ns := ["flags", "names", "i", "flag"]) (ρ₀ := [⟨"flags", none, some (.int (f : Nat) t)⟩, ⟨"names", none, none⟩, ⟨"i", none, none⟩, ⟨"flag", none, none⟩]) hR b .nil rfl rfl rfl rfl rfl rfl rfl rfl rfl rfl (by decide +kernel) (by rfl) (by decide +kernel) (by decide +kernel) rfl ?_; intro A env L c s' hE hR' hc B hL; ktf_call "opq"; ktf_call "sts"; ktf_call "nL"; intro r s B; ktf_call "sts"; apply bu (k := 32) B hR'.handled (by decide +kernel); intro I s B T; have word_sum : ∀ is : List Nat, (∀ i ∈ is, i < 32) → ((is.map aw).map (·.length)).sum ≤ 30 * is.length := by
   intro is; induction is with
   | nil => intro _; simp
   | cons x r ih =>
     intro hx; have h1 := ih fun y hy => hx y (.tail _ hy); have h2 := di ⟨x, hx x (.head _)⟩; simp only [ai, List.sum_cons, List.length_cons]; simp only at h2; exact a81 h1 h2
 refine codeAny_mono (fg (x₀ := []) (fun vs => [(r, au vs)]) B T ["flags", "i", "flag"] (fun i m' ρ vs => (f ≠ 0 → f / 2 ^ i ≠ 0) ∧ ∃ tf : Tok, (⟨"flags", none, some (.int ((f / 2 ^ i * 2 ^ i : Nat) : Int) tf)⟩ : VE) ∈ ρ ∧ StrsAre vs (((af i).filter fun i => f.testBit i).map aw)) ?_ ?_ ?_) (fun kq kq x => x)
 · exact ⟨by simp, t, by rw [show ((f / 2 ^ 0 * 2 ^ 0 : Nat) : Int) = (f : Nat) from by simp]; ktf_call "mem", .nil⟩
 · clear B T; rintro i v c1 γ1 m1 ρ s vs hi how ⟨hnz, tf, rm, hvs⟩ hm1 hv B hback Qb hN hB hQ; obtain ⟨ti, rfl⟩ := hv; refine ag ?_; ktf_call "sts"; have e1 : (1 : Int) * 2 ^ (i : Int).toNat = ((2 ^ i : Nat) : Int) := by rw [Int.toNat_natCast]; simp
   rw [e1] at hV ⊢; rw [and_bit]; have hbs := bits_succ f i; have hbr := bit_rest f i; have hfl : ((af i).filter fun i => f.testBit i).length ≤ 32 := by
     have := List.length_filter_le (fun i => f.testBit i) (af i); rw [List.length_range] at this; exact a80 hi this
   have hlen : vs.length ≤ sizeLine := by
     have := ax hvs; rw [am] at this; rw [sizeLine_eq]; exact a79 hfl this
   have hp := Nat.two_pow_pos i; refine br (fun hb => ?_) (fun hb => ?_)
   · have hbit : f.testBit i = true := by
       cases hq : f.testBit i with
       | true => rfl
       | false => rw [hq] at hb; simp at hb
     rw [hbit] at hbs hbr; simp only [if_true] at hbs hbr; ktf_call "sts"; refine getMethod_intTab_get (jw (B.kn B.gr).k (model PG w).prog w) ?_; ktf_call "sts"; refine P.hex_of_int ?_ (by rw [sizeLine_eq]; have := hex_len ⟨i, hi⟩; simp only at this; exact a78 this); replace B := B.tk s.drawn (s.toks + 1); ktf_call "sts"; refine call_get2_intTab (jw (B.kn B.gr).k (model PG w).prog w) (PyProof.V.Flat.str _ _) fun v hv => ?_; have hnm := flag_name ⟨i, hi⟩; simp only at hnm; rw [hnm] at hv; obtain ⟨tw, rfl⟩ := PyProof.V.Flat.str_inv hv; replace B := B.tk s.drawn (s.toks + 1 + 1); ktf_call "sts"; refine bH B .head hlen ?_; clear B; intro s B; ktf_call "sts"; have exor : Builtin.bitXor ((f / 2 ^ i * 2 ^ i : Nat) : Int) ((2 ^ i : Nat) : Int) = ((f / 2 ^ (i + 1) * 2 ^ (i + 1) : Nat) : Int) := by
       rw [bitXor_and, and_bit, hbit, hbr]; simp only [if_true]; exact a77
     rw [exor] at hV ⊢; have hpp := Nat.two_pow_pos (i + 1); refine br (fun hz => ?_) (fun hz => ?_)
     · have hz0 : f / 2 ^ (i + 1) = 0 := by
         have h1 : ((f / 2 ^ (i + 1) * 2 ^ (i + 1) : Nat) : Int) = 0 := by
           by_cases q : ((f / 2 ^ (i + 1) * 2 ^ (i + 1) : Nat) : Int) = 0
           · ktf_call "qs"; exact q
           rw [show (((f / 2 ^ (i + 1) * 2 ^ (i + 1) : Nat) : Int) != 0) = true from bne_iff_ne.mpr q] at hz; cases hz
         have h2 : f / 2 ^ (i + 1) * 2 ^ (i + 1) = 0 := a76 h1
         rcases Nat.mul_eq_zero.mp h2 with q | q
         · ktf_call "qs"; exact q
         (first | lia | omega)
       have hf0 : f ≠ 0 := fun e => by rw [e, Nat.zero_testBit] at hbit; cases hbit
       ktf_call "sts"; refine hB _ ?_; ktf_call "sts"; refine dp B (B.at (.head _)) (bG hvs (.cons _ _ .nil)) ?_ ?_
       · have := word_sum ((af (i + 1)).filter fun i => f.testBit i) (fun j hj => by have := List.mem_range.mp (List.mem_filter.mp hj).1; exact a75 hi this); rw [hbs, List.map_append] at this; have h2 : (aa ", ").length = 2 := by decide +kernel
         rw [h2]; simp only [ai, List.map_nil, List.length_append, List.length_cons, List.length_nil, am] at this ⊢; exact a74 hfl this
       clear B; intro t2 s B; have := h t2 m1 _ ((hback.go B).done hc .nil av); have e : aK f = Txt.join (aa ", ") (((af i).filter fun i => f.testBit i).map aw ++ [aw i]) := by
         unfold aK; rw [if_neg hf0, bits_all hz0 (by exact hi), hbs, List.map_append]; rfl
       rw [e] at this; ktf_call "qs"; exact this
     ktf_call "sts"; ktf_call "qs"; refine hN _ m1 _ _ _ (by ktf_call "ow") ⟨fun h0 he => ?_, _, by ktf_call "mem", by rw [hbs, List.map_append]; exact bG hvs (.cons _ _ .nil)⟩ .rfl B; rw [he, Nat.zero_mul] at hz; cases hz
   have hbit : f.testBit i = false := by
     cases hq : f.testBit i with
     | false => rfl
     | true => rw [hq] at hb; simp at hb; exact absurd hb (Int.ne_of_gt (Int.pow_pos (by decide)))
   rw [hbit] at hbs hbr; simp only [Bool.false_eq_true, if_false, Nat.add_zero, List.append_nil] at hbs hbr; ktf_call "sts"; ktf_call "qs"; refine hN _ m1 _ _ vs (by ktf_call "ow") ⟨fun h0 he => ?_, tf, by rw [← hbr]; ktf_call "mem", by rw [hbs]; exact hvs⟩ .rfl B; rw [he, Nat.zero_mul] at hbr; ktf_call "qs"; exact hnz h0 (by rcases Nat.mul_eq_zero.mp hbr with q | q <;> (first | lia | omega))
 clear B T; rintro γ1 m1 ρ s vs how ⟨hnz, tf, rm, hvs⟩ hm1 B; have hf0 : f = 0 := by
   by_cases q : f = 0
   · ktf_call "qs"; exact q
   ktf_call "qs"; exact absurd (Nat.div_eq_of_lt hf) (hnz q)
 subst hf0; have e0 : (((af 32).filter fun i => Nat.testBit 0 i).map aw) = [] := by decide +kernel
 rw [e0] at hvs; cases hvs
 have e1 : ((0 / 2 ^ 32 * 2 ^ 32 : Nat) : Int) = 0 := by decide
 rw [e1] at rm; ktf_call "sts"; refine P.hex_of_int ?_ (by rw [sizeLine_eq]; decide +kernel); replace B := B.tk s.drawn (s.toks + 1); ktf_call "sts"; refine bH B .head (by rw [sizeLine_eq]; decide) ?_; clear B; intro s B; ktf_call "sts"; refine dp B (B.at (.head _)) (.cons _ _ .nil) (by decide +kernel) ?_; clear B; intro t2 s B; have := h t2 m1 _ (B.done hc .nil av); have e : aK 0 = Txt.join (aa ", ") [baseText "0x" 16 0] := by decide +kernel
 rw [e] at this; ktf_call "qs"; exact this
end
end
section
open PySem.Builtin
noncomputable def bi (c e : Nat) : List (List Nat) → List Nat
 | [] => []
 | [w] => w
 | w :: v :: r => w ++ c :: e :: bi c e (v :: r)
noncomputable def cX : List (List Nat) → Nat → List Nat
 | [], _ => []
 | [_], _ => []
 | w :: v :: r, k => (k + w.length) :: cX (v :: r) (k + w.length + 2)
theorem sub2 (x : Str) (c e i : Nat) (hi : i + 1 < x.length) : Str.subAt x ⟨#[c, e]⟩ i = decide (x.cps.toList[i]? = some c ∧ x.cps.toList[i + 1]? = some e) := by
 have h0 : i < x.cps.size := by unfold Str.length at hi; exact a148 hi
 have h1 : i + 1 < x.cps.size := hi; have ea : x.cps.extract i (i + (⟨#[c, e]⟩ : Str).length) = #[x.cps[i], x.cps[i + 1]] := by
   apply Array.toList_inj.mp; have h2 : i < x.cps.toList.length := by rw [Array.length_toList]; exact h0
   have h3 : i + 1 < x.cps.toList.length := by rw [Array.length_toList]; exact h1
   rw [Array.toList_extract, List.extract_eq_take_drop, show i + (⟨#[c, e]⟩ : Str).length - i = 2 from by have : (⟨#[c, e]⟩ : Str).length = 2 := rfl; exact a381 this, List.drop_eq_getElem_cons h2, List.drop_eq_getElem_cons h3]
   rfl
 unfold Str.subAt; rw [ea, Array.getElem?_toList, Array.getElem?_toList, Array.getElem?_eq_getElem h0, Array.getElem?_eq_getElem h1]; by_cases q0 : x.cps[i] = c
 · by_cases q1 : x.cps[i + 1] = e
   · rw [q0, q1]; simp
   simp [q0, q1]
 simp [q0]
theorem sub2_no (x : Str) (c e i : Nat) (h : x.cps.toList[i]? ≠ some c) : Str.subAt x ⟨#[c, e]⟩ i = false ∨ ¬ i + (⟨#[c, e]⟩ : Str).length ≤ x.length := by
 have h2 : (⟨#[c, e]⟩ : Str).length = 2 := rfl; by_cases q : i + 1 < x.length
 · left; rw [sub2 x c e i q]; exact decide_eq_false fun z => h z.1
 right; exact a380 h2 q
theorem eu (x : Str) (c e lim : Nat) : ∀ (n k : Nat) (st : Array Nat × Nat), (∀ i, k ≤ i → i < k + n → x.cps.toList[i]? ≠ some c) → (List.range' k n).foldl (aU x ⟨#[c, e]⟩ x.length lim) st = st
 | 0, k, st, h => rfl
 | n + 1, k, st, h => by
   rw [List.range'_succ, List.foldl_cons]; have : aU x ⟨#[c, e]⟩ x.length lim st k = st := by
     unfold aU; rw [if_neg]; rcases sub2_no x c e k (h k (Nat.le_refl _) (a379)) with q | q
     · rw [q, Bool.and_false]; exact Bool.false_ne_true
     rw [decide_eq_false q, Bool.and_false, Bool.false_and]; exact Bool.false_ne_true
   rw [this]; exact eu x c e lim n (k + 1) st fun i h1 h2 => h i (a340 h1) (a378 h2)
theorem hJ (x : Str) (c e lim : Nat) (hce : e ≠ c) (hlim : x.length < lim) : ∀ (ws : List (List Nat)) (pre : List Nat) (arr : Array Nat) (free : Nat), (∀ w ∈ ws, c ∉ w) → x.cps.toList = pre ++ bi c e ws → arr.size ≤ pre.length → free ≤ pre.length →
   ((List.range' pre.length (x.length + 1 - pre.length)).foldl (aU x ⟨#[c, e]⟩ x.length lim) (arr, free)).1.toList = arr.toList ++ cX ws pre.length
 | [], pre, arr, free, hw, hx, ha, hf => by
   rw [eu x c e lim]
   · simp [cX]
   intro i h1 h2; rw [hx]; simp only [bi, List.append_nil]; rw [List.getElem?_eq_none h1]; exact fun h => nomatch h
 | [w], pre, arr, free, hw, hx, ha, hf => by
   rw [eu x c e lim]
   · simp [cX]
   intro i h1 h2 h3; rw [hx, List.getElem?_append_right h1] at h3; exact hw w (.head _) (List.mem_of_getElem? h3)
 | w :: v :: r, pre, arr, free, hw, hx, ha, hf => by
   have hx1 : x.cps.toList = pre ++ (w ++ c :: e :: bi c e (v :: r)) := hx; have hl : x.length = pre.length + (w.length + ((bi c e (v :: r)).length + 2)) := by rw [bL, hx1]; simp
   have hx2 : x.cps.toList = (pre ++ w ++ [c, e]) ++ bi c e (v :: r) := by rw [hx1]; simp
   have hpl : (pre ++ w ++ [c, e]).length = pre.length + w.length + 2 := by simp; exact a364
   have hfit : pre.length + w.length + (⟨#[c, e]⟩ : Str).length ≤ x.length := by
     have h2 : (⟨#[c, e]⟩ : Str).length = 2 := rfl; exact a377 hl h2
   have gc : x.cps.toList[pre.length + w.length]? = some c := by
     rw [hx1, List.getElem?_append_right (a82), List.getElem?_append_right (a376)]; rw [show pre.length + w.length - pre.length - w.length = 0 from by exact a375]; rfl
   have ge : x.cps.toList[pre.length + w.length + 1]? = some e := by
     rw [hx1, List.getElem?_append_right (a374), List.getElem?_append_right (a373)]; rw [show pre.length + w.length + 1 - pre.length - w.length = 1 from by exact a372]; rfl
   have er : List.range' pre.length (x.length + 1 - pre.length) = List.range' pre.length w.length ++ ((pre.length + w.length) :: (pre.length + w.length + 1) :: List.range' (pre.length + w.length + 2) (x.length + 1 - (pre.length + w.length + 2))) := by
     rw [show x.length + 1 - pre.length = w.length + (x.length + 1 - (pre.length + w.length + 2) + 1 + 1) from by exact a371 hl, ← List.range'_append_1, List.range'_succ, List.range'_succ]
   rw [er, List.foldl_append, eu x c e lim]
   · rw [List.foldl_cons, List.foldl_cons]; have e1 : aU x ⟨#[c, e]⟩ x.length lim (arr, free) (pre.length + w.length) = (arr.push (pre.length + w.length), pre.length + w.length + 2) := by
       unfold aU; rw [if_pos]
       · rfl
       rw [sub2 x c e _ (a370 hl), decide_eq_true (show arr.size < lim from by exact a369 hlim ha hl), decide_eq_true (show free ≤ pre.length + w.length from by exact a368 hf), decide_eq_true hfit, decide_eq_true ⟨gc, ge⟩]
       rfl
     have e2 : aU x ⟨#[c, e]⟩ x.length lim (arr.push (pre.length + w.length), pre.length + w.length + 2) (pre.length + w.length + 1) = (arr.push (pre.length + w.length), pre.length + w.length + 2) := by
       unfold aU; rw [if_neg]; rw [decide_eq_false (show ¬ pre.length + w.length + 2 ≤ pre.length + w.length + 1 from by exact a367), Bool.and_false, Bool.false_and, Bool.false_and]
       exact Bool.false_ne_true
     rw [e1, e2]; have := hJ x c e lim hce hlim (v :: r) (pre ++ w ++ [c, e]) (arr.push (pre.length + w.length)) (pre.length + w.length + 2) (fun z hz => hw z (.tail _ hz)) hx2 (by rw [Array.size_push, hpl]; exact a366 ha) (by rw [hpl]; exact Nat.le_refl _); rw [hpl] at this; rw [this]; simp [cX]
   intro i h1 h2 h3; rw [hx1, List.getElem?_append_right h1, List.getElem?_append_left (a365 h1 h2)] at h3; exact hw w (.head _) (List.mem_of_getElem? h3)
theorem eW (x : Str) (c e : Nat) : ∀ (ws : List (List Nat)) (pre : List Nat), ws ≠ [] → x.cps.toList = pre ++ bi c e ws →
   (((pre.length :: (cX ws pre.length).map (· + 2)).zip (cX ws pre.length ++ [x.length])).map fun (i, j) => Str.strSub x i j) = ws.map fun l => ⟨l.toArray⟩
 | [], pre, hn, hx => absurd rfl hn
 | [w], pre, hn, hx => by
   have hl : x.length = pre.length + w.length := by rw [bL, hx]; simp [bi]
   show [Str.strSub x pre.length x.length] = [_]
   congr 1
   unfold Str.strSub; congr 1
   apply Array.toList_inj.mp; rw [Array.toList_extract, List.extract_eq_take_drop, hx, hl, List.drop_append_of_le_length (Nat.le_refl _), List.drop_length]; simp [bi]
 | w :: v :: r, pre, hn, hx => by
   have hx1 : x.cps.toList = pre ++ (w ++ c :: e :: bi c e (v :: r)) := hx; have hx2 : x.cps.toList = (pre ++ w ++ [c, e]) ++ bi c e (v :: r) := by rw [hx1]; simp
   have hpl : (pre ++ w ++ [c, e]).length = pre.length + w.length + 2 := by simp; exact a364
   have := eW x c e (v :: r) (pre ++ w ++ [c, e]) (by simp) hx2; rw [hpl] at this; simp only [cX, ai, List.cons_append, List.zip_cons_cons]; rw [show (Str.strSub x pre.length (pre.length + w.length)) = ⟨w.toArray⟩ from by
     unfold Str.strSub; congr 1
     apply Array.toList_inj.mp; rw [Array.toList_extract, List.extract_eq_take_drop, hx1, List.drop_append_of_le_length (Nat.le_refl _), List.drop_length]; simp]
   congr 1
theorem iz (x : Str) (c e : Nat) (hce : e ≠ c) (hc : c < 256) (he : e < 256) (ws : List (List Nat)) (hn : ws ≠ []) (hw : ∀ w ∈ ws, c ∉ w) (hx : x.cps.toList = bi c e ws) : Txt.split x ⟨#[c, e]⟩ = ws.map fun l => ⟨l.toArray⟩ := by
 have ho : Str.occurrences x ⟨#[c, e]⟩ 0 x.length (x.length + 1) = cX ws 0 := by
   rw [gn]; have := hJ x c e (x.length + 1) hce (a363) ws [] #[] 0 hw (by rw [hx]; rfl) (Nat.le_refl _) (Nat.le_refl _); simpa using this
 have hp := eW x c e ws [] hn (by rw [hx]; rfl); have hself : cX ws 0 = [] → [x] = ws.map fun l => ⟨l.toArray⟩ := fun he => by
   rw [List.length_nil, he] at hp; rw [← hp]; show [x] = [Str.strSub x 0 x.length]
   congr 1
   unfold Str.strSub Str.length; rw [Array.extract_size]
 unfold Txt.split; rw [ho]; split
 · rename_i h
   refine hself ?_; simp only [Bool.or_eq_true, decide_eq_true_eq] at h; rcases h with h | h
   · rcases ws with _ | ⟨w, _ | ⟨v, r⟩⟩
     · exact absurd rfl hn
     · rfl
     exfalso
     have : x.length = (bi c e (w :: v :: r)).length := by rw [bL, hx]
     simp only [bi, List.length_append, List.length_cons] at this; have h2 : (⟨#[c, e]⟩ : Str).length = 2 := rfl; exact a362 h this h2
   exfalso
   have h1 : Str.strKind ⟨#[c, e]⟩ = 1 := by unfold Str.strKind; simp [hc, he]
   rw [h1] at h; unfold Str.strKind at h; split at h
   · exact a328 h
   split at h <;> (first | lia | omega)
 split
 · rename_i h
   exact hself (List.isEmpty_iff.mp h)
 exact hp
end
section
noncomputable def cH (f k : Nat) : List Str := ((af 5).filter fun j => k.testBit j).map fun j => aw (f + j)
theorem ke : ∀ f : Nat, f < 24 → ∀ k : Nat, k < 32 → (af 32).filter (fun i => (k <<< f).testBit i) = ((af 5).filter fun j => k.testBit j).map fun j => f + j := by decide +kernel
theorem bV {f k : Nat} (hf : f < 24) (hk : k < 32) : aK (k <<< f) = if k = 0 then aa "0x0" else Txt.join (aa ", ") (cH f k) := by
 unfold aK cH; rw [ke f hf k hk, List.map_map]; by_cases q : k = 0
 · rw [if_pos q, if_pos (by rw [q, Nat.zero_shiftLeft])]
 rw [if_neg q, if_neg (by
   intro e; rw [Nat.shiftLeft_eq] at e; rcases Nat.mul_eq_zero.mp e with h | h
   · exact q h
   exact absurd h (Nat.pos_iff_ne_zero.mp (Nat.two_pow_pos f)))]
 rfl
theorem ef (c e : Nat) : ∀ (r : List Str) (acc : Array Nat), (r.foldl (fun acc p => acc ++ (⟨#[c, e]⟩ : Str).cps ++ p.cps) acc).toList = acc.toList ++ (r.map fun y => c :: e :: y.cps.toList).flatten
 | [], acc => by simp
 | x :: r, acc => by
   rw [List.foldl_cons, ef c e r, ai, List.flatten_cons]; simp
theorem fb (c e : Nat) : ∀ (w : List Nat) (r : List (List Nat)), bi c e (w :: r) = w ++ (r.map fun y => c :: e :: y).flatten
 | w, [] => by simp [bi]
 | w, v :: r => by
   rw [bi, fb c e v r, ai, List.flatten_cons]; simp
theorem join_cs (c e : Nat) (ys : List Str) : (Txt.join ⟨#[c, e]⟩ ys).cps.toList = bi c e (ys.map fun y => y.cps.toList) := by
 show (Builtin.Str.glued ⟨#[c, e]⟩ ys).cps.toList = _
 unfold Builtin.Str.glued; rw [ef]; cases ys with
 | nil => rfl
 | cons y r =>
   rw [ai, fb, List.map_map]; rfl
theorem word_no : ∀ k : Fin 32, (44 : Nat) ∉ (aw k.val).cps.toList := by decide +kernel
theorem comma : aa ", " = ⟨#[44, 32]⟩ := by decide +kernel
theorem fx {ys : List Str} (hn : ys ≠ []) (hw : ∀ y ∈ ys, (44 : Nat) ∉ y.cps.toList) : Txt.split (Txt.join (aa ", ") ys) (aa ", ") = ys := by
 rw [comma, iz _ 44 32 (by decide) (by decide) (by decide) (ys.map fun y => y.cps.toList) (by simpa using hn) (fun w h => by obtain ⟨y, hy, rfl⟩ := mMa h; exact hw y hy) (join_cs 44 32 ys), List.map_map]; conv => rhs; rw [← List.map_id ys]
 rfl
theorem picks_no {f k : Nat} (hf : f < 24) : ∀ y ∈ cH f k, (44 : Nat) ∉ y.cps.toList := by
 intro y hy; obtain ⟨j, hj, rfl⟩ := mMa hy; have := List.mem_range.mp (List.mem_filter.mp hj).1; exact word_no ⟨f + j, by exact a179 hf this⟩
theorem picks_ne {f k : Nat} (hk : k < 32) (h0 : k ≠ 0) : cH f k ≠ [] := by
 unfold cH; intro e; have e := List.map_eq_nil_iff.mp e; exact (by decide +kernel : ∀ k : Nat, k < 32 → k ≠ 0 → ((af 5).filter fun j => k.testBit j) ≠ []) k hk h0 e
theorem fw {f k : Nat} (hf : f < 24) (hk : k < 32) (h0 : k ≠ 0) : Txt.split (aK (k <<< f)) (aa ", ") = cH f k := by
 rw [bV hf hk, if_neg h0]; exact fx (picks_ne hk h0) (picks_no hf)
theorem jP {f : Nat} (hf : f < 24) : Txt.split (aK (0 <<< f)) (aa ", ") = [aa "0x0"] := by
 rw [bV hf (by decide), if_pos rfl]; have := fx (ys := [aa "0x0"]) (by simp) (by decide +kernel); exact this
theorem occ_len (s sub : Str) (lo hi limit : Nat) : (Builtin.Str.occurrences s sub lo hi limit).length ≤ hi + 1 - lo := by
 rw [gn]; have : ∀ (n k : Nat) (st : Array Nat × Nat), ((List.range' k n).foldl (aU s sub hi limit) st).1.size ≤ st.1.size + n := by
   intro n; induction n with
   | zero => intro k st; exact Nat.le_refl _
   | succ n ih =>
     intro k st; rw [List.range'_succ, List.foldl_cons]; have h1 := ih (k + 1) (aU s sub hi limit st k); have h2 : (aU s sub hi limit st k).1.size ≤ st.1.size + 1 := by
       unfold aU; split
       · rw [Array.size_push]; exact Nat.le_refl _
       exact Nat.le_succ _
     exact a272 h1 h2
 have := this (hi + 1 - lo) lo (#[], lo); rw [Array.length_toList]; simpa using this
theorem cut_len (x y : Str) : (Builtin.Str.partsBetween x (Builtin.Str.occurrences x y 0 x.length (x.length + 1)) y.length).length ≤ x.length + 2 := by
 have := occ_len x y 0 x.length (x.length + 1); unfold Builtin.Str.partsBetween; simp only [am, List.length_zip, List.length_cons, List.length_append, List.length_nil]; exact a361 this
theorem fP (c e : Nat) : ∀ ws : List (List Nat), (bi c e ws).length ≤ (ws.map fun w => w.length + 2).sum
 | [] => Nat.le_refl _
 | [w] => by simp [bi]
 | w :: v :: r => by
   have := fP c e (v :: r); rw [ai, List.sum_cons]; simp only [bi, List.length_append, List.length_cons]; exact a360 this
theorem eU (f k : Nat) : (cH f k).length ≤ 5 := by unfold cH; rw [am]; exact List.length_filter_le _ _
theorem iF {f k : Nat} (hf : f < 24) : ∀ y ∈ cH f k, y.length ≤ 30 := by
 intro y hy; obtain ⟨j, hj, rfl⟩ := mMa hy; have := List.mem_range.mp (List.mem_filter.mp hj).1; exact di ⟨f + j, by exact a179 hf this⟩
theorem fI {f k : Nat} (hf : f < 24) (hk : k < 32) : (aK (k <<< f)).length ≤ 200 := by
 rw [bV hf hk]; split
 · decide +kernel
 rw [comma, bL, join_cs]; refine ae (fP _ _ _) ?_; have h1 := eU f k; have h2 := iF (k := k) hf; generalize cH f k = ys at h1 h2; have : ∀ ys : List Str, (∀ y ∈ ys, y.length ≤ 30) → ((ys.map fun y => y.cps.toList).map fun w => w.length + 2).sum ≤ 32 * ys.length := by
   intro ys; induction ys with
   | nil => intro _; simp
   | cons y r ih =>
     intro hy; have h3 := ih fun z hz => hy z (.tail _ hz); have h4 := hy y (.head _); rw [bL] at h4; simp only [ai, List.sum_cons, List.length_cons]; exact a359 h3 h4
 have := this ys h2; exact a358 h1 this
end
section
section
variable {w : World} {c : Cx} {γ : Array GenState} {m : Mp} {env : Env} {s : Shared} {A : Around} {E : VP} {Q : Flow → Shared → Prop} {L : Addr} {own : List Addr} {ρ : List VE}
theorem law_3 (W : LawE A env L) (htk : 1 ≤ s.toks) {f i o g d : Nat} {words due nm : Addr} {tf tm : Tok} (hf : f < 24) (hi : i < 12) (hws : Kn m (LS words (aZ f))) (hdue : Kn m (LI due [(o : Int), (g : Int), ((ao i <<< f : Nat) : Int), (d : Int)])) (hnm : Kn m (LI nm [(o : Int), (g : Int), ((ao i <<< f : Nat) : Int), (d : Int)]))
   (B : Bd w c γ m env own ρ [] s) (r_due : (⟨"due", none, some (.ref due)⟩ : VE) ∈ ρ) (r_numbers : (⟨"numbers", none, some (.ref nm)⟩ : VE) ∈ ρ) (r_first : (⟨"first", some (L + 1), some (.int (f : Nat) tf)⟩ : VE) ∈ ρ) (r_words : (⟨"words", some (L + 2), some (.ref words)⟩ : VE) ∈ ρ) (r_mask : (⟨"mask", some (L + 3), some (.int (ao i : Nat) tm)⟩ : VE) ∈ ρ) (r_shown : Hn (aa "shown") none ρ)
   (h : ∀ (sh : Addr) ρ' γ m' s', m.le m' → 1 ≤ s'.toks → Kn m' (LS sh [aK (31 <<< f), aK (ao i <<< f)]) →
     Ow ["shown"] ρ ρ' → (⟨"shown", none, some (.ref sh)⟩ : VE) ∈ ρ' → Bd w c γ m' env own ρ' [] s' → wpAny (model PG w) A (execs (lawBody.drop 9) env) Q E s') :
   wpAny (model PG w) A (execs (lawBody.drop 7) env) Q E s := by
 conv => arg 3; arg 1; whnf
 have hE := W.kinds; have hR' := W.room; have hu : A.units < cLine := by have := W.room.units; exact a199 this
 have hmask : ao i ≤ 30 ∧ ao i ≠ 0 := (by decide +kernel : ∀ i : Nat, i < 12 → ao i ≤ 30 ∧ ao i ≠ 0) i hi; have sh32 : ∀ k, k < 32 → k <<< f < 2 ^ 32 := by
   intro k hk; rw [Nat.shiftLeft_eq]; have h1 : 2 ^ f ≤ 2 ^ 23 := Nat.pow_le_pow_right (by decide) (a193 hf); have h2 : k * 2 ^ f ≤ 31 * 2 ^ 23 := Nat.mul_le_mul (a198 hk) h1; exact a197 h2
 ktf_call "sts"; rw [show (31 : Int) * (2 : Int) ^ ((f : Nat) : Int).toNat = ((31 <<< f : Nat) : Int) from by rw [Nat.shiftLeft_eq, Int.toNat_natCast]; simp]
 refine gP (31 <<< f) (sh32 31 (by decide)) (hR'.less (a178) (a177)) B.bef ?_; intro t1 m1 s1 f1; replace B := B.aft f1; ktf_call "sts"; refine bE (n := ((ao i <<< f : Nat) : Int)) (B.kn (hdue.up f1.le)) (by decide) (by decide) rfl fun t2 => ?_; ktf_call "sts"; refine gP (ao i <<< f) (sh32 _ (a194 hmask)) (hR'.less (a178) (a177)) B.bef ?_; intro t3 m2 s2 f2; replace B := B.aft f2; ktf_call "sts"; ktf_call "nl"; intro sh m3 s hm3 hsh B; have hS : Kn m3 (LS sh [aK (31 <<< f), aK (ao i <<< f)]) := hsh.map fun h x => ⟨_, x, .cons _ _ (.cons _ _ .nil)⟩; ktf_call "sts"; have hle := (f1.le.trans f2.le).trans hm3; refine ne_ints hu (B.kn (hnm.up hle)) (B.kn (hdue.up hle)) ?_; ktf_call "sts"; refine aY rfl ?_; ktf_call "sts"; have words_sum : ∀ is : List Nat, (∀ i ∈ is, i < 5) → ((is.map fun j => aw (f + j)).map (·.length)).sum ≤ 30 * is.length := by
   intro is; induction is with
   | nil => intro _; simp
   | cons x r ih =>
     intro hx; have h1 := ih fun y hy => hx y (.tail _ hy); have h3 := hx x (.head _); have h2 := di ⟨f + x, by exact a179 hf h3⟩; simp only [ai, List.sum_cons, List.length_cons]; simp only at h2; exact a81 h1 h2
 have pick_fits : ∀ k : Nat, ((cH f k).map (·.length)).sum + (cH f k).length * (aa ", ").length ≤ 16777216 := by
   intro k; have h1 := words_sum ((af 5).filter fun j => k.testBit j) (fun j hj => List.mem_range.mp (List.mem_filter.mp hj).1); have h2 : ((af 5).filter fun j => k.testBit j).length ≤ 5 := List.length_filter_le _ _; have h3 : (aa ", ").length = 2 := by decide +kernel
   rw [h3]; unfold cH; rw [am]; exact a196 h1 h2
 refine x12 (B.koS (hws.up hle)) fun vs hko hvs => ?_; refine dp (ys := cH f 31) B (B.ato hko) hvs (pick_fits 31) ?_; clear B; intro t4 s B; ktf_call "sts"; refine aA B [⟨"words", some (L + 2), some (.ref words)⟩, ⟨"mask", some (L + 3), some (.int (ao i : Nat) tm)⟩] (by ktf_call "cs") rfl rfl rfl ?_; ktf_call "sts"; apply bu (k := 5) B hR'.handled (by decide +kernel); intro I s B T; refine dC B T [⟨"words", some (L + 2), some (.ref words)⟩, ⟨"mask", some (L + 3), some (.int (ao i : Nat) tm)⟩] ["k"] (fun j => (ao i).testBit j) (fun j v kq => ∃ t, v = .str (aw (f + j)) t) ⟨rfl, rfl, rfl, by ktf_call "cs", rfl, rfl⟩ (by decide) ?_ ?_
 · intro j v c2 cenv L2 γ2 m6 own ρ nw2 s hj hE hm6 hv hC hM B Qt hK; obtain ⟨tj, rfl⟩ := hv; refine ag ?_; ktf_call "st"; ktf_call "sts"; refine hK.go (eA (ao i) j) (by ktf_call "tn") B .rfl fun hb Qx hK => ?_; ktf_call "sts"; refine cO (n := aw (f + j)) (B.kn (hws.up (hle.trans hm6))) (a12) (a195 hj) ?_ fun t5 => ?_
   · rw [Int.toNat_natCast]; unfold aZ; rw [List.getElem?_map, List.getElem?_range hj]; rfl
   exact hK.go (by ktf_call "tn") B .rfl (fun kq kq => ⟨_, rfl⟩)
 intro γ4 m4 ys r4 s hm4 hk4 hys B; have hyi := B.strs hys; ktf_call "sts"; refine dp (ys := cH f (ao i)) B (B.kn hk4) hyi (pick_fits _) ?_; clear B; intro t5 s B; ktf_call "sts"; ktf_call "nl"; intro nl m5 s hm5 hnl B; have hle2 := hm4.trans hm5; refine gp hu (B.kn (hS.up hle2)) (B.kn (P := LS nl [aK (31 <<< f), aK (ao i <<< f)]) (hnl.map fun h x => ⟨_, x, ?_⟩)) ?_
 · rw [bV hf (by decide), bV hf (a194 hmask), if_neg (by decide), if_neg hmask.2]; exact .cons _ _ (.cons _ _ .nil)
 ktf_call "sts"; refine aY rfl ?_; ktf_call "st"; refine aY rfl ?_; ktf_call "st"; exact fun htk => h sh _ _ m5 s (hle.trans hle2) htk (hS.up hle2) (by ktf_call "ow") (by ktf_call "mem") B
end
end
section
section
variable {w : World} {c : Cx} {γ : Array GenState} {m : Mp} {env : Env} {s : Shared} {A : Around} {E : VP} {Q : Flow → Shared → Prop} {L : Addr} {own : List Addr} {ρ : List VE}
noncomputable def az (k : Nat) : List Nat := (af 5).filter fun j => k.testBit j
noncomputable def gb (k : Nat) : List Str := (af 5).map fun j => if k.testBit j then aa "+" else aa "*"
noncomputable def dh (o d : Nat) : List Str := (aH o d 6).2.2.2
noncomputable def aR (o g d k : Nat) : Str := cI ((aW g (dh o d) 5).2.getD 0 ak) (gb k)
theorem word_inj : ∀ a b : Fin 32, a ≠ b → (aw a.val == aw b.val) = false := by decide +kernel
theorem law_4 (W : LawE A env L) (htk : 1 ≤ s.toks) {f i o g d : Nat} {words nm sh : Addr}  (hf : f < 24) (hi : i < 12) (hws : Kn m (LS words (aZ f))) (hnm : Kn m (LI nm [(o : Int), (g : Int), ((ao i <<< f : Nat) : Int), (d : Int)])) (hsh : Kn m (LS sh [aK (31 <<< f), aK (ao i <<< f)]))
   (B : Bd w c γ m env own ρ [] s) (r_numbers : (⟨"numbers", none, some (.ref nm)⟩ : VE) ∈ ρ) (r_shown : (⟨"shown", none, some (.ref sh)⟩ : VE) ∈ ρ) (r_words : (⟨"words", some (L + 2), some (.ref words)⟩ : VE) ∈ ρ) (r_pars : Hn (aa "pars") (some (L + 4)) ρ) (o_pars : L + 4 ∈ own) (r_text : Hn (aa "text") none ρ) (r_leaves : Hn (aa "leaves") none ρ)
   (h : ∀ (pa lv : Addr) (tt : Tok) ρ' γ m' s', m.le m' → 1 ≤ s'.toks → Kn m' (LI pa ((az (ao i)).map Int.ofNat)) → Kn m' (LS lv (dh o d)) →
     Ow ["pars", "text", "leaves"] ρ ρ' → (⟨"pars", some (L + 4), some (.ref pa)⟩ : VE) ∈ ρ' → (⟨"leaves", none, some (.ref lv)⟩ : VE) ∈ ρ' → (⟨"text", none, some (.str (aR o g d (ao i)) tt)⟩ : VE) ∈ ρ' → Bd w c γ m' env own ρ' [] s' → wpAny (model PG w) A (execs (lawBody.drop 11) env) Q E s') :
   wpAny (model PG w) A (execs (lawBody.drop 9) env) Q E s := by
 conv => arg 3; arg 1; whnf
 refine x12 (B.koS hws) fun wvs hwo hwi => ?_; have hE := W.kinds; have hR' := W.room; have hu : A.units < cLine := by have := W.room.units; exact a199 this
 have hmask : ao i ≤ 30 ∧ ao i ≠ 0 := (by decide +kernel : ∀ i : Nat, i < 12 → ao i ≤ 30 ∧ ao i ≠ 0) i hi; ktf_call "st"; refine d5 B (hE.kind (by rfl)) rfl ?_; refine aA B [⟨"words", some (L + 2), some (.ref words)⟩] (by ktf_call "cs") rfl rfl rfl ?_; ktf_call "sts"; refine cO (n := aK (ao i <<< f)) (B.kn hsh) (by decide) (by decide) rfl fun t1 => ?_; ktf_call "sts"; have hpl := fI (k := ao i) hf (a194 hmask); refine gf (x := aK (ao i <<< f)) (y := aa ", ") B (by decide +kernel) (szl (a205 hpl)) (by have := cut_len (aK (ao i <<< f)) (aa ", "); rw [sizeLine_eq]; exact a204 hpl this) ?_; rw [fw hf (a194 hmask) hmask.2]; clear B; intro sp m1 s hm1 hS B; refine x12 (B.koS hS) fun vs hko hvs => ?_; have hvl := ax hvs; have hpk := eU f (ao i); apply aC B hR'.handled hko; intro I s B T; refine cf B T [⟨"words", some (L + 2), some (.ref words)⟩] ["word"] (fun j v kq => ∃ t, v = .int (((az (ao i)).map Int.ofNat).getD j 0) t) ⟨rfl, rfl, rfl, by ktf_call "cs", rfl, rfl⟩ (szl (a203 hvl hpk)) ?_ ?_
 · intro j v c2 cenv L2 γ2 m6 own ρ nw2 s hj hE hm6 hv hC hM B Qx hK; obtain ⟨y, tj, hy, rfl⟩ := aV hvs hv; obtain ⟨b, hb, rfl⟩ : ∃ b, (az (ao i))[j]? = some b ∧ aw (f + b) = y := by
     have : cH f (ao i) = (az (ao i)).map fun j => aw (f + j) := rfl; rw [this, List.getElem?_map] at hy; exact Option.map_eq_some_iff.mp hy
   have hb5 : b < 5 := List.mem_range.mp (List.mem_filter.mp (List.mem_of_getElem? hb)).1; refine ag ?_; ktf_call "st"; ktf_call "sts"; refine gm_index (B.ato (aJ (hm1.trans hm6) hwo)) ?_; ktf_call "sts"; refine l_indexS (j := b) B (B.kn (hws.up (hm1.trans hm6))) (by show ((af 5).map _).length ≤ _; simp) ?_ ?_ ?_
   · unfold aZ; rw [List.getElem?_map, List.getElem?_range hb5]; rfl
   · intro z hz y hy; unfold aZ at hy; rw [List.getElem?_map, List.getElem?_range (a202 hb5 hz)] at hy; cases hy
     exact word_inj ⟨f + z, by exact a201 hf hb5 hz⟩ ⟨f + b, by exact a179 hf hb5⟩ (by intro e; have := congrArg Fin.val e; simp at this; exact a200 hz this)
   clear B; intro t2 s B; exact hK.go (by ktf_call "tn") B .rfl (fun kq kq => ⟨_, by rw [ab, List.getElem?_map, hb]; rfl⟩)
 intro γ3 m3 xs pa s hm3 hk3 hxs B; have hpa : Kn m3 (LI pa ((az (ao i)).map Int.ofNat)) := by
   have := B.ints hxs; rw [show (af vs.length).map (fun j => ((az (ao i)).map Int.ofNat).getD j 0) = (az (ao i)).map Int.ofNat from (aB (l := (az (ao i)).map Int.ofNat) (d := 0) (f := fun x => x) (n := vs.length) (by rw [am, hvl]; show _ = ((az (ao i)).map _).length; rw [am])).trans (List.map_id' _)] at this
   exact fun hp ok => ⟨xs, hk3 hp ok, this⟩
 have hle := hm1.trans hm3; ktf_call "st"; ktf_call "st"; ktf_call "st"; refine Assign_Tuple ?_; ktf_call "sts"; refine bE (n := (o : Int)) (B.kn (hnm.up hle)) (by decide) (by decide) rfl fun t2 => ?_; ktf_call "sts"; refine bE (n := (g : Int)) (B.kn (hnm.up hle)) (by decide) (by decide) rfl fun t3 => ?_; ktf_call "sts"; refine aA B [⟨"pars", some (L + 4), some (.ref pa)⟩] (by ktf_call "cs") rfl rfl rfl ?_; ktf_call "sts"; apply bu (k := 5) B hR'.handled (by decide +kernel); intro I s B T; refine cf B T [⟨"pars", some (L + 4), some (.ref pa)⟩] ["k"] (fun j v kq => ∃ t, v = .str (if (ao i).testBit j then aa "+" else aa "*") t) ⟨rfl, rfl, rfl, by ktf_call "cs", rfl, rfl⟩ (by decide) ?_ ?_
 · intro j v c2 cenv L2 γ2 m6 own ρ nw2 s hj hE hm6 hv hC hM B Qx hK; obtain ⟨tj, rfl⟩ := hv; refine ag ?_; ktf_call "st"; ktf_call "sts"; refine x12 (B.kn (hpa.up hm6)) fun pvs hpl hpi => ?_; refine in_list_ints hpl.list hpi ?_; have e : ((az (ao i)).map Int.ofNat).any (· == (j : Int)) = (ao i).testBit j := by
     rw [Bool.eq_iff_iff, List.any_eq_true]; constructor
     · rintro ⟨x, hx, e⟩; obtain ⟨y, hy, rfl⟩ := mMa hx; have e2 : y = j := Int.ofNat.inj (beq_iff_eq.mp e); rw [← e2]; exact (List.mem_filter.mp hy).2
     intro hb; exact ⟨(j : Nat), List.mem_map.mpr ⟨j, List.mem_filter.mpr ⟨List.mem_range.mpr hj, hb⟩, rfl⟩, by simp⟩
   rw [e]; ktf_call "sts"; refine br (fun hb => ?_) (fun hb => ?_)
   · ktf_call "sts"; exact hK.go (by ktf_call "tn") B .rfl (fun kq kq => ⟨_, by rw [if_pos hb]⟩)
   ktf_call "sts"; exact hK.go (by ktf_call "tn") B .rfl (fun kq kq => ⟨_, by rw [hb, if_neg Bool.false_ne_true]⟩)
 intro γ4 m4 ys sg s hm4 hk4 hys B; have hsg : Kn m4 (LS sg (gb (ao i))) := by
   have := B.strs hys; exact fun hp ok => ⟨ys, hk4 hp ok, this⟩
 ktf_call "sts"; refine bE (n := (d : Int)) (B.kn (hnm.up (hle.trans hm4))) (by decide) (by decide) rfl fun t4 => ?_; ktf_call "sts"; refine c_formula o g d (hR'.less (a178) (a177)) B.bef hsg (by show ((af 5).map _).length ≤ _; simp) ?_ ?_
 · intro x hx; obtain ⟨j, _, rfl⟩ := mMa hx; split <;> decide +kernel
 intro T lv tt m5 s5 f5 hlv hT; replace B := B.aft f5; refine bA B hR'.handled (B.kn hT).tup rfl rfl ?_; clear B; intro s B; refine al (ag ?_); ktf_call "st"; refine al (ag ?_); ktf_call "st"; refine assignInOrder_nil ?_; exact fun htk => h pa lv tt _ _ m5 s ((hle.trans hm4).trans f5.le) htk (hpa.up (hm4.trans f5.le)) hlv (by ktf_call "ow") (by ktf_call "mem") (by ktf_call "mem") (by ktf_call "mem") B
end
end
section
open PySem.W.X
section
variable {w : World} {A : Around} {c : Code} {fs : List Frame} {s : Shared} {P : End → Shared → Prop} {env : Env} {K : Flow → Sem Fin} {H : Value → Sem Fin} {gd : Bool → Bool} {lv : List Value → List Value}
theorem eE {α : Type} {m : Sem α} {K : α → Sem Fin} {H : Value → Sem Fin} {gd lv} (h : wpAny (model PG w) (A.over c fs) m (fun a s' => SegX (model PG w) A c (K a) fs s' P) NoE s) : SegX (model PG w) A c (m.wrap K H gd lv) fs s P := by
 rintro Γ p rfl hΓ; refine x22 (runs_wrap_of_wp (Φ := fun e s' => e.quiet = true ∧ P e s') K H gd lv m (h (Γ.over fs) p (hΓ.over fs)) (fun a p' s' h' => h' Γ p' rfl hΓ) (fun x p' s' h' => h'.elim)) fun e s' hr hq => ?_; exact ⟨e, s', hr, hq⟩
theorem bS {α β : Type} {m : Sem α} {k : α → Sem β} {K : β → Sem Fin} {H : Value → Sem Fin} {gd lv} (h : wpAny (model PG w) (A.over c fs) m (fun a s' => SegX (model PG w) A c ((k a).wrap K H gd lv) fs s' P) NoE s) : SegX (model PG w) A c ((m >>= k).wrap K H gd lv) fs s P := by
 rw [Sem.bind_eq_wrap', Sem.wrap_wrap]; exact eE h
theorem sx_at {p' : Pos} {k : Unit → Sem Fin} (h : SegX (model PG w) A c (k ()) fs s P) : SegX (model PG w) A c (.at p' k) fs s P :=
 eE (m := standAt p') (K := k) (H := .raise) (gd := id) (lv := id) (wpAny_standAt h)
theorem sx_point {l : List Value} {k : Unit → Sem Fin} (h : SegX (model PG w) A c (k ()) fs s P) : SegX (model PG w) A c (.point l k) fs s P :=
 eE (m := point) (K := k) (H := .raise) (gd := id) (lv := fun kq => l) (wpAny_point h)
theorem sx_nil (h : SegX (model PG w) A c (K .next) fs s P) : SegX (model PG w) A c ((execs [] env).wrap K H gd lv) fs s P := h
theorem bR {st : Stmt} {rest : List Stmt} (h : SegX (model PG w) A c ((exec st env).wrap (fun f => match f with | .next => (execs rest env).wrap K H gd lv | f => K f) H gd lv) fs s P) :
   SegX (model PG w) A c ((execs (st :: rest) env).wrap K H gd lv) fs s P := by rw [execs_cons_wrap]; exact h
theorem f0 {st : Stmt} (h : wpAny (model PG w) (A.over c fs) (exec st env) (fun f s' => SegX (model PG w) A c (K f) fs s' P) NoE s) : SegX (model PG w) A c ((exec st env).wrap K H gd lv) fs s P := eE h
theorem sx_If {test : Expr} {body orelse : List Stmt} {pos : Pos} (h : wpAny (model PG w) (A.over c fs) (isTrue test env (eval test env)) (fun b s' => if b = true then SegX (model PG w) A c ((execs body env).wrap K H gd lv) fs s' P else SegX (model PG w) A c ((execs orelse env).wrap K H gd lv) fs s' P) NoE s) :
   SegX (model PG w) A c ((exec (.If test body orelse pos) env).wrap K H gd lv) fs s P := by
 rw [exec_If]; refine bS (wpAny_standAt (bS (an h (fun b s' h => ?_) fun kq kq x => x))); cases b <;> exact h
theorem ga {e : Expr} {ypos pos : Pos} (hfs : splitAtGen fs = none) (hgd : gd false = false) (hfg : fs.any Frame.guarded = false)
   (h : wpAny (model PG w) (A.over c fs) (eval e env) (fun v s' => ∀ l k p, (∀ s'' P', SegX (model PG w) A c (K .next) fs s'' P' → SegX (model PG w) A c (k (.send .none)) fs s'' P') → P (.susp v false l k c p fs) s') NoE s)
   (hco : env.scope.isCoroutine = false) (hi : interactive env = false := by rfl) :
   SegX (model PG w) A c ((exec (.Expr (.Yield (some e) ypos) pos) env).wrap K H gd lv) fs s P := by
 rw [exec_Expr env _ pos hi rfl]; show SegX _ A c (.at pos fun kq => ((eval e env >>= fun v => (standAt ypos >>= fun kq => yieldOut env v)) >>= fun x => dropValue (.Yield (some e) ypos) pos x).wrap K H gd lv) fs s P
 have hy : ∀ v, yieldOut env v = yieldValue v := fun v => by simp only [yieldOut, hco, Bool.false_eq_true, if_false]
 simp only [hy]; refine sx_at ?_; rw [Sem.bind_eq_wrap', Sem.bind_eq_wrap', Sem.wrap_wrap, Sem.wrap_wrap]; refine eE (an h (fun v s' h' => ?_) fun kq kq x => x); refine sx_at ?_; show SegX _ A c (.yield v (gd false) _ _) fs s' P
 rw [hgd]; exact s_yield PG w A c fs P s' v _ _ hfs hfg fun p => h' _ _ p fun s'' P' z => z
theorem sx_func {body : List Stmt} (h : SegX (model PG w) A (.func body env) ((execs body env).wrap (fun f => .pure (.done (.ret (match f with | .ret v => v | _ => .none)))) (fun e => (leaving env e).wrap (fun kq => .raise e) .raise id id) id id) fs s P) :
   SegX (model PG w) A (.func body env) (denote table (.func body env)) fs s P := by
 show SegX _ A _ (.point [] fun kq => ((execs body env).onRaise (leaving env)) >>= _) fs s P
 refine sx_point ?_; rw [Sem.onRaise_eq_wrap, Sem.bind_eq_wrap', Sem.wrap_wrap]
 rw [Sem.wrap_congr (execs body env) _ _ (K' := fun f => .pure (.done (.ret (match f with | .ret v => v | _ => .none))))
   (H' := fun e => (leaving env e).wrap (fun kq => .raise e) .raise id id) (fun f => by cases f <;> rfl)
   (fun e => by rw [Sem.bind_eq_wrap, Sem.wrap_wrap]; rfl)]
 exact h
theorem sx_For {target iter : Expr} {body orelse : List Stmt} {pos : Pos}
   (h : wpAny (model PG w) (A.over c fs) (eval iter env) (fun x s₁ => wpAny (model PG w) (A.over c fs) (pyIter x) (fun it s₂ => ∀ p k, (∀ s' P', SegX (model PG w) A c (K .next) fs s' P' → SegX (model PG w) A c (k (.ok .next)) fs s' P') →
     SegX (model PG w) A (.forLoop target it body orelse env) (denote table (.forLoop target it body orelse env)) (.ret k none (gd false) (lv []) c p [] :: fs) s₂ P) NoE s₁) NoE s)
   (hs : ∀ x, foldedSetIterable iter env x = pure x := by intro _; rfl) : SegX (model PG w) A c ((exec (.For target iter body orelse pos) env).wrap K H gd lv) fs s P := by
 rw [arm_exec_For]; refine bS (wpAny_standAt (bS (an h (fun x s₁ h₁ => ?_) fun kq kq x => x))); refine bS (wpAny_of_eq (hs x) (bS (wpAny_standAt (bS (wpAny_holding (an h₁ (fun it s₂ h₂ => ?_) fun kq kq x => x)))))); exact s_call PG w A c fs P s₂ _ _ _ _ _ fun p => h₂ p _ fun s' P' z => z
theorem jJ {target : Expr} {it : Value} {body orelse : List Stmt}
   (h : wpAny (model PG w) (A.over (.forLoop target it body orelse env) fs) (pyNext it) (fun r s₁ => match r with
     | none => SegX (model PG w) A (.forLoop target it body orelse env) (.pure (.again (.block orelse env))) fs s₁ P
     | some v => wpAny (model PG w) (A.over (.forLoop target it body orelse env) fs) (letOwnedTupleGo target it v) (fun kq s₂ => wpAny (model PG w) (A.over (.forLoop target it body orelse env) fs) (assign target env v) (fun kq s₃ =>
         SegX (model PG w) A (.forLoop target it body orelse env) ((execs body env).wrap (fun f => match f with
           | .next | .cont => .pure (.again (.forLoop target it body orelse env))
           | .brk => .pure (.done .next)
           | .ret v => .pure (.done (.ret v))) (fun e => (do noteFrame e env; theTreesLotGoes e : Sem Unit).wrap (fun kq => .raise e) .raise id id) id id) fs s₃ P) NoE s₂) NoE s₁) NoE s) :
   SegX (model PG w) A (.forLoop target it body orelse env) (denote table (.forLoop target it body orelse env)) fs s P := by
 show SegX _ A _ ((forTurn target it body orelse env).onRaise (fun x => do noteFrame x env; theTreesLotGoes x)) fs s P
 unfold forTurn; rw [Sem.onRaise_eq_wrap]; refine bS (wpAny_standAt (bS (wpAny_onRaise (an h (fun r s₁ h₁ => ?_) fun kq kq x => x.elim)))); cases r with
 | none => exact h₁
 | some v =>
   refine bS (an h₁ (fun kq s₂ h₂ => bS (an h₂ (fun kq s₃ h₃ => ?_) fun kq kq x => x)) fun kq kq x => x); rw [Sem.bind_eq_wrap', Sem.wrap_wrap]; rw [Sem.wrap_congr (execs body env) _ _ (K' := fun f => match f with
           | .next | .cont => .pure (.again (.forLoop target it body orelse env))
           | .brk => .pure (.done .next)
           | .ret v => .pure (.done (.ret v))) (H' := (fun e => (do noteFrame e env; theTreesLotGoes e : Sem Unit).wrap (fun kq => .raise e) .raise id id))
       (fun f => by cases f <;> rfl)
       (fun e => by first | exact Sem.bind_eq_wrap _ _ | (show (do noteFrame e env; theTreesLotGoes e : Sem Unit).bind (fun kq => .raise e) = _; rw [Sem.bind_eq_wrap]))]
   exact h₃
theorem iy {k : Result → Sem Fin} {hd : Option Value} {g : Bool} {l : List Value} {c₁ : Code} {p₁ : Pos} {kp} {c' : Code} (h : SegX (model PG w) A c₁ (k (.ok .next)) fs s P) :
   SegX (model PG w) A c' (.pure (.again (.block [] env))) (.ret k hd g l c₁ p₁ kp :: fs) s P := by
 refine s_again PG w A c' _ P s _ rfl ?_; exact s_pop PG w A _ fs P s (.ok .next) _ rfl k hd g l c₁ p₁ kp h
theorem sx_loop {c : Code} (J : Nat → (End → Shared → Prop) → Shared → Prop) (turn : ∀ n, (∀ m, m < n → ∀ P s, J m P s → SegX (model PG w) A c (denote table c) fs s P) → ∀ P s, J n P s → SegX (model PG w) A c (denote table c) fs s P) :
   ∀ n P s, J n P s → SegX (model PG w) A c (denote table c) fs s P := fun n => Nat.strongRecOn n fun n ih => turn n ih
end
noncomputable def GoX (w : World) (A : Around) (gs : GenState) (s : Shared) (P : End → Shared → Prop) : Prop :=
 match gs with
 | .fresh c => SegX (model PG w) A c (denote table c) [] s P
 | .suspended k _ c _ fs _ => SegX (model PG w) A c (k (.send .none)) fs s P
 | _ => False
theorem fW {w : World} {A : Around} {E : VP} {s : Shared} {g : Nat} {gs : GenState} {l : List Value} {α : Type} {k : GenResult → Sem α} {Q : α → Shared → Prop} {P : End → Shared → Prop} (hg : s.gens[g]? = some gs)
   (hgo : GoX w A gs (s.setGen g .running) P) (h : ∀ e s₁, e.quiet = true → P e s₁ → wpAny (model PG w) A (k e.result) Q E (s₁.setGen g e.genState)) : wpAny (model PG w) A (.resume g (.send .none) l k) Q E s := by
 have up : ∀ {c t fs s}, SegX (model PG w) A c t fs s P → SegX (model PG w) A c t fs s (fun e s₁ => ∀ Γ p, Γ.In A → Sem.wp (model PG w) Γ (k e.result) (fun a kq s' => Q a s') (fun e kq s' => E e s') p (s₁.setGen g e.genState)) := fun x Γ p hc hΓ => by
   refine x23 (x Γ p hc hΓ) fun e s' hr hq hp => ?_; exact ⟨e, s', hr, hq, fun Γ p hΓ => h e s' hq hp Γ p hΓ⟩
 cases gs with
 | running => exact hgo.elim
 | finished => exact hgo.elim
 | fresh c => exact wake_any α PG w hg (.inl ⟨rfl, rfl, rfl, rfl⟩) (fun Γ => Γ.In A) (fun kq h => h) (up hgo)
 | suspended k₀ l₀ c₀ p₀ fs₀ cl => exact wake_any α PG w hg (.inr ⟨k₀, l₀, p₀, cl, rfl, rfl⟩) (fun Γ => Γ.In A) (fun kq h => h) (up hgo)
theorem jk {w : World} {A : Around} {E : VP} {s : Shared} {a : Addr} {g : Nat} {gs : GenState} {Q : Option Value → Shared → Prop} (hh : A.handled = none) (hl : s.heap.NoLimit) (hroom : A.depth < recursionLimit)
   (hg : s.heap.IsGen a g) (hgs : s.gens[g]? = some gs)
   (hgo : GoX w A.in1 gs (s.setGen g .running) (fun e s₁ => match e with
     | .ret r => r = .ok (.ret .none) ∧ ∀ h', (∀ b o, s₁.heap.get? b = some o → h'.get? b = some o) → Q none { s₁.setGen g .finished with heap := h' }
     | .susp v _ _ _ _ _ _ => e.genState.bare = true → Q (some v) (s₁.setGen g e.genState))) :
   wpAny (model PG w) A (pyNext (.ref a)) Q E s := by
 unfold pyNext
 refine aj (wpAny_attempt (wpAny_callSpecial?_slot (name := aa "__next__") hg.typeIs slot_gen_next
   (wpAny_call_entry slot_gen_next hg.typeIs entry_gen_next ?_ (args_gen_next _))))
 show wpAny _ A.in1 (Builtin.Generator.genWake (.ref a) (.send .none)) _ _ s
 unfold Builtin.Generator.genWake; refine aj (wpAny_holding (wpAny_genNumber hg (aj (wpAny_genState hgs ?_)))); cases gs with
 | running => exact hgo.elim
 | finished => exact hgo.elim
 | _ =>
   refine aj (wpAny_roomToWake hl hroom ?_); show wpAny _ A.in1 (.resume g (.send .none) [] _) _ _ s
   refine fW hgs hgo fun e s₁ hq hp => ?_; cases e with
   | ret r =>
     obtain ⟨rfl, hp⟩ := hp; show wpAny _ A.in1 (newExc (.type "StopIteration") [] >>= _) _ _ _
     refine aj ?_; simp only [newExc, newTuple]; refine aj (wpAny_newObj_type ?_ (by size_fits)); refine aj (m := firstArgMember _ _) (wpAny_of_eq (a := Value.none) (by first | rfl | (simp only [firstArgMember]; rfl)) ?_)
     refine wpAny_newObj_type ?_ (by size_fits); simp only [raiseNew]; refine aj (aj (wpAny_handled ?_)); first | rw [show A.in1.handled = none from hh] | rw [hh]
     refine wpAny_throw ?_; refine aj (wpAny_isInstance (T := "StopIteration") (b := true) ⟨_, Heap.get?_push_size _ rfl, rfl⟩ isSubtype_stop ?_); exact wpAny_pure (hp _ fun b o hb => Heap.get?_push_of_some _ (Heap.get?_push_of_some _ hb))
   | susp v g' l k c p fs => exact wpAny_pure ⟨v, rfl, wpAny_pure (hp (End.bare_of_quiet hq))⟩
end
section
open PySem.W.X
noncomputable def dO : List Nat → Nat → Bool → Nat → List (Nat × List Nat)
 | [], _, esc, q => if esc then [(q, [92])] else []
 | c :: r, p, esc, _ => if esc then (p, [92, c]) :: dO r (p + 1) false p else if c = 92 then dO r (p + 1) true p else (p, [c]) :: dO r (p + 1) false p
noncomputable def EscAt (p : Nat) (cs : List Nat) (v : Value) (h : Heap) : Prop := ∃ T t u, v = .ref T ∧ h.IsTuple T #[.int p t, .str ⟨cs.toArray⟩ u]
noncomputable def EscV (out : List (Nat × List Nat)) (i : Nat) (v : Value) (h : Heap) : Prop := ∃ p cs, out[i]? = some (p, cs) ∧ EscAt p cs v h
noncomputable def Same (wr : List Addr) (s s₁ : Shared) : Prop := ∃ h' tk, s₁ = { s with heap := h', toks := tk } ∧ ∀ b o, b ∉ wr → s.heap.get? b = some o → h'.get? b = some o
theorem Same.refl {wr : List Addr} {s : Shared} : Same wr s s := ⟨s.heap, s.toks, rfl, fun kq kq kq e => e⟩
theorem Same.step {wr : List Addr} {s s₁ : Shared} (x : Same wr s s₁) {h' : Heap} {tk : Nat} (k : ∀ b o, b ∉ wr → (∃ o, s.heap.get? b = some o) → s₁.heap.get? b = some o → h'.get? b = some o) : Same wr s { s₁ with heap := h', toks := tk } := by
 obtain ⟨h₁, t₁, rfl, k₁⟩ := x; exact ⟨h', tk, rfl, fun b o hb e => k b o hb ⟨o, e⟩ (k₁ b o hb e)⟩
noncomputable def Agr (l : List Addr) (h h' : Heap) : Prop := ∀ b ∈ l, ∀ o, h.get? b = some o → h'.get? b = some o
noncomputable def PostE (w : World) (A : Around) (fp : List Addr) : List (Nat × List Nat) → List Addr → Shared → End → Shared → Prop
 | [], wr, s₀, e, s₁ => e = .ret (.ok (.ret .none)) ∧ Same wr s₀ s₁
 | (p, cs) :: r, wr, s₀, e, s₁ => (∃ v l k c q fs, e = .susp v false l k c q fs ∧ EscAt p cs v s₁.heap) ∧ Same wr s₀ s₁ ∧
     ∃ wr', (∀ b ∈ wr', b ∈ wr ∨ s₀.heap.get? b = none) ∧ (∀ b ∈ wr', ∃ o, s₁.heap.get? b = some o) ∧ ∀ s'', Agr (wr' ++ fp) s₁.heap s''.heap → GoX w A e.genState s'' (PostE w A fp r wr' s'')
theorem GoX.mono {w : World} {A : Around} {gs : GenState} {s : Shared} {P P' : End → Shared → Prop} (x : GoX w A gs s P) (h : ∀ e s', P e s' → P' e s') : GoX w A gs s P' := by
 cases gs with
 | running => exact x
 | finished => exact x
 | fresh c => exact SegX.mono x h
 | suspended k l c p fs cl => exact SegX.mono x h
theorem b8 {s : Shared} {g j : Nat} {x y : GenState} (e : s.gens[j]? = some x) (h : ¬ j = g) : (s.setGen g y).gens[j]? = some x := by
 simp [Shared.setGen, Ne.symm h, e]
theorem cx {s : Shared} {g : Nat} {y : GenState} (h : AllBare s.gens) (hy : y.bare = true) : AllBare (s.setGen g y).gens := by
 intro z hz; simp only [Shared.setGen] at hz; obtain ⟨i, hi, rfl⟩ := Array.mem_iff_getElem.mp hz; rw [Array.getElem_setIfInBounds (by simpa using hi)]; split
 · exact hy
 exact h _ (Array.getElem_mem (show i < s.gens.size by simpa using hi))
inductive GenSt (w : World) (A : Around) (I : Addr) (g : Nat) (fp : List Addr) (out : List (Nat × List Nat)) (wr : List Addr) (i : Nat) (s : Shared) : Prop
 | mk (h1 : s.heap.IsGen I g) (h2 : s.heap.NoLimit) (h3 : ∀ b ∈ wr, ∃ o, s.heap.get? b = some o) (wx : List Addr) (h4 : wr = I :: wx) (h5 : I ∉ wx) (h6 : cStatics ∉ wx) (gs : GenState) (h7 : s.gens[g]? = some gs) (h8 : ∀ s'' : Shared, Agr (wx ++ fp) s.heap s''.heap → GoX w A.in1 gs s'' (PostE w A.in1 fp (out.drop i) wx s''))
theorem Itr.gen {w : World} {A : Around} {elts : List Expr} {k : Nat} {p : Pos} {I : Addr} {g : Nat} {fp : List Addr} (hh : A.handled = none) (hroom : A.depth < recursionLimit) (hcs : cStatics ∈ fp) (out : List (Nat × List Nat)) :
   Itr w A (.Tuple elts k p) I fp (fun j => j = g) out.length (EscV out) (GenSt w A I g fp out) where
 frame := fun wr i s s' h kf kw kg => by
   obtain ⟨h1, h2, h3, wx, h4, h5, h5', gs, h6, h7⟩ := h; subst h4; refine ⟨by obtain ⟨o, nm, qn, ho, r⟩ := h1; exact ⟨o, nm, qn, kw I (.head _) o ho, r⟩, ?_, fun b hb => by obtain ⟨o, ho⟩ := h3 b hb; exact ⟨o, kw b hb o ho⟩, wx, rfl, h5, h5', gs, kg g gs rfl h6, fun s'' ha => h7 s'' fun b hb o e => ha b hb o ?_⟩
   · refine x12 h2 fun mc hns hnn => ?_; exact ⟨mc, hns.at' fun o e => kf cStatics hcs o e, hnn⟩
   rcases mAp hb with q | q
   · exact kw b (.tail _ q) o e
   exact kf b q o e
 live := fun wr i s h => by cases h; assumption
 item := fun wr i s Q hi hS h => by
   obtain ⟨h1, h2, h3, wx, h4, h5, h5', gs, h6, h7⟩ := hS; subst h4; have hd : out.drop i = out[i] :: out.drop (i + 1) := List.drop_eq_getElem_cons hi; generalize hpc : out[i] = pc at hd; obtain ⟨pp, cs⟩ := pc; rw [hd] at h7; refine jk hh h2 hroom h1 h6 (GoX.mono (h7 _ fun b hb o e => e) fun e s₁ hp => ?_); obtain ⟨⟨v, l, kk, c, q, fs, rfl, hv⟩, ⟨h', tk, rfl, k₁⟩, wr', hwr, hlv, hgo⟩ := hp; intro hb; have hI' : I ∉ wr' := fun q => by
     rcases hwr I q with q | q
     · exact h5 q
     obtain ⟨o, ho⟩ := h3 I (.head _); rw [show (s.setGen g .running).heap = s.heap from rfl, ho] at q; cases q
   have hC' : cStatics ∉ wr' := fun q => by
     rcases hwr _ q with q | q
     · exact h5' q
     obtain ⟨mc, ⟨o, _, _, ho, _⟩, hnn⟩ := h2; rw [show (s.setGen g .running).heap = s.heap from rfl, ho] at q; cases q
   obtain ⟨T, t, u, rfl, hT⟩ := id hv; have hIh : h'.IsGen I g := by obtain ⟨o, nm, qn, ho, r⟩ := h1; exact ⟨o, nm, qn, k₁ I o h5 ho, r⟩
   have hgo' : wpAny (model PG w) A (letOwnedTupleGo (.Tuple elts k p) (.ref I) (.ref T)) (fun kq s₂ => Q (.ref T) s₂) NoE
       (Shared.setGen { s.setGen g .running with heap := h', toks := tk } g (End.susp (.ref T) false l kk c q fs).genState) := by
     have hIh2 := hIh; refine x34 hIh fun o nm qn ho hc hdt hsl => ?_; unfold letOwnedTupleGo; refine aj (wpAny_load ho ?_); rw [hc, hdt]
     show wpAny _ A (if (["enumerate", "zip", "dict_itemiterator", "dict_reverseitemiterator", "odict_iterator", "itertools.zip_longest", "itertools.pairwise"].contains "generator" &&
         (#[.int g 0, nm, qn] : Array Value)[0]? == some (rawInt T)) = true then _ else _) _ _ _
     rw [if_neg (by
       intro hx; rw [show (["enumerate", "zip", "dict_itemiterator", "dict_reverseitemiterator", "odict_iterator", "itertools.zip_longest", "itertools.pairwise"].contains "generator") = false from by decide, Bool.false_and] at hx
       cases hx)]
     refine wpAny_pure (h _ _ (I :: wr') ⟨hIh2, ?_, fun b hb => ?_, wr', rfl, hI', hC', _, setGen_self (gs := .running) (setGen_self h6), fun s'' ha => hgo s'' ha⟩ (fun b hb => ?_) ⟨pp, cs, by rw [ac hi, hpc], hv⟩ ⟨fun b o hb e => k₁ b o (fun q => hb (.tail _ q)) e, fun j x hj e => ?_, rfl, fun hbare => ?_⟩)
     · refine x12 h2 fun mc hns hnn => ?_; exact ⟨mc, hns.at' fun o e => k₁ cStatics o h5' e, hnn⟩
     · rcases mCo hb with rfl | hb
       · exact ⟨o, ho⟩
       exact hlv b hb
     · rcases mCo hb with rfl | hb
       · exact .inl (.head _)
       rcases hwr b hb with q | q
       · exact .inl (.tail _ q)
       exact .inr q
     · exact b8 (b8 e hj) hj
     exact cx (cx hbare rfl) hb
   exact hgo'
 done := fun wr s Q hS h => by
   obtain ⟨h1, h2, h3, wx, h4, h5, h5', gs, h6, h7⟩ := hS; subst h4; rw [List.drop_length] at h7; refine jk hh h2 hroom h1 h6 (GoX.mono (h7 _ fun b hb o e => e) fun e s₁ hp => ?_); obtain ⟨rfl, ⟨h', tk, rfl, k₁⟩⟩ := hp; refine ⟨rfl, fun h'' kk => h _ ⟨fun b o hb e => kk b o (k₁ b o (fun q => hb (.tail _ q)) e), fun j x hj e => ?_, rfl, fun hb => ?_⟩⟩
   · exact b8 (b8 e hj) hj
   exact cx (cx hb rfl) rfl
 self := fun wr i s Q h hQ => by cases h; exact wpAny_pyIter_gen ‹_› hQ
theorem Bd.genPush {w : World} {c : Cx} {γ : Array GenState} {m : Mp} {env : Env} {own : List Addr} {ρ : List VE} {nw : Led} {s : Shared} {h' : Heap} {d : Drawn} {t : Nat} {c' : Code} (B : Bd w c γ m env own ρ nw s) (k : ∀ a o, s.heap.get? a = some o → h'.get? a = some o) :
   Bd w c (s.gens.push (.fresh c')) m env own ρ nw ⟨h', s.gens.push (.fresh c'), d, t, s.os⟩ :=
 ⟨fun a o e => k a o (B.old a o e), fun a o e => k a o (B.ok a o e), B.low, B.gr, B.ble, B.os, rfl, fun i x e => by
   have := B.gpre i x e; rw [← B.gens] at this; have hi : i < s.gens.size := (Array.getElem?_eq_some_iff.mp this).1; rw [Array.getElem?_push_lt hi, ← Array.getElem?_eq_getElem hi]; exact this, AllBare.push (B.gens ▸ B.bare) rfl, B.vars.keep fun a o kq e => k a o e, B.cin, B.caps,
   fun a ha => by obtain ⟨o, ho⟩ := B.ownok a ha; exact ⟨o, k _ _ ho⟩, fun p hp => by obtain ⟨o, ho, q⟩ := B.ledok p hp; exact ⟨o, k _ _ ho, q⟩, B.nodup, B.out⟩
theorem Bd.gnone {w : World} {c : Cx} {γ : Array GenState} {m : Mp} {env : Env} {own : List Addr} {ρ : List VE} {nw : Led} {s : Shared} (B : Bd w c γ m env own ρ nw s) : c.G[s.gens.size]? = none := by
 cases e : c.G[s.gens.size]? with
 | none => rfl
 | some x =>
   have := B.gpre _ x e; rw [← B.gens] at this; exact absurd (Array.getElem?_eq_some_iff.mp this).1 (Nat.lt_irrefl _)
noncomputable def Own (wr : List Addr) (s : Shared) (a : Addr) : Prop := a ∈ wr ∨ s.heap.get? a = none
theorem Own.ne {wr : List Addr} {s : Shared} {a b : Addr} (x : Own wr s a) (hb : b ∉ wr) (l : ∃ o, s.heap.get? b = some o) : b ≠ a := fun e => by
 subst e; rcases x with q | q
 · exact hb q
 obtain ⟨o, ho⟩ := l; rw [q] at ho; cases ho
end
section
open PySem.W.X
section
variable {w : World} {c : Cx} {γ : Array GenState} {m : Mp} {env : Env} {own : List Addr} {ρ ρ' : List VE} {nw nw' : Led} {s s' : Shared} {A : Around} {E : VP}
noncomputable def gE : List Addr := [mainGlobals, builtinsNs, cStatics]
theorem escs_bs {c : Nat} (h : c = 92) (l : List Nat) (i q : Nat) : dO (c :: l) i false q = dO l (i + 1) true i := by
 conv => lhs; unfold dO
 rw [if_neg (by decide), if_pos h]
theorem escs_ch {c : Nat} (h : ¬ c = 92) (l : List Nat) (i q : Nat) : dO (c :: l) i false q = (i, [c]) :: dO l (i + 1) false i := by
 conv => lhs; unfold dO
 rw [if_neg (by decide), if_neg h]
theorem ch92 (c : Nat) : ((⟨#[c]⟩ : Str) == aa "\\" : Bool) = decide (c = 92) := by
 by_cases q : c = 92
 · subst q; decide
 rw [decide_eq_false q]; refine beq_eq_false_iff_ne.mpr fun e => q ?_; have : (⟨#[c]⟩ : Str).cps = (aa "\\").cps := by rw [e]
 have h2 : (aa "\\").cps = #[92] := by decide
 rw [h2] at this; simpa using this
theorem drop_at {a : Array Nat} {i c : Nat} (h : a[i]? = some c) : a.toList.drop i = c :: a.toList.drop (i + 1) := by
 obtain ⟨hl, rfl⟩ := Array.getElem?_eq_some_iff.mp h; rw [List.drop_eq_getElem_cons (by simpa using hl)]; simp
theorem str_draws {z : Str} {ii : Addr} {t : Tok} {h3 : Heap} (hit : h3.IsStrIter ii (strIterType z) z t 0) : ∃ StI : Nat → Heap → Prop, (∀ A' : Around, A'.handled = none → Draws PG w A' ii [ii] z.cps.size (SignAt z) StI) ∧ StI 0 h3 := by
 by_cases ha : z.cps.all (· < 128) = true
 · have e : strIterType z = "str_ascii_iterator" := by unfold strIterType; rw [if_pos ha]
   rw [e] at hit; exact ⟨_, fun A' hA => Draws.strAscii (prog := PG) (w := w) (A := A') hA ii z t, hit⟩
 have e : strIterType z = "str_iterator" := by unfold strIterType; rw [if_neg ha]
 rw [e] at hit; exact ⟨_, fun A' hA => Draws.strWide (prog := PG) (w := w) (A := A') hA ii z t, hit⟩
noncomputable def EnSt (ee ii : Addr) (StI : Nat → Heap → Prop) (i : Nat) (h : Heap) : Prop := (∃ old, IsEnum h ee ii i old) ∧ StI i h
inductive EscJ (w : World) (A : Around) (z : Str) (ee ii L : Addr) (StI : Nat → Heap → Prop) (n : Nat) (P : End → Shared → Prop) (s : Shared) : Prop
 | mk (i : Nat) (b : Bool) (q : Nat) (tq : Tok) (wr : List Addr) (s₀ : Shared) (mp : Str → Option Value) (hn : n = z.cps.size - i) (hi : i ≤ z.cps.size) (hP : P = PostE w A.in1 gE (dO (z.cps.toList.drop i) i b q) wr s₀) (hsame : Same wr s₀ s) (hst : EnSt ee ii StI i s.heap) (hns : s.heap.Ns L mp) (hesc : mp (aa "escape") = some (.bool b)) (hpos : mp (aa "pos") = some (.int (q : Nat) tq)) (oL : Own wr s₀ L) (oe : Own wr s₀ ee) (oi : Own wr s₀ ii)
noncomputable def EnIt (z : Str) (i : Nat) (vals : Array Value) : Prop := ∃ t x, SignAt z i x ∧ vals = #[.int i t, x]
noncomputable def EnMid (ee ii : Addr) (StI : Nat → Heap → Prop) (i : Nat) (T : Addr) (h : Heap) : Prop := (∃ x, IsEnumOut h ee ii ((i : Int) + 1) x T) ∧ StI (i + 1) h ∧ T ≠ ee ∧ T ≠ ii
theorem src_esc {d u : Nat} {z : Str} {t : Tok} {elts : List Expr} {k : Nat} {p : Pos} {Q : VP} (B : Bd w c γ m env own ρ nw s) (R : Rm A (d + 1) u)
   (h : ∀ I s' γ', Bd w c γ' m env own ρ nw s' → Src w A (.Tuple elts k p) c m own nw I (dO z.cps.toList 0 false 0).length (EscV (dO z.cps.toList 0 false 0)) s' → Q (.ref I) s') :
   wpAny (model PG w) A (call (.ref 45) [.str z t]) (fun r s₁ => wpAny (model PG w) A (pyIter r) Q E s₁) E s := by
 have G := B.gr _ B.ok; have kl1 : ∀ {b}, Kn m (Live b) → ∃ o, m b = some o := fun q => (B.kl q).elim fun o q => ⟨o, q.1⟩; refine wpAny_call (codeAny_call_generator (by have := R.depth; exact a2 this) (G.k 45 _ rfl) rfl rfl rfl rfl (codeRec_of G.k rfl) (wpAny_of_eq (a := [(aa "addr", .str z t)]) rfl (wpAny_newFunctionEnv (by decide +kernel) (fun x hx => by rcases mSg hx with rfl; rfl) (fun h' hns hsb => ⟨G.nolim.fresh _ hsb, ?_⟩) rfl)))
 have hfr := B.fresh; generalize hLe : s.heap.objs.size = L at *
 have k1 : ∀ a o, s.heap.get? a = some o → h'.get? a = some o := fun a o e => hsb.extBut a o (Nat.ne_of_lt (hLe ▸ Heap.lt_size e)) (ar _ a o e); generalize hgo : ({ cls := .type "generator", data := .fields #[.int s.gens.size 0, .str (aa "_iter_escaped_chars") (s.toks + [(aa "addr", Value.str z t)].length), .str (aa "_iter_escaped_chars") (s.toks + [(aa "addr", Value.str z t)].length + 1)] } : Obj) = go; have hhz : h'.objs.size = L + 1 := by rw [hsb.1, Heap.size_push, hLe]
 have hI : (h'.push go).IsGen h'.objs.size s.gens.size := ⟨go, _, _, Heap.get?_push_size _ (by rw [← hgo]; rfl), by rw [← hgo], by rw [← hgo], by rw [← hgo]⟩; have hgm := G.g; obtain ⟨mg, hng, hmg⟩ := G.g; obtain ⟨mb, hnb, hmb⟩ := G.b; have ltL : ∀ {b : Addr} {o : Obj}, s.heap.get? b = some o → b ≠ L := fun e q => by
   have := Heap.lt_size e; rw [hLe, q] at this; exact Nat.lt_irrefl _ this
 have nLG : mainGlobals ≠ L := (cp hng).elim fun kq => ltL; have nLB : builtinsNs ≠ L := (cp hnb).elim fun kq => ltL; have nLC : cStatics ≠ L := G.nolim.elim fun kq q => (cp q.1).elim fun kq => ltL; have hng2 : (h'.push go).Ns mainGlobals mg := hng.keeps fun b o e => ar _ _ _ (k1 b o e); have hnb2 : (h'.push go).Ns builtinsNs mb := hnb.keeps fun b o e => ar _ _ _ (k1 b o e); have hns2 : (h'.push go).Ns L _ := hns.push go; refine wpAny_pyIter_gen hI (h _ _ _ (B.genPush fun a o e => ar _ _ _ (k1 a o e)) ⟨gE, _, _, [h'.objs.size, L], Itr.gen R.handled (by have := R.depth; exact a2 this) (by simp [gE]) (dO z.cps.toList 0 false 0), ?_, fun j hj => by subst hj; exact B.gnone, ⟨hI, (G.nolim.keeps k1).push go, ?_, [L], rfl, ?_, ?_, _, Array.getElem?_push_size, ?_⟩, B.privOf fun b hb => ?_⟩)
 · exact al2 (P := fun b => ∃ o, m b = some o) (kl1 (B.gr.map fun h G => G.g.elim fun kq q => cp q.1)) (al2 (kl1 (B.gr.map fun h G => G.b.elim fun kq q => cp q.1)) (al1 (kl1 (B.gr.map fun h G => G.nolim.elim fun kq q => cp q.1))))
 · exact al2 (P := fun b => ∃ o, (h'.push go).get? b = some o) (by obtain ⟨o, _, _, ho, _⟩ := hI; exact ⟨o, ho⟩) (al1 (cp hns2))
 · intro hb; have := mSg hb; rw [hhz] at this; exact absurd this (Nat.succ_ne_self L)
 · intro hb; exact nLC (mSg hb)
 · intro s2 hag; show SegX (model PG w) A.in1 (.func _ _) (denote table (.func _ _)) [] s2 _
   have hnL : s2.heap.Ns L _ := hns2.at' fun o e => hag L (by simp) o e; have hnG : s2.heap.Ns mainGlobals mg := hng2.at' fun o e => hag _ (by simp [gE]) o e; have hnB : s2.heap.Ns builtinsNs mb := hnb2.at' fun o e => hag _ (by simp [gE]) o e; clear hag h; refine sx_func (bR (f0 (wpAny_Assign_Name (wpAny_Constant_int (wpAny_storeName_local rfl hnL (fun h1 hn1 hs1 => ?_) rfl))))); refine bR (f0 (wpAny_Assign_Name (wpAny_Constant_bool (wpAny_storeName_local rfl hn1 (fun h2 hn2 hs2 => ?_) rfl)))); refine bR (sx_For ?_); have low : ∀ b o, b ≠ L → s2.heap.get? b = some o → h2.get? b = some o := fun b o hb e => hs2.extBut b o hb (hs1.extBut b o hb e); refine Call_ (Name_function_global rfl rfl (loadGlobal_builtin (hnG.at' fun o e => low _ o nLG e) (hmg (aa "enumerate") _ rfl) (hnB.at' fun o e => low _ o nLB e) ((hmb (aa "enumerate") (by decide)).trans rfl) ?_) rfl); refine callWith_type1 (spliced_more (wpAny_Name (wpAny_loadName_local rfl rfl hn2 (v := .str z t) rfl (spliced_none ?_)) rfl)); refine call_enumerate_str fun h3 he hit hz3 hk3 => wpAny_pyIter_enum he ?_; intro p4 k4 hk4; generalize hee : h2.objs.size + 1 = ee at he hz3 ⊢; generalize hii : h2.objs.size = ii at he hit hz3 hee ⊢; have hei : @Ne Addr ee ii := fK (a323 hee); obtain ⟨StI, hD, hst0⟩ := str_draws (w := w) hit; have U : ∀ A' : Around, A'.handled = none → WalksU PG w A' ee (ee :: [ii]) [ee, ii] z.cps.size (EnIt z) (EnSt ee ii StI) (EnMid ee ii StI) := fun A' hA => (WalksT.enumerateD (hD A'.in1 hA) ee hei (by simpa using hei) (by simp)).toU; have hLs := cp hnL; have hsz : h2.objs.size = s2.heap.objs.size := by rw [hs2.1, hs1.1]
   have none_of : ∀ b : Addr, s2.heap.objs.size ≤ b → s2.heap.get? b = none := fun b hb => by
     cases e : s2.heap.get? b with
     | none => rfl
     | some o => exact absurd (Heap.lt_size e) (Nat.not_lt.mpr hb)
   have hLe' : @Ne Addr L ee := fun e => by
     obtain ⟨o, ho⟩ := hLs; have := none_of ee (by rw [← hsz, hii, ← hee]; exact Nat.le_add_right _ _); rw [← e, ho] at this; cases this
   have hLi' : @Ne Addr L ii := fun e => by
     obtain ⟨o, ho⟩ := hLs; have := none_of ii (by rw [← hsz, hii]; exact Nat.le_refl _); rw [← e, ho] at this; cases this
   refine sx_loop (EscJ w A z ee ii L StI) ?_ z.cps.size _ _ ?_; rotate_left
   · refine ⟨0, false, 0, _, [L], s2, _, (Nat.sub_zero _).symm, Nat.zero_le _, rfl, ?_, ⟨⟨_, he⟩, hst0⟩, hn2.keeps hk3, rfl, rfl, .inl (.head _), .inr (none_of _ ?_), .inr (none_of _ ?_)⟩
     · exact ⟨_, _, rfl, fun b o hb e => hk3 b o (low b o (fun q => hb (by simp [q])) e)⟩
     · rw [← hsz, hii, ← hee]; exact Nat.le_add_right _ _
     rw [← hsz, hii]; exact Nat.le_refl _
   rintro n ih P sx ⟨i, b, q, tq, wr, s₀, mp, hn, hi, rfl, hsame, hst, hnx, hesc, hpos, oL, oe, oi⟩; refine jJ ?_; by_cases hlt : i < z.cps.size
   · refine (U _ (by exact R.handled)).item i sx _ _ hlt hst fun T vals h5 tk5 hP hT hm kk5 => (U _ (by exact R.handled)).go _ _ _ i T _ _ _ hm fun h6 hst6 kk6 => ?_; obtain ⟨tt, x, ⟨cc, ux, hcc, rfl⟩, rfl⟩ := hP; have hTw : T ∉ [ee, ii] := fun hm' => (U A R.handled).apart _ _ _ hm hm'; have hT6 : h6.IsTuple T _ := hT.at fun o e => kk6 T o hTw e; refine wpAny_assign_Tuple (by exact R.handled) hT6 rfl rfl fun h7 he7 => ?_; have hLw : L ∉ [ee, ii] := by simp [hLe', hLi']
     have k7 : ∀ b o, b ∉ [ee, ii] → sx.heap.get? b = some o → h7.get? b = some o := fun b o hb e => by
       have e6 := kk6 b o hb (kk5 b o hb e); exact he7 b o (Nat.ne_of_lt (Heap.lt_size e6)) e6
     have hst7 : EnSt ee ii StI (i + 1) h7 := by
       refine (U A R.handled).frame _ _ _ hst6 fun b hb o e => he7 b o (Nat.ne_of_lt (Heap.lt_size e)) e
     have hn7 : h7.Ns L mp := hnx.at' fun o e => k7 L o hLw e; refine al (ag (wpAny_storeName_local rfl hn7 (fun h8 hn8 hs8 => ?_) rfl)); refine al (ag (wpAny_storeName_local rfl hn8 (fun h9 hn9 hs9 => assignInOrder_nil ?_) rfl)); have k9 : ∀ b o, b ∉ [ee, ii] → b ≠ L → sx.heap.get? b = some o → h9.get? b = some o := fun b o hb hbL e => hs9.extBut b o hbL (hs8.extBut b o hbL (k7 b o hb e)); have kst : ∀ {h h' : Heap}, (∀ b o, b ≠ L → h.get? b = some o → h'.get? b = some o) → EnSt ee ii StI (i + 1) h → EnSt ee ii StI (i + 1) h' := fun hk st => (U A R.handled).frame _ _ _ st fun b hb o e => hk b o (al2 (P := fun b => b ≠ L) (Ne.symm hLe') (al1 (Ne.symm hLi')) b hb) e; have hst9 := kst (fun b o hb e => hs9.extBut b o hb (hs8.extBut b o hb e)) hst7; have same9 : ∀ h' tk', (∀ b o, b ≠ L → h9.get? b = some o → h'.get? b = some o) → Same wr s₀ { sx with heap := h', toks := tk' } := fun h' tk' hk => hsame.step fun b o hb hl e => hk b o (oL.ne hb hl) (k9 b o (by simp; exact ⟨oe.ne hb hl, oi.ne hb hl⟩) (oL.ne hb hl) e)
     rw [drop_at hcc]; have hesc9 : (fun y => if y = aa "ch" then some (Value.str ⟨#[cc]⟩ ux) else if y = aa "pos" then some (Value.int i tt) else mp y) (aa "escape") = some (.bool b) := hesc
     have hpos9 : (fun y => if y = aa "ch" then some (Value.str ⟨#[cc]⟩ ux) else if y = aa "pos" then some (Value.int i tt) else mp y) (aa "pos") = some (.int i tt) := rfl
     have hch9 : (fun y => if y = aa "ch" then some (Value.str ⟨#[cc]⟩ ux) else if y = aa "pos" then some (Value.int i tt) else mp y) (aa "ch") = some (.str ⟨#[cc]⟩ ux) := rfl
     generalize hF9 : (fun y => if y = aa "ch" then some (Value.str ⟨#[cc]⟩ ux) else if y = aa "pos" then some (Value.int i tt) else mp y) = F9 at hn9 hesc9 hpos9 hch9
     have yfin : ∀ (cs : List Nat) (r : List (Nat × List Nat)) (T' : Addr) (t' u' : Tok) (h10 : Heap) (tk10 : Nat) (l : List Value) (kk : Resume → Sem Fin) (c : Code) (p : Pos) (fs : List Frame), (∀ b o, h9.get? b = some o → h10.get? b = some o) → h10.IsTuple T' #[.int i t', .str ⟨cs.toArray⟩ u'] →
         (∀ s'', Agr ([L, ee, ii] ++ gE) h10 s''.heap → SegX (model PG w) A.in1 c (kk (.send .none)) fs s'' (PostE w A.in1 gE r [L, ee, ii] s'')) →
         PostE w A.in1 gE ((i, cs) :: r) wr s₀ (.susp (.ref T') false l kk c p fs) { sx with heap := h10, toks := tk10 } := fun cs r T' t' u' h10 tk10 l kk c p fs hk10 hT' hc => by
       exact ⟨⟨_, l, kk, c, p, fs, rfl, T', t', u', rfl, hT'⟩, same9 _ _ fun b o kq e => hk10 b o e, [L, ee, ii], al2 oL (al2 oe (al1 oi)), al2 (P := fun b => ∃ o, h10.get? b = some o) ((cp hn9).imp fun kq => hk10 _ _) (al2 (hst9.1.elim fun kq e => ⟨_, hk10 _ _ e⟩) (al1 (((hD A R.handled).live _ _ hst9.2).imp fun kq => hk10 _ _))), hc⟩
     have stA : ∀ {h10 h11 : Heap}, (∀ b o, h9.get? b = some o → h10.get? b = some o) → Agr ([L, ee, ii] ++ gE) h10 h11 → EnSt ee ii StI (i + 1) h11 ∧ h11.Ns L F9 := fun hk ha =>
       ⟨(U A R.handled).frame _ _ _ hst9 fun b hb o e => ha b (List.mem_append.mpr (.inl (.tail _ hb))) o (hk b o e), hn9.at' fun o e => ha L (by simp) o (hk L o e)⟩
     refine bR (sx_If (isTrue_plain (wpAny_Name (wpAny_loadName_local rfl rfl hn9 hesc9 (wpAny_truthy_bool ?_)) rfl))); refine br (fun hb => ?_) (fun hb => ?_)
     · subst hb; refine bR (ga rfl rfl rfl ?_ rfl); refine Tuple_ (spliced_more (wpAny_Name (wpAny_loadName_local rfl rfl hn9 hpos9 ?_) rfl)); refine spliced_more (wpAny_BinOp (Calls.Constant_str (wpAny_Name (wpAny_loadName_local rfl rfl hn9 hch9 ?_) rfl))); refine PyProof.Rows.add_str (fun t' k' => spliced_none (wpAny_newTuple ?_ (by show 2 ≤ sizeLine; decide))) (by show 1 + 1 ≤ _; decide)
       intro l kk p' hkk; refine yfin [92, cc] (dO (z.cps.toList.drop (i + 1)) (i + 1) false i) _ _ _ _ _ l kk _ p' _ (ar _) ⟨_, Heap.get?_push_size _ rfl, rfl, _, rfl⟩ fun s'' ha => hkk s'' _ ?_; obtain ⟨stX, nsX⟩ := stA (ar _) ha; refine bR (f0 (wpAny_Assign_Name (wpAny_Constant_bool (wpAny_storeName_local rfl nsX (fun hX hnX hsX => sx_nil (s_again PG w A.in1 _ _ _ _ _ rfl (ih _ ?_ _ _ ⟨i + 1, false, i, tt, [L, ee, ii], s'', _, rfl, hlt, rfl, ⟨hX, _, rfl, fun b o hb e => hsX.extBut b o (by simp at hb; exact hb.1) e⟩, kst (fun b o hb e => hsX.extBut b o hb e) stX, hnX, ?_, ?_, .inl (.head _), .inl (by simp), .inl (by simp)⟩))) rfl))))
       · exact a14 hn hlt
       · rfl
       exact hpos9
     subst hb; refine bR (sx_If (wpAny_isTrue_Compare1 (wpAny_Name (wpAny_loadName_local rfl rfl hn9 hch9 (Calls.Constant_str (PyProof.Rows.eq_str ?_))) rfl))); refine wpAny_truthy_bool ?_; rw [ch92]; refine br (fun hb => ?_) (fun hb => ?_)
     · have hq : cc = 92 := of_decide_eq_true hb; rw [escs_bs hq]; refine bR (f0 (wpAny_Assign_Name (wpAny_Constant_bool (wpAny_storeName_local rfl hn9 (fun hX hnX hsX => sx_nil (s_again PG w A.in1 _ _ _ _ _ rfl (ih _ ?_ _ _ ⟨i + 1, true, i, tt, wr, s₀, _, rfl, hlt, rfl, same9 _ _ (fun b o hb e => hsX.extBut b o hb e), kst (fun b o hb e => hsX.extBut b o hb e) hst9, hnX, ?_, ?_, oL, oe, oi⟩))) rfl))))
       · exact a14 hn hlt
       · rfl
       exact hpos9
     have hq : ¬ cc = 92 := of_decide_eq_false hb; rw [escs_ch hq]; refine bR (ga rfl rfl rfl ?_ rfl); refine Tuple_ (spliced_more (wpAny_Name (wpAny_loadName_local rfl rfl hn9 hpos9 ?_) rfl)); refine spliced_more (wpAny_Name (wpAny_loadName_local rfl rfl hn9 hch9 ?_) rfl); refine spliced_none (wpAny_newTuple ?_ (by show 2 ≤ sizeLine; decide))
     intro l kk p' hkk; refine yfin [cc] (dO (z.cps.toList.drop (i + 1)) (i + 1) false i) _ _ _ _ _ l kk _ p' _ (ar _) ⟨_, Heap.get?_push_size _ rfl, rfl, _, rfl⟩ fun s'' ha => hkk s'' _ ?_; obtain ⟨stX, nsX⟩ := stA (ar _) ha; refine s_again PG w A.in1 _ _ _ _ _ rfl (ih _ ?_ _ _ ⟨i + 1, false, i, tt, [L, ee, ii], s'', _, rfl, hlt, rfl, .refl, stX, nsX, hesc9, hpos9, .inl (.head _), .inl (by simp), .inl (by simp)⟩); exact a14 hn hlt
   have hin : i = z.cps.size := a13 hi hlt
   subst hin; have hd0 : z.cps.toList.drop z.cps.size = [] := by simp
   rw [hd0]; refine (U _ (by exact R.handled)).done sx _ _ hst fun h5 tk5 kk5 => ?_; have hLw : L ∉ [ee, ii] := by simp [hLe', hLi']
   have hn5 : h5.Ns L mp := hnx.at' fun o e => kk5 L o hLw e; have same5 : ∀ h' tk', (∀ b o, h5.get? b = some o → h'.get? b = some o) → Same wr s₀ { sx with heap := h', toks := tk' } := fun h' tk' hk => hsame.step fun b o hb hl e => hk b o (kk5 b o (by simp; exact ⟨oe.ne hb hl, oi.ne hb hl⟩) e)
   refine iy (hk4 _ _ ?_); refine bR (sx_If (isTrue_plain (wpAny_Name (wpAny_loadName_local rfl rfl hn5 hesc (wpAny_truthy_bool ?_)) rfl))); refine br (fun hb => ?_) (fun hb => ?_)
   · subst hb; refine bR (ga rfl rfl rfl ?_ rfl); refine Tuple_ (spliced_more (wpAny_Name (wpAny_loadName_local rfl rfl hn5 hpos ?_) rfl)); refine spliced_more (Calls.Constant_str ?_); refine spliced_none (wpAny_newTuple ?_ (by show 2 ≤ sizeLine; decide))
     intro l kk p' hkk; refine ⟨⟨_, l, kk, _, p', _, rfl, _, _, _, rfl, ⟨_, Heap.get?_push_size _ rfl, rfl, _, rfl⟩⟩, same5 _ _ (ar _), [L], al1 oL, al1 ((cp hn5).imp fun kq => ar _ _ _), fun s'' ha => hkk s'' _ ?_⟩; exact s_end PG w A.in1 _ _ _ (.ok (.ret .none)) _ rfl ⟨rfl, .refl⟩
   subst hb; exact s_end PG w A.in1 _ _ _ (.ok (.ret .none)) _ rfl ⟨rfl, same5 _ _ fun kq kq e => e⟩
 rcases mCo hb with rfl | hb
 · rw [hLe, hhz]; exact Nat.le_succ L
 rcases mSg hb with rfl
 exact Nat.le_of_eq hLe
end
end
section
section
variable {w : World}
theorem cps_eq {x : Array Nat} {y : Str} : ((⟨x⟩ : Str) == y) = (x == y.cps) := by
 cases y with
 | mk y =>
   by_cases q : x = y
   · subst q; simp
   rw [beq_eq_false_iff_ne.mpr q]; exact beq_eq_false_iff_ne.mpr fun e => q (by injection e)
noncomputable abbrev SSt := Nat × Option Nat × List Str
noncomputable def aN (z : Str) (st : SSt) (it : Nat × List Nat) : SSt :=
 if it.2 = [34] then match st.2.1 with
   | none => (st.1, some it.1, st.2.2)
   | some o => (it.1 + 1, none, if st.1 ≠ o then st.2.2 ++ [Txt.slice z (some st.1) (some o)] else st.2.2)
 else st
theorem eM (z : Str) : ∀ (l : List (Nat × List Nat)) (st : SSt), (l.foldl (aN z) st).2.2.length ≤ st.2.2.length + l.length
 | [], st => by simp
 | it :: l, st => by
   rw [List.foldl_cons]; have h1 := eM z l (aN z st it); have h2 : (aN z st it).2.2.length ≤ st.2.2.length + 1 := by
     unfold aN; split
     · split
       · simp
       simp only; split <;> simp
     simp
   rw [List.length_cons]; exact a272 h1 h2
theorem ja (z : Str) : ∀ (l : List (Nat × List Nat)) (st : SSt), (∀ x ∈ st.2.2, x.length ≤ z.length) → ∀ x ∈ (l.foldl (aN z) st).2.2, x.length ≤ z.length
 | [], st, h => h
 | it :: l, st, h => by
   rw [List.foldl_cons]; refine ja z l (aN z st it) fun x hx => ?_; unfold aN at hx; split at hx
   · split at hx
     · exact h x hx
     simp only at hx; split at hx
     · rcases mAp hx with hx | hx
       · exact h x hx
       rcases mSg hx with rfl; exact Txt.slice_le _ _ _
     exact h x hx
   exact h x hx
theorem ew : ∀ (l : List Nat) (p : Nat) (b : Bool) (q : Nat), (dO l p b q).length ≤ l.length + 1
 | [], p, b, q => by unfold dO; split <;> simp
 | c :: r, p, b, q => by
   unfold dO; have h1 := ew r (p + 1) false p; have h2 := ew r (p + 1) true p; split
   · simp; exact h1
   split
   · simp; exact a271 h2
   simp; exact h1
noncomputable def hasQ (z : Str) : Bool := !(Builtin.Str.occurrences z (aa "\"") 0 z.length 1).isEmpty
noncomputable def bq (z : Str) : List (Nat × List Nat) := dO z.cps.toList 0 false 0
noncomputable def dm (z : Str) (st : SSt) : Str := Txt.join (aa "") (if st.1 < z.length then st.2.2 ++ [Txt.slice z (some st.1) none] else st.2.2)
noncomputable def bN (z : Str) : Str := if hasQ z then dm z ((bq z).foldl (aN z) (0, none, [])) else z
theorem iY {z : Str} (hz : z.length ≤ 1000) {A : Around} {m : Mp} {s : Shared} {t : Tok} {Q E : VP} (hR : Rm A 3 10) (b : Bef w m s)
   (h : ∀ t m' s', Aft [] m s m' s' → Q (.str (bN z) t) s') :
   wpAny (model PG w) A (call (.ref 52) [.str z t]) Q E s := by
 refine dK (d := 2) (u := 7) (nw := []) (ns := ["addr", "start", "open_pos", "result", "pos", "ch"]) (ρ₀ := [⟨"addr", none, some (.str z t)⟩, ⟨"start", none, none⟩, ⟨"open_pos", none, none⟩, ⟨"result", none, none⟩, ⟨"pos", none, none⟩, ⟨"ch", none, none⟩]) hR b .nil rfl rfl rfl rfl rfl rfl rfl rfl rfl rfl (by decide +kernel) (by rfl) (by decide +kernel) (by decide +kernel) rfl ?_; intro A env L c s' hE hR' hc B hL; ktf_call "opq"; ktf_call "sts"; refine br (fun hb => ?_) (fun hb => ?_)
 · ktf_call "sts"; have e : bN z = z := by unfold bN; rw [if_neg]; unfold hasQ; simpa using hb
   have := h t m _ (B.done hc .nil av); rw [e] at this; ktf_call "qs"; exact this
 ktf_call "sts"; ktf_call "nL"; intro r s B; ktf_call "sts"; apply src_esc B hR'; intro I s γ' B T
 refine fg (x₀ := []) (fun vs => [(r, au vs)]) B T ["start", "open_pos", "pos", "ch"] (fun i m' ρ vs => ∃ (ts : Tok) (vo : Value), (⟨"start", none, some (.int (((bq z).take i).foldl (aN z) (0, none, [])).1 ts)⟩ : VE) ∈ ρ ∧ (⟨"open_pos", none, some vo⟩ : VE) ∈ ρ ∧
   StrsAre vs (((bq z).take i).foldl (aN z) (0, none, [])).2.2 ∧ (match (((bq z).take i).foldl (aN z) (0, none, [])).2.1 with | none => vo = .none | some o => ∃ t, vo = .int (o : Nat) t)) ?_ ?_ ?_
 · exact ⟨_, _, by ktf_call "mem", by ktf_call "mem", .nil, rfl⟩
 · clear B T; rintro i v c1 γ1 m1 ρ s vs hi how ⟨ts, vo, rm1, rm2, hvs, hvo⟩ hm hv B hback Qb hN hB hQ; obtain ⟨p, cs, hpc, T, tp, tc, rfl, hT⟩ := hv; have hst : ((bq z).take (i + 1)).foldl (aN z) (0, none, []) = aN z (((bq z).take i).foldl (aN z) (0, none, [])) (p, cs) := by
     rw [List.take_add_one, show (bq z)[i]? = some (p, cs) from hpc]
     simp
   have hlen : vs.length ≤ sizeLine := by
     have h1 := ax hvs; have h2 := eM z ((bq z).take i) (0, none, []); have h3 := ew z.cps.toList 0 false 0; have h4 : ((bq z).take i).length ≤ (bq z).length := by rw [List.length_take]; exact Nat.min_le_right _ _
     have h5 : z.cps.toList.length = z.length := by simp [Str.length]
     rw [sizeLine_eq]; unfold bq at *
     simp only [List.length_nil] at h2; exact a270 hz h1 h2 h3 h4 h5
   generalize hS : ((bq z).take i).foldl (aN z) (0, none, []) = S at *
   obtain ⟨st, op, acc⟩ := S; refine bA B hR'.handled hT rfl rfl ?_; clear B; intro s B; refine al (ag ?_); ktf_call "st"; refine al (ag ?_); ktf_call "st"; refine assignInOrder_nil ?_; ktf_call "sts"; rw [cps_eq, show (aa "\"").cps = [34].toArray from by decide]
   have hcs : (cs.toArray == [34].toArray) = decide (cs = [34]) := by
     by_cases q : cs = [34]
     · subst q; rfl
     rw [decide_eq_false q]; refine beq_eq_false_iff_ne.mpr fun e => q (by simpa using congrArg Array.toList e)
   rw [hcs]; refine br (fun hb => ?_) (fun hb => ?_)
   · have hq : cs = [34] := of_decide_eq_true hb; cases op with
     | none =>
       simp only at hvo; subst hvo; ktf_call "sts"; refine bZ rfl ?_; ktf_call "sts"; have e : aN z (st, none, acc) (p, cs) = (st, some p, acc) := by unfold aN; rw [if_pos hq]
       rw [e] at hst; ktf_call "qs"; exact hN _ m1 _ _ vs (by ktf_call "ow") ⟨ts, _, by rw [hst]; ktf_call "mem", by ktf_call "mem", by rw [hst]; exact hvs, by rw [hst]; exact ⟨_, rfl⟩⟩ .rfl B
     | some o =>
       obtain ⟨to, hvo⟩ := hvo; subst hvo; ktf_call "sts"; refine aY rfl ?_; ktf_call "sts"; refine br (fun hne => ?_) (fun hne => ?_)
       · have hne1 : ¬((st : Int) = (o : Int)) := by simpa using hne
         have hne' : st ≠ o := a269 hne1
         ktf_call "sts"; refine cy B (.int _ _) (.int _ _) ?_ (szl (a97 hz)); clear B; intro tx s B; ktf_call "sts"; refine bH B .head hlen ?_; clear B; intro s B; ktf_call "sts"; have e : aN z (st, some o, acc) (p, cs) = (p + 1, none, acc ++ [Txt.slice z (some (st : Int)) (some (o : Int))]) := by unfold aN; rw [if_pos hq]; simp only; rw [if_pos hne']
         rw [e] at hst; ktf_call "qs"; exact hN _ m1 _ _ _ (by ktf_call "ow") ⟨_, _, by rw [hst]; ktf_call "mem", by ktf_call "mem", by rw [hst]; exact bG hvs (.cons _ _ .nil), by rw [hst]⟩ .rfl B
       have hne1 : ((st : Int) = (o : Int)) := by simpa using hne
       have hne' : ¬ st ≠ o := a268 hne1
       ktf_call "sts"; have e : aN z (st, some o, acc) (p, cs) = (p + 1, none, acc) := by unfold aN; rw [if_pos hq]; simp only; rw [if_neg hne']
       rw [e] at hst; ktf_call "qs"; exact hN _ m1 _ _ _ (by ktf_call "ow") ⟨_, _, by rw [hst]; ktf_call "mem", by ktf_call "mem", by rw [hst]; exact hvs, by rw [hst]⟩ .rfl B
   have hq : ¬ cs = [34] := of_decide_eq_false hb; ktf_call "sts"; have e : aN z (st, op, acc) (p, cs) = (st, op, acc) := by unfold aN; rw [if_neg hq]
   rw [e] at hst; ktf_call "qs"; exact hN _ m1 _ _ vs (by ktf_call "ow") ⟨ts, vo, by rw [hst]; ktf_call "mem", by ktf_call "mem", by rw [hst]; exact hvs, by rw [hst]; exact hvo⟩ .rfl B
 clear B T; rintro γ1 m1 ρ s vs how ⟨ts, vo, rm1, rm2, hvs, hvo⟩ hm B; have htk : (bq z).take (dO z.cps.toList 0 false 0).length = bq z := List.take_length; rw [htk] at rm1 hvs; have hsp : bN z = dm z ((bq z).foldl (aN z) (0, none, [])) := by unfold bN; rw [if_pos]; unfold hasQ; simpa using hb
 have hfl := eM z (bq z) (0, none, []); have hel := ew z.cps.toList 0 false 0; have hbd := ja z (bq z) (0, none, []) (by simp); have h5 : z.cps.toList.length = z.length := by simp [Str.length]
 generalize hS : (bq z).foldl (aN z) (0, none, []) = S at *
 obtain ⟨st, op, acc⟩ := S; simp only [List.length_nil] at hfl; unfold bq at hfl; have hsum : ∀ l : List Str, (∀ x ∈ l, x.length ≤ z.length) → (l.map (·.length)).sum ≤ l.length * z.length := by
   intro l; induction l with
   | nil => intro _; simp
   | cons x r ih =>
     intro hx; have := ih fun y hy => hx y (.tail _ hy); have := hx x (.head _); simp only [ai, List.sum_cons, List.length_cons, Nat.succ_mul]; exact a150 (by assumption) this
 have hmul : ∀ n : Nat, n ≤ 1002 → n * z.length ≤ 1002 * 1000 := fun n hn => Nat.mul_le_mul hn hz; ktf_call "sts"; refine s_len B (szl (a97 hz)) ?_; clear B; intro t1 s B; ktf_call "sts"; refine br (fun hb2 => ?_) (fun hb2 => ?_)
 · have hb3 : st < z.length := by have : ((st : Int) < (z.length : Int)) := (by simpa using hb2); exact a267 this
   ktf_call "sts"; refine cy B (.int _ _) .none ?_ (szl (a97 hz)); clear B; intro tx s B; ktf_call "sts"; refine bH B .head (by rw [ax hvs, sizeLine_eq]; simp only; exact a266 hz hel h5 hfl) ?_; clear B; intro s B; ktf_call "sts"; refine dp B (B.at (.head _)) (bG hvs (.cons _ _ .nil)) ?_ ?_
   · have := hsum (acc ++ [Txt.slice z (some st) none]) (fun x hx => by
       rcases mAp hx with hx | hx
       · ktf_call "qs"; exact hbd x hx
       rcases mSg hx with rfl; exact Txt.slice_le _ _ _)
     have h7 := hmul (acc ++ [Txt.slice z (some st) none]).length (by simp; exact a265 hz hel h5 hfl); rw [show (aa "").length = 0 from by decide, Nat.mul_zero, Nat.add_zero]
     ktf_call "qs"; exact ae this (ae h7 (by decide))
   clear B; intro t2 s B; have := h t2 m1 _ (B.done hc .nil av); rw [hsp] at this; unfold dm at this; simp only at this; rw [if_pos hb3] at this; ktf_call "qs"; exact this
 have hb3 : ¬ st < z.length := by have : ¬ ((st : Int) < (z.length : Int)) := (by simpa using hb2); exact a264 this
 ktf_call "sts"; refine dp B (B.at (.head _)) hvs ?_ ?_
 · have := hsum acc hbd; have h7 := hmul acc.length (a263 hz hel h5 hfl); rw [show (aa "").length = 0 from by decide, Nat.mul_zero, Nat.add_zero]
   ktf_call "qs"; exact ae this (ae h7 (by decide))
 clear B; intro t2 s B; have := h t2 m1 _ (B.done hc .nil av); rw [hsp] at this; unfold dm at this; simp only at this; rw [if_neg hb3] at this; ktf_call "qs"; exact this
end
end
section
section
variable {w : World}
noncomputable def cE (st : Option Int) (it : Nat × List Nat) : Option Int :=
 match st with
 | none => none
 | some n => if it.2 = [40] then some (n + 1) else if it.2 = [41] then (if n - 1 < 0 then none else some (n - 1)) else some n
noncomputable def chk (z : Str) : Bool := match (bq (bN z)).foldl cE (some 0) with | none => false | some n => n == 0
theorem fU : ∀ l : List (Nat × List Nat), l.foldl cE none = none
 | [] => rfl
 | _ :: l => fU l
theorem cps_dec (cs : List Nat) (y : Str) (k : Nat) (hy : y.cps = [k].toArray) : ((⟨cs.toArray⟩ : Str) == y) = decide (cs = [k]) := by
 rw [cps_eq, hy]; by_cases q : cs = [k]
 · subst q; rw [decide_eq_true rfl]; simp
 rw [decide_eq_false q]; refine beq_eq_false_iff_ne.mpr fun e => q (by simpa using congrArg Array.toList e)
theorem iZ {z : Str} (hz : z.length ≤ 1000) {A : Around} {m : Mp} {s : Shared} {t : Tok} {Q E : VP} (hR : Rm A 4 13) (b : Bef w m s)
   (h : ∀ m' s', Aft [] m s m' s' → Q (.bool (chk z)) s') :
   wpAny (model PG w) A (call (.ref 59) [.str z t]) Q E s := by
 refine dK (d := 3) (u := 10) (nw := []) (ns := ["addr", "opens", "pos", "ch"]) (ρ₀ := [⟨"addr", none, some (.str z t)⟩, ⟨"opens", none, none⟩, ⟨"pos", none, none⟩, ⟨"ch", none, none⟩]) hR b .nil rfl rfl rfl rfl rfl rfl rfl rfl rfl rfl (by decide +kernel) (by rfl) (by decide +kernel) (by decide +kernel) rfl ?_; intro A env L c s' hE hR' hc B hL; ktf_call "opq"; ktf_call "sts"; refine iY hz hR' B.bef ?_; intro t1 m1 s1 f1; replace B := B.aft f1; ktf_call "sts"; apply src_esc B hR'; intro I s γ' B T; refine cD B T ["opens", "pos", "ch"] (fun i m' ρ => ∃ (n : Int) (tn : Tok), (⟨"opens", none, some (.int n tn)⟩ : VE) ∈ ρ ∧ ((bq (bN z)).take i).foldl cE (some 0) = some n) ⟨0, _, by ktf_call "mem", rfl⟩ ?_ ?_
 · clear B T; rintro i v c1 γ1 m1 ρ s hi how ⟨n, tn, rm, hn⟩ hm hv B hback Qb hN hB hQ; obtain ⟨p, cs, hpc, T, tp, tc, rfl, hT⟩ := hv; have hst : ((bq (bN z)).take (i + 1)).foldl cE (some 0) = cE (some n) (p, cs) := by
     rw [List.take_add_one, show (bq (bN z))[i]? = some (p, cs) from hpc]
     simp [hn]
   have hall : (bq (bN z)).foldl cE (some 0) = ((bq (bN z)).drop (i + 1)).foldl cE (cE (some n) (p, cs)) := by
     rw [← hst, ← List.foldl_append, List.take_append_drop]
   refine bA B hR'.handled hT rfl rfl ?_; clear B; intro s B; refine al (ag ?_); ktf_call "st"; refine al (ag ?_); ktf_call "st"; refine assignInOrder_nil ?_; ktf_call "sts"; rw [cps_dec cs _ 40 (by decide)]; refine br (fun hb => ?_) (fun hb => ?_)
   · have hq : cs = [40] := of_decide_eq_true hb; ktf_call "sts"; ktf_call "qs"; exact hN _ m1 _ _ (by ktf_call "ow") ⟨n + 1, _, by ktf_call "mem", by rw [hst]; unfold cE; simp only; rw [if_pos hq]⟩ .rfl B
   have hq : ¬ cs = [40] := of_decide_eq_false hb; ktf_call "sts"; rw [cps_dec cs _ 41 (by decide)]; refine br (fun hb => ?_) (fun hb => ?_)
   · have hq2 : cs = [41] := of_decide_eq_true hb; ktf_call "sts"; refine br (fun hb3 => ?_) (fun hb3 => ?_)
     · have hlt : n - 1 < 0 := of_decide_eq_true hb3; ktf_call "sts"; have := h _ _ ((hback.go B).done hc .nil av); have e : chk z = false := by
         unfold chk; rw [hall]; unfold cE; simp only; rw [if_neg hq, if_pos hq2, if_pos hlt]; rw [show (List.foldl (fun st (it : Nat × List Nat) => match st with | none => none | some n => if it.2 = [40] then some (n + 1) else if it.2 = [41] then (if n - 1 < 0 then none else some (n - 1)) else some n) (none : Option Int) (List.drop (i + 1) (bq (bN z)))) = none from fU _]
       rw [e] at this; ktf_call "qs"; refine hQ _ _ ?_; ktf_call "qs"; exact this
     have hlt : ¬ n - 1 < 0 := of_decide_eq_false hb3; ktf_call "sts"; ktf_call "qs"; exact hN _ m1 _ _ (by ktf_call "ow") ⟨n - 1, _, by ktf_call "mem", by rw [hst]; unfold cE; simp only; rw [if_neg hq, if_pos hq2, if_neg hlt]⟩ .rfl B
   have hq2 : ¬ cs = [41] := of_decide_eq_false hb; ktf_call "sts"; ktf_call "qs"; exact hN _ m1 _ _ (by ktf_call "ow") ⟨n, tn, by ktf_call "mem", by rw [hst]; unfold cE; simp only; rw [if_neg hq, if_neg hq2]⟩ .rfl B
 clear B T; rintro γ1 m2 ρ s how ⟨n, tn, rm, hn⟩ hm B; have htk : (bq (bN z)).take (dO (bN z).cps.toList 0 false 0).length = bq (bN z) := List.take_length; rw [htk] at hn; ktf_call "sts"; have := h _ _ (B.done hc .nil av); unfold chk at this; rw [hn] at this; ktf_call "qs"; exact this
end
end
section
theorem All2.up {α : Type} {m m' : Mp} {W : Addr → α → Heap → Prop} {xs : List Addr} {ys : List α} (l : m.le m') (h : All2 (fun x y => Kn m (W x y)) xs ys) : All2 (fun x y => Kn m' (W x y)) xs ys := h.imp fun kq kq k => k.up l
noncomputable def KP (m : Mp) (a : Addr) (ps : List (Int × Int)) : Prop := ∃ bs : List Addr, (∃ o, m a = some o ∧ au (bs.map Value.ref) o) ∧ All2 (fun b p => Kn m (LI b [p.1, p.2])) bs ps
theorem KP.up {m m' : Mp} {a : Addr} {ps : List (Int × Int)} (l : m.le m') (h : KP m a ps) : KP m' a ps := by obtain ⟨bs, ⟨o, h1, h2⟩, h3⟩ := h; exact ⟨bs, ⟨o, l _ _ h1, h2⟩, h3.up l⟩
noncomputable def c5 (st : Option (List Int)) (p : Int × Int) : Option (List Int) :=
 match st with
 | none => none
 | some ms => if ms.getD p.1.toNat 0 == ms.getD p.2.toNat 0 then none else some (ms.map fun k => if k == ms.getD p.1.toNat 0 then ms.getD p.2.toNat 0 else k)
noncomputable def bC (ps : List (Int × Int)) : Bool := match ps.foldl c5 (some (ay 11)) with | none => false | some _ => ps.length == 10
theorem dW : ∀ l : List (Int × Int), l.foldl c5 none = none
 | [] => rfl
 | _ :: l => dW l
section
variable {w : World}
theorem c_onetree {a : Addr} {ps : List (Int × Int)} {A : Around} {m : Mp} {s : Shared} {Q E : VP} (hR : Rm A 1 4) (b : Bef w m s) (hp : KP m a ps) (hr : ∀ p ∈ ps, 0 ≤ p.1 ∧ p.1 < 11 ∧ 0 ≤ p.2 ∧ p.2 < 11) (hl : ps.length ≤ 1000)
   (h : ∀ m' s', Aft [] m s m' s' → Q (.bool (bC ps)) s') :
   wpAny (model PG w) A (call (.ref 307) [.ref a]) Q E s := by
 refine fj (d := 0) (u := 1) (nw := []) (ns := ["ties"]) (cn := ["marks", "one", "other"])
   (ρ₀ := fun L => [⟨"ties", none, some (.ref a)⟩, ⟨"marks", some (L + 1), none⟩, ⟨"one", some (L + 1 + 1), none⟩, ⟨"other", some (L + 1 + 1 + 1), none⟩]) (own₀ := fun L => [L, L + 1, L + 1 + 1, L + 1 + 1 + 1]) hR b .nil rfl rfl rfl rfl rfl rfl rfl rfl rfl rfl (by rfl) (by decide +kernel) (by decide +kernel) (by decide +kernel) (fun L => rfl) (fun L => rfl) (fun L => rfl) ?_
 intro A env L c s' hE hR' hc B hL; ktf_call "opq"; ktf_call "sts"; refine n_range (k := 11) B ?_; clear B; intro r m1 s1 hm1 hr1 B; ktf_call "sts"; refine l_ofrange B hR'.handled (B.kn hr1) (by decide +kernel) (by decide) ?_; clear B; intro mk m2 s2 hm2 hk2 B; ktf_call "sts"; have hp2 := (hp.up hm1).up hm2; refine x12 hp2 fun bs hko hbs => ?_; have hbl := hbs.length; apply aC B hR'.handled hko; intro I s B T
 refine cD B T ["marks", "one", "other"] (fun i m' ρ => ∃ (ms : List Int) (mk : Addr), (⟨"marks", some (L + 1), some (.ref mk)⟩ : VE) ∈ ρ ∧
     Kn m' (LI mk ms) ∧ ms.length = 11 ∧ (ps.take i).foldl c5 (some (ay 11)) = some ms) ?_ ?_ ?_
 · exact ⟨ay 11, mk, by ktf_call "mem", hk2, rfl, rfl⟩
 · rintro i v c1 γ1 m3 ρ s hi ho ⟨ms, mk, hmm, hmk, hml, hms⟩ hm hv B hback Qb hN hK hQ; have hi' : i < bs.length := by simpa using hi
   have hbi : bs[i]? = some bs[i] := ac hi'; refine x12 (hbs.get hbi) fun pr hpr hkb => ?_; have hv' : v = .ref bs[i] := by
     rw [List.getElem?_map, hbi] at hv; ktf_call "qs"; exact (Option.some.inj hv).symm
   subst hv'; obtain ⟨x, y⟩ := pr; have hr1 := hr (x, y) (List.mem_of_getElem? hpr); have hst : (ps.take (i + 1)).foldl c5 (some (ay 11)) = c5 (some ms) (x, y) := by
     rw [List.take_add_one, hpr]; simp [hms]
   have hall : ps.foldl c5 (some (ay 11)) = (ps.drop (i + 1)).foldl c5 (c5 (some ms) (x, y)) := by
     rw [← hst, ← List.foldl_append, List.take_append_drop]
   refine x12 (B.kn (hkb.up hm)) fun vs hvs hia => ?_; cases hia with
   | cons _ tx hia =>
   cases hia with
   | cons _ ty hia =>
   cases hia
   refine as_list B hR'.handled hvs rfl rfl ?_; clear B; intro s B; refine al (ag ?_); ktf_call "st"; refine al (ag ?_); ktf_call "st"; refine assignInOrder_nil ?_; have ex : ms[x.toNat]? = some (ms.getD x.toNat 0) := by
     have : x.toNat < ms.length := a278 hml hr1
     rw [ab, ac this]; rfl
   have ey : ms[y.toNat]? = some (ms.getD y.toNat 0) := by
     have : y.toNat < ms.length := a277 hml hr1
     rw [ab, ac this]; rfl
   ktf_call "sts"; refine bE (B.kn hmk) (by exact hr1.1) (a275 hr1) ex fun t1 => ?_; ktf_call "sts"; refine bE (B.kn hmk) (by exact hr1.2.2.1) (a274 hr1) ey fun t2 => ?_; ktf_call "sts"; refine br (fun hb => ?_) (fun hb => ?_)
   · ktf_call "sts"; have := h _ _ ((hback.go B).done hc .nil av); have e : bC ps = false := by
       unfold bC; rw [hall]; have : c5 (some ms) (x, y) = none := by unfold c5; simp only; rw [if_pos hb]
       rw [this, dW]
     rw [e] at this; ktf_call "qs"; refine hQ _ _ ?_; ktf_call "qs"; exact this
   ktf_call "sts"; refine d5 B (hE.kind (by rfl)) rfl ?_; refine lc_eval B [⟨"marks", some (L + 1), some (.ref mk)⟩, ⟨"one", some (L + 1 + 1), some (.int x tx)⟩, ⟨"other", some (L + 1 + 1 + 1), some (.int y ty)⟩] (by ktf_call "ce") rfl rfl (by decide +kernel) ?_; ktf_call "sts"; refine x12 (B.koI hmk) fun us hko2 hus => ?_; have hul := aF hus; apply aC B hR'.handled hko2; intro I s B T
   refine lc_go B T [⟨"marks", some (L + 1), some (.ref mk)⟩, ⟨"one", some (L + 1 + 1), some (.int x tx)⟩, ⟨"other", some (L + 1 + 1 + 1), some (.int y ty)⟩] ["mark"] (fun kq => true)
     (fun i v kq => ∃ t, v = .int ((fun k => if k == ms.getD x.toNat 0 then ms.getD y.toNat 0 else k) (ms.getD i 0)) t) ⟨rfl, by decide +kernel, by decide +kernel, by ktf_call "ce", rfl, by show List.Nodup [aa "mark", aa "marks", aa "one", aa "other"]; decide +kernel⟩ (szl (a276 hml hul)) ?_ ?_
   · rintro j v c2 cenv L2 γ2 m4 nw2 s hj hE hm4 hv hnw B; obtain ⟨nj, tj, hnj, rfl⟩ := bz hus hv; have hgj : ms.getD j 0 = nj := by rw [ab, hnj]; rfl
     simp only [ai, List.map_nil, List.cons_append, List.nil_append] at B; refine ag ?_; ktf_call "st"; refine bQ ⟨rfl, ?_⟩; rw [if_pos rfl]; ktf_call "sts"; refine bE (B.kn (hmk.up hm4)) (by exact hr1.1) (a275 hr1) ex fun t3 => ?_; ktf_call "sts"; refine br (fun hb5 => ?_) (fun hb5 => ?_)
     · ktf_call "sts"; refine bE (B.kn (hmk.up hm4)) (by exact hr1.2.2.1) (a274 hr1) ey fun t4 => ?_; ktf_call "qs"; exact fu B .rfl (fun kq kq => ⟨t4, by simp only [hgj]; rw [if_pos hb5]⟩) rfl
     ktf_call "sts"; ktf_call "qs"; exact fu B .rfl (fun kq kq => ⟨tj, by simp only [hgj]; rw [if_neg (by rw [hb5]; decide)]⟩) rfl
   intro γ2 m4 xs mk2 s hm4 hk4 hxs B; have hi2 := B.ints hxs; ktf_call "sts"; ktf_call "qs"; refine hN _ m4 _ _ (by ktf_call "ow") ⟨_, mk2, by ktf_call "mem", fun hp ok => ⟨xs, hk4 hp ok, hi2⟩, ?_, ?_⟩ hm4 B
   · rw [cu]; simp [hul, hml]
   rw [hst]; unfold c5; simp only; rw [if_neg (by rw [hb]; decide), cu, hul]; ktf_call "qs"; exact congrArg some (aB rfl).symm
 rintro γ1 m3 ρ s ho ⟨ms, mk, hmm, hmk, hml, hms⟩ hm B; ktf_call "sts"; refine x12 hko fun o ho hP => ?_; refine gv B ⟨o, B.ok _ _ (hm _ _ ho), hP⟩ (by rw [sizeLine_eq]; simp; exact a164 hl hbl) ?_; clear B; intro t1 s B; ktf_call "sts"; have := h _ _ (B.done hc .nil av); have e : bC ps = ((ps.length : Int) == 10) := by
   unfold bC; have ht : ps.take (List.map Value.ref bs).length = ps := by rw [am, hbl]; exact List.take_length
   rw [ht] at hms; rw [hms]; by_cases q : ps.length = 10
   · rw [q]; rfl
   have : ¬ ((ps.length : Int) = 10) := a273 q
   rw [beq_eq_false_iff_ne.mpr q, beq_eq_false_iff_ne.mpr this]
 rw [e, ← hbl] at this; simpa using this
end
end
section
section
variable {w : World}
noncomputable def bM (ls : List Str) : Tr → Str
 | .leaf i => ls.getD i ak
 | .node sg l r _ => aa "(" ++ bM ls l ++ sg ++ bM ls r ++ aa ")"
noncomputable def Tr.fits (n : Nat) : Tr → Prop
 | .leaf i => i < n
 | .node sg l r mid => sg.length = 1 ∧ l.fits n ∧ r.fits n ∧ mid < n
theorem cw {ls : List Str} {n : Nat} (hl : ∀ x ∈ ls, x.length ≤ 100) : ∀ t : Tr, t.fits n → (bM ls t).length ≤ 100 * t.size
 | .leaf i, h => by
   unfold bM Tr.size; rw [ab]; cases e : ls[i]? with
   | none => simp [ak, Str.length]
   | some x => exact ae (hl x (List.mem_of_getElem? e)) (a289)
 | .node sg l r mid, h => by
   refine x04 h fun h1 h2 h3 kq => ?_; have a := cw hl l h2; have b := cw hl r h3; unfold bM Tr.size; rw [aq, aq, aq, aq]; rw [show (aa "(").length = 1 from by decide, show (aa ")").length = 1 from by decide]
   exact a288 h1 a b
theorem c_written {ls : List Str} (hll : ls.length ≤ 1000) (hl : ∀ x ∈ ls, x.length ≤ 100) {lv : Addr} : ∀ (tr : Tr) {A : Around} {m : Mp} {s : Shared} {v : Value} {Q E : VP}, tr.fits ls.length → tr.size ≤ 100 → Rm A (tr.dep + 1) (4 * tr.dep + 4) → Bef w m s → KT m v tr → Kn m (LS lv ls) →
   (∀ t m' s', Aft [] m s m' s' → Q (.str (bM ls tr) t) s') →
   wpAny (model PG w) A (call (.ref 297) [v, .ref lv]) Q E s := by
 intro tr; induction tr with
 | leaf i =>
   intro A m s v Q E hfit hsz hR b hk hlv h; obtain ⟨tv, rfl⟩ := hk; refine dK (d := 0) (u := 1) (nw := []) (ns := ["tree", "leaves"]) (ρ₀ := [⟨"tree", none, some (.int i tv)⟩, ⟨"leaves", none, some (.ref lv)⟩]) hR b .nil rfl rfl rfl rfl rfl rfl rfl rfl rfl rfl (by decide +kernel) (by rfl) (by decide +kernel) (by decide +kernel) rfl ?_; intro A env L c s' hE hR' hc B hL; ktf_call "opq"; ktf_call "sts"; refine bo ?_; ktf_call "sts"; refine bZ rfl ?_; ktf_call "sts"; have hi : ls[i]? = some (ls.getD i ak) := by
     have : i < ls.length := hfit; rw [ab, ac this]; rfl
   have hb : i < ls.length := hfit; refine cO (B.kn hlv) (a12) (a28 hll hb) hi fun t1 => ?_; ktf_call "qs"; exact h t1 _ _ (B.done hc .nil av)
 | node sg l r mid ihl ihr =>
   intro A m s v Q E hfit hsz hR b hk hlv h; obtain ⟨a, vl, vr, ts, tm, rfl, hko, hkl, hkr⟩ := hk; refine x04 hfit fun hf1 hf2 hf3 hf4 => ?_; have hs1 : l.size ≤ 100 ∧ r.size ≤ 100 := by unfold Tr.size at hsz; exact a287 hsz
   have hd : l.dep ≤ max l.dep r.dep ∧ r.dep ≤ max l.dep r.dep := ⟨Nat.le_max_left _ _, Nat.le_max_right _ _⟩; refine dK (d := max l.dep r.dep + 1) (u := 4 * max l.dep r.dep + 5) (nw := []) (ns := ["tree", "leaves"]) (ρ₀ := [⟨"tree", none, some (.ref a)⟩, ⟨"leaves", none, some (.ref lv)⟩]) hR b .nil rfl rfl rfl rfl rfl rfl rfl rfl rfl rfl (by decide +kernel) (by rfl) (by decide +kernel) (by decide +kernel) rfl ?_; intro A env L c s' hE hR' hc B hL; ktf_call "opq"; ktf_call "sts"; refine bb B (B.ato hko) ?_; clear B; intro s B; ktf_call "sts"; refine aY rfl ?_; ktf_call "sts"; refine aT (B.ato hko) (by decide) (by decide) rfl ?_; ktf_call "sts"; refine ihl hf2 hs1.1 (hR'.less (a286) (a285)) B.bef hkl hlv ?_; intro t1 m1 s1 f1; replace B := B.aft f1; ktf_call "sts"; have w1 := cw (n := ls.length) hl l hf2; have w2 := cw (n := ls.length) hl r hf3; have p1 : (aa "(").length = 1 := by decide
   have p2 : (aa ")").length = 1 := by decide
   refine cG B (szl (a284 hs1 w1 p1)) ?_; clear B; intro t2 s B; ktf_call "sts"; refine aT (B.ato (aJ f1.le hko)) (by decide) (by decide) rfl ?_; refine cG B (by rw [aq]; exact szl (a283 hf1 hs1 w1 p1)) ?_; clear B; intro t3 s B; ktf_call "sts"; refine aT (B.ato (aJ f1.le hko)) (by decide) (by decide) rfl ?_; ktf_call "sts"; refine ihr hf3 hs1.2 (hR'.less (a282) (a281)) B.bef (hkr.up f1.le) (hlv.up f1.le) ?_; intro t4 m4 s4 f4; replace B := B.aft f4; refine cG B (by rw [aq, aq]; exact szl (a280 hf1 hs1 w1 w2 p1)) ?_; clear B; intro t5 s B; ktf_call "sts"; refine cG B (by rw [aq, aq, aq]; exact szl (a279 hf1 hs1 w1 w2 p1 p2)) ?_; clear B; intro t6 s B; ktf_call "qs"; exact h t6 _ _ (B.done hc .nil av)
end
end
section
section
variable {w : World}
noncomputable def Tr.endOf : Tr → Int
 | .leaf i => i
 | .node _ _ _ mid => 6 + mid
noncomputable def Tr.ends (ch : List Int) : Tr → List Int
 | .leaf _ => []
 | .node sg l r mid => if sg = aa "*" then [l.endOf, r.endOf] else if ch.any (fun x => x == (mid : Int)) then [r.endOf] else [l.endOf]
noncomputable def ties (ch : List Int) : Tr → List (Int × Int)
 | .leaf _ => []
 | .node sg l r mid => (Tr.ends ch (.node sg l r mid)).map (fun e => ((6 + mid : Int), e)) ++ ties ch l ++ ties ch r
theorem dj (ch : List Int) : ∀ t : Tr, (ties ch t).length ≤ 2 * t.size
 | .leaf _ => by simp [ties]
 | .node sg l r mid => by
   have a := dj ch l; have b := dj ch r; have c : (Tr.ends ch (.node sg l r mid)).length ≤ 2 := by
     show (if sg = aa "*" then _ else if _ then _ else _ : List Int).length ≤ 2
     split
     · simp
     split <;> simp
   unfold ties Tr.size; rw [List.length_append, List.length_append, am]; exact a294 a b c
theorem KP.append {w : World} {c : Cx} {γ : Array GenState} {m : Mp} {env : Env} {own : List Addr} {ρ : List VE} {nw : Led} {s : Shared} {A : Around} {E : VP} {a b : Addr} {ps qs : List (Int × Int)} {Q : VP} (B : Bd w c γ m env own ρ nw s) (ha : KP m a ps) (hb : KP m b qs) (hz : ps.length + qs.length ≤ 10000)
   (h : ∀ r m' s', m.le m' → KP m' r (ps ++ qs) → Bd w c γ m' env own ρ nw s' → Q (.ref r) s') : wpAny (model PG w) A (binaryOp .Add (.ref a) (.ref b)) Q E s := by
 refine x12 ha fun bs h1 h2 => ?_; refine x12 hb fun ds h3 h4 => ?_; have l1 := h2.length; have l2 := h4.length; refine c8 B (B.ato h1) (B.ato h3) (by rw [am, am]; exact szl (a293 hz l1 l2)) ?_; intro r m' s' hm hk B'; refine h r m' s' hm ⟨bs ++ ds, ?_, (h2.up hm).append (h4.up hm)⟩ B'; rw [List.map_append]; exact B'.ko hk
theorem c_ties {ch : List Int} {cv : Addr} : ∀ (tr : Tr) {A : Around} {m : Mp} {s : Shared} {v : Value} {Q E : VP}, tr.fits 1000 → tr.size ≤ 100 → Rm A (tr.dep + 1) (4 * tr.dep + 4) → Bef w m s → KT m v tr → Kn m (LI cv ch) →
   (∀ a m' s', Aft [] m s m' s' → KP m' a (ties ch tr) → Q (.ref a) s') →
   wpAny (model PG w) A (call (.ref 302) [v, .ref cv]) Q E s := by
 intro tr; induction tr with
 | leaf i =>
   intro A m s v Q E hfit hsz hR b hk hch h; obtain ⟨tv, rfl⟩ := hk
   refine fj (d := 0) (u := 1) (nw := []) (ns := ["chosen", "ends"]) (cn := ["tree"])
     (ρ₀ := fun L => [⟨"chosen", none, some (.ref cv)⟩, ⟨"ends", none, none⟩, ⟨"tree", some (L + 1), some (.int i tv)⟩]) (own₀ := fun L => [L, L + 1]) hR b .nil rfl rfl rfl rfl rfl rfl rfl rfl rfl rfl (by rfl) (by decide +kernel) (by decide +kernel) (by decide +kernel) (fun L => rfl) (fun L => rfl) (fun L => rfl) ?_
   intro A env L c s' hE hR' hc B hL; ktf_call "opq"; ktf_call "sts"; refine bo ?_; ktf_call "sts"; refine bZ rfl ?_; ktf_call "sts"; ktf_call "nl"; intro a1 m1 s hm1 hk1 B; ktf_call "qs"; exact h _ m1 _ (B.done hc .nil av) ⟨[], B.ko hk1, .nil⟩
 | node sg l r mid ihl ihr =>
   intro A m s v Q E hfit hsz hR b hk hch h; obtain ⟨a, vl, vr, ts, tm, rfl, hko, hkl, hkr⟩ := hk; refine x04 hfit fun hf1 hf2 hf3 hf4 => ?_; have hs1 : l.size ≤ 100 ∧ r.size ≤ 100 := by unfold Tr.size at hsz; exact a287 hsz
   have hd : l.dep ≤ max l.dep r.dep ∧ r.dep ≤ max l.dep r.dep := ⟨Nat.le_max_left _ _, Nat.le_max_right _ _⟩
   refine fj (d := max l.dep r.dep + 1) (u := 4 * max l.dep r.dep + 5) (nw := []) (ns := ["chosen", "ends"]) (cn := ["tree"])
     (ρ₀ := fun L => [⟨"chosen", none, some (.ref cv)⟩, ⟨"ends", none, none⟩, ⟨"tree", some (L + 1), some (.ref a)⟩]) (own₀ := fun L => [L, L + 1]) hR b .nil rfl rfl rfl rfl rfl rfl rfl rfl rfl rfl (by rfl) (by decide +kernel) (by decide +kernel) (by decide +kernel) (fun L => rfl) (fun L => rfl) (fun L => rfl) ?_
   intro A env L c s' hE hR' hc B hL; ktf_call "opq"; ktf_call "sts"; refine bb B (B.ato hko) ?_; clear B; intro s B; ktf_call "sts"; refine aY rfl ?_; ktf_call "sts"; refine cU B [] (by ktf_call "cs") rfl rfl rfl (hE.kind (by rfl)) rfl ?_; ktf_call "sts"; refine bx B (B.ato hko) (.int _ _) (.int _ _) ?_ (by show 4 ≤ sizeLine; decide); clear B; intro sl m1 s hm1 hk1 B
   rw [show (slicePick #[Value.str sg ts, vl, vr, Value.int (mid : Nat) tm] (some 1) (some 3) none).toList = [vl, vr] from rfl] at hk1
   apply aC B hR'.handled (B.ko hk1); intro I s B T; refine dD B T [] ["part"] (fun i v kq => ∃ t, v = .int ([l.endOf, r.endOf].getD i 0) t) ⟨rfl, rfl, rfl, by ktf_call "cs", rfl, rfl⟩ (by show 2 ≤ sizeLine; decide) (by ktf_call "has") ?_ ?_
   · intro j v c2 cenv L2 γ2 m4 own ρ nw2 s hj hE hm4 hv hC hM B Qx hK; obtain ⟨sub, hsub, hend⟩ : ∃ sub, KT m4 v sub ∧ [l.endOf, r.endOf].getD j 0 = sub.endOf := by
       match j, hj, hv with
       | 0, _, hv => simp at hv; subst hv; exact ⟨l, (hkl.up hm1).up hm4, rfl⟩
       | 1, _, hv => simp at hv; subst hv; exact ⟨r, (hkr.up hm1).up hm4, rfl⟩
     refine ag ?_; ktf_call "st"; cases sub with
     | leaf i =>
       obtain ⟨ti, rfl⟩ := hsub; ktf_call "sts"; refine bo ?_; ktf_call "sts"; refine bZ rfl ?_; ktf_call "sts"; ktf_call "qs"; exact hK.go (by ktf_call "tn") B .rfl (fun kq kq => ⟨_, by rw [hend]; rfl⟩)
     | node sg2 l2 r2 mid2 =>
       obtain ⟨a2, vl2, vr2, ts2, tm2, rfl, hko2, _, _⟩ := hsub; ktf_call "sts"; refine bb B (B.ato hko2) ?_; clear B; intro s B; ktf_call "sts"; refine aY rfl ?_; ktf_call "sts"; refine aT (B.ato hko2) (by decide) (by decide) rfl ?_; refine i_add B ?_; clear B; intro tk s B; ktf_call "qs"; exact hK.go (by ktf_call "tn") B .rfl (fun kq kq => ⟨_, by rw [hend]; rfl⟩)
   intro γ2 m4 xs e1 ρ s hm4 hk4 hxs hV B; have hi2 := B.ints hxs; have hie : Kn m4 (LI e1 [l.endOf, r.endOf]) := fun hp ok => ⟨xs, hk4 hp ok, hi2⟩; have hko4 := aJ (hm1.trans hm4) hko; ktf_call "st"; ktf_call "st"; ktf_call "st"; refine an (Q := fun v s' => ∃ e2 m5, v = .ref e2 ∧ m4.le m5 ∧ Kn m5 (LI e2 (Tr.ends ch (.node sg l r mid))) ∧ Bd w c γ2 m5 env own ρ [] s') ?_ ?_ (fun kq kq x => x)
   · ktf_call "sts"; refine aT (B.ato hko4) (by decide) (by decide) rfl ?_; ktf_call "sts"; refine br (fun hb => ?_) (fun hb => ?_)
     · have hs : sg = aa "*" := by simpa using hb
       ktf_call "sts"; ktf_call "qs"; exact ⟨e1, m4, rfl, .rfl, by show Kn m4 (LI e1 (if sg = aa "*" then _ else _)); rw [if_pos hs]; exact hie, B⟩
     have hs : ¬ sg = aa "*" := by simpa using hb
     refine x12 (B.koI hie) fun us hus hui => ?_; cases hui with
     | cons _ t1 hui =>
     cases hui with
     | cons _ t2 hui =>
     cases hui
     ktf_call "sts"; refine aT (B.ato hko4) (by decide) (by decide) rfl ?_; ktf_call "sts"; refine x12 (B.kn (hch.up (hm1.trans hm4))) fun cs hcs hci => ?_; refine in_list_ints hcs.list hci ?_; ktf_call "sts"; refine br (fun hb2 => ?_) (fun hb2 => ?_)
     · ktf_call "sts"; refine bx B (B.ato hus) (.int _ _) .none ?_ (by show 2 ≤ sizeLine; decide); clear B; intro e2 m5 s hm5 hk5 B
       ktf_call "qs"; refine ⟨e2, m5, rfl, hm5, ?_, B⟩; show Kn m5 (LI e2 (if sg = aa "*" then _ else if _ then _ else _))
       rw [if_neg hs, if_pos hb2]; have e : (slicePick #[Value.int l.endOf t1, Value.int r.endOf t2] (some 1) none none).toList = [Value.int r.endOf t2] := congrArg Array.toList (slicePick_from' #[Value.int l.endOf t1, Value.int r.endOf t2] 1); rw [e] at hk5; ktf_call "qs"; exact fun hp ok => ⟨[Value.int r.endOf t2], hk5 hp ok, .cons _ t2 .nil⟩
     ktf_call "sts"; refine bx B (B.ato hus) .none (.int _ _) ?_ (by show 2 ≤ sizeLine; decide); clear B; intro e2 m5 s hm5 hk5 B
     ktf_call "qs"; refine ⟨e2, m5, rfl, hm5, ?_, B⟩; show Kn m5 (LI e2 (if sg = aa "*" then _ else if _ then _ else _))
     rw [if_neg hs, if_neg (by rw [hb2]; decide)]; ktf_call "qs"; exact fun hp ok => ⟨[Value.int l.endOf t1], hk5 hp ok, .cons _ t1 .nil⟩
   clear B; rintro _ s ⟨e2, m5, rfl, hm5, hk5, B⟩; generalize hEn : Tr.ends ch (.node sg l r mid) = en at *
   ktf_call "sts"; refine aA B [⟨"tree", some (L + 1), some (.ref a)⟩] (by ktf_call "cs") rfl rfl rfl ?_; ktf_call "sts"; refine x12 (B.koI hk5) fun us hkoe hui => ?_; have hel : us.length ≤ 2 := by
     rw [aF hui, ← hEn]; show (if sg = aa "*" then _ else if _ then _ else _ : List Int).length ≤ 2
     split
     · simp
     split <;> simp
   apply aC B hR'.handled hkoe; intro I s B T; refine cf B T [⟨"tree", some (L + 1), some (.ref a)⟩] ["end"] (fun i v h => ∃ b, v = .ref b ∧ LI b [6 + (mid : Int), en.getD i 0] h) ⟨rfl, rfl, rfl, by ktf_call "cs", rfl, rfl⟩ (szl (a292 hel)) ?_ ?_
   · intro j v c2 cenv L2 γ3 m6 own ρ nw2 s hj hE hm6 hv hC hM B Qx hK; obtain ⟨nj, tj, hnj, rfl⟩ := bz hui hv; have hgj : en.getD j 0 = nj := by rw [ab, hnj]; rfl
     refine ag ?_; ktf_call "st"; ktf_call "sts"; refine aT (B.ato (aJ (hm5.trans hm6) hko4)) (by decide) (by decide) rfl ?_; ktf_call "sts"; refine n_list B (by show 2 ≤ sizeLine; decide) ?_; clear B; intro b1 m7 s hm7 hk7 B
     ktf_call "qs"; exact hK.go (by ktf_call "tn") B hm7 (fun hp ok => ⟨b1, rfl, _, hk7 hp ok, by rw [hgj]; exact .cons _ _ (.cons _ _ .nil)⟩)
   intro γ3 m6 xs r1 s hm6 hk6 hxs B; obtain ⟨bs, rfl, hbs⟩ := B.refs (W := fun b i h => LI b [6 + (mid : Int), en.getD i 0] h) hxs; have hkp : KP m6 r1 (en.map fun e => ((6 + mid : Int), e)) := by
     ktf_call "qs"; refine ⟨bs, B.ko hk6, ?_⟩; have e1 : (en.map fun e => ((6 + mid : Int), e)) = (af us.length).map fun i => ((6 + mid : Int), en.getD i 0) := (aB (aF hui).symm).symm; rw [e1]; ktf_call "qs"; exact hbs.map_r (S := fun b (p : Int × Int) => Kn m6 (LI b [p.1, p.2])) (f := fun i => ((6 + mid : Int), en.getD i 0)) fun b i k => k
   have hmm : m.le m6 := ((hm1.trans hm4).trans hm5).trans hm6; have tl := dj ch l; have tr' := dj ch r; have hen : en.length ≤ 2 := by rw [← aF hui]; exact hel
   ktf_call "sts"; refine aT (B.ato (aJ hmm hko)) (by decide) (by decide) rfl ?_; ktf_call "sts"; refine ihl hf2 hs1.1 (hR'.less (a286) (a285)) B.bef (hkl.up hmm) (hch.up hmm) ?_; intro a7 m7 s7 f7 hk7; replace B := B.aft f7; refine KP.append B (hkp.up f7.le) hk7 (by rw [am]; exact a291 hs1 tl hen) ?_; clear B; intro r2 m8 s hm8 hk8 B; ktf_call "sts"; refine aT (B.ato (aJ ((hmm.trans f7.le).trans hm8) hko)) (by decide) (by decide) rfl ?_; ktf_call "sts"; refine ihr hf3 hs1.2 (hR'.less (a282) (a281)) B.bef (hkr.up ((hmm.trans f7.le).trans hm8)) (hch.up ((hmm.trans f7.le).trans hm8)) ?_; intro a9 m9 s9 f9 hk9; replace B := B.aft f9; refine KP.append B (hk8.up f9.le) hk9 (by rw [List.length_append, am]; exact a290 hs1 tl tr' hen) ?_; clear B; intro r3 m10 s hm10 hk10 B; ktf_call "qs"; refine h r3 _ _ (B.done hc .nil av) ?_; unfold ties; rw [hEn]; ktf_call "qs"; exact hk10
end
end
section
section
variable {w : World}
noncomputable def Tr.lets (rd : List Str) : Tr → List Str
 | .leaf i => [rd.getD i ak]
 | .node _ l r _ => l.lets rd ++ r.lets rd
noncomputable def letters (rd : List Str) (ts : List Tr) : List Str := ts.flatMap (Tr.lets rd)
noncomputable def KTs (m : Mp) (a : Addr) (ts : List Tr) : Prop := ∃ vs, (∃ o, m a = some o ∧ au vs o) ∧ All2 (fun v t => KT m v t) vs ts
theorem KTs.up {m m' : Mp} {a : Addr} {ts : List Tr} (l : m.le m') (h : KTs m a ts) : KTs m' a ts := by obtain ⟨vs, h1, h2⟩ := h; exact ⟨vs, aJ l h1, h2.imp fun kq kq k => k.up l⟩
theorem Tr.lets_len (rd : List Str) : ∀ t : Tr, (t.lets rd).length ≤ t.size
 | .leaf i => by simp [Tr.lets, Tr.size]
 | .node _ l r _ => by
   have a := lets_len rd l; have b := lets_len rd r; simp [Tr.lets, Tr.size]; exact a302 a b
theorem c7 (rd : List Str) : ∀ ts : List Tr, (∀ t ∈ ts, t.size ≤ 100) → (letters rd ts).length ≤ 100 * ts.length
 | [], _ => by simp [letters]
 | t :: r, h => by
   have a := c7 rd r fun t ht => h t (.tail _ ht); have b := Tr.lets_len rd t; have c := h t (.head _); unfold letters at *
   rw [List.flatMap_cons, List.length_append, List.length_cons]; exact a301 a b c
noncomputable def depL (ts : List Tr) : Nat := ts.foldr (fun t d => max t.dep d) 0
theorem depL_le {ts : List Tr} {t : Tr} (h : t ∈ ts) : t.dep ≤ depL ts := by
 induction ts with
 | nil => cases h
 | cons x r ih =>
   unfold depL; rw [List.foldr_cons]; rcases mCo h with rfl | h
   · exact Nat.le_max_left _ _
   exact ae (ih h) (Nat.le_max_right _ _)
theorem c_letters {rd : List Str} (hrd : rd.length ≤ 1000) {rv : Addr} : ∀ (d : Nat) (ts : List Tr) {A : Around} {m : Mp} {s : Shared} {a : Addr} {Q E : VP}, depL ts ≤ d → (∀ t ∈ ts, t.fits rd.length ∧ t.size ≤ 100) → ts.length ≤ 100 → Rm A (d + 1) (4 * d + 4) → Bef w m s → KTs m a ts → Kn m (LS rv rd) →
   (∀ r m' s', Aft [] m s m' s' → Kn m' (LS r (letters rd ts)) → Q (.ref r) s') →
   wpAny (model PG w) A (call (.ref 312) [.ref a, .ref rv]) Q E s := by
 intro d; induction d using Nat.strongRecOn with
 | ind d ih =>
   intro ts A m s a Q E hdep hfit hlen hR b hk hrv h
   refine fj (d := d) (u := 4 * d + 1) (nw := []) (ns := ["items"]) (cn := ["read"])
     (ρ₀ := fun L => [⟨"items", none, some (.ref a)⟩, ⟨"read", some (L + 1), some (.ref rv)⟩]) (own₀ := fun L => [L, L + 1]) hR b .nil rfl rfl rfl rfl rfl rfl rfl rfl rfl rfl (by rfl) (by decide +kernel) (by decide +kernel) (by decide +kernel) (fun L => rfl) (fun L => rfl) (fun L => rfl) ?_
   intro A env L c s' hE hR' hc B hL; ktf_call "opq"; ktf_call "sts"; refine lc2_eval B [⟨"read", some (L + 1), some (.ref rv)⟩] (by ktf_call "ce") rfl rfl (by decide +kernel) ?_; ktf_call "sts"; refine x12 hk fun vs hko hvs => ?_; have hvl := hvs.length; apply aC B hR'.handled hko; intro I s B T; refine lc2_go B T [⟨"read", some (L + 1), some (.ref rv)⟩] ["item", "letter"] (fun i xs kq => StrsAre xs (letters rd (ts.take i))) (fun kq kq kq kq kq h => h) ⟨rfl, by decide +kernel, by decide +kernel, by ktf_call "ce", rfl, by show List.Nodup [aa "item", aa "letter", aa "read"]; decide +kernel⟩ (fun kq kq => rfl) .nil ?_ ?_
   · rintro i v c1 cenv L2 acc γ1 m1 xs s hi hE hm1 hv hz B; simp only [ai, List.map_nil, List.cons_append, List.nil_append] at B; refine x12 (hvs.get hv) fun t hti hkt => ?_; have htm := List.mem_of_getElem? hti; obtain ⟨hf, hsz⟩ := hfit t htm; have hdt : t.dep ≤ d := ae (depL_le htm) hdep; have hst : letters rd (ts.take (i + 1)) = letters rd (ts.take i) ++ t.lets rd := by
       unfold letters; rw [List.take_add_one, hti]; simp
     refine ag ?_; ktf_call "st"; refine an (Q := fun r s' => ∃ b m2 γ2, r = Value.ref b ∧ m1.le m2 ∧ Kn m2 (LS b (t.lets rd)) ∧ Bd w c1 γ2 m2 cenv [L2] [⟨"item", none, some v⟩, ⟨"letter", none, none⟩, ⟨"read", some (L + 1), some (.ref rv)⟩] ((acc, au xs) :: []) s') ?_ ?_ (fun kq kq x => x)
     · cases t with
       | leaf k =>
         obtain ⟨tk, rfl⟩ := hkt; have hk' : k < rd.length := hf; ktf_call "sts"; refine bo ?_; ktf_call "sts"; refine bZ rfl ?_; ktf_call "sts"; have hi : rd[k]? = some (rd.getD k ak) := by rw [ab, ac hk']; rfl
         refine cO (B.kn (hrv.up hm1)) (a12) (a28 hrd hk') hi fun t1 => ?_; ktf_call "sts"; refine n_list B (by show 1 ≤ sizeLine; decide) ?_; clear B; intro b1 m2 s hm2 hk2 B
         ktf_call "qs"; exact ⟨b1, m2, _, rfl, hm2, fun hp ok => ⟨_, hk2 hp ok, .cons _ _ .nil⟩, B⟩
       | node sg l r mid =>
         obtain ⟨a2, vl, vr, ts2, tm2, rfl, hko2, hkl, hkr⟩ := hkt; refine x04 hf fun hf1 hf2 hf3 hf4 => ?_; have hd1 : max l.dep r.dep + 1 ≤ d := hdt; have hs2 : l.size + r.size + 1 ≤ 100 := hsz; ktf_call "sts"; refine bb B (B.ato (aJ hm1 hko2)) ?_; clear B; intro s B; ktf_call "sts"; refine aY rfl ?_; ktf_call "sts"; refine bx B (B.ato (aJ hm1 hko2)) (.int _ _) (.int _ _) ?_ (by show 4 ≤ sizeLine; decide); clear B; intro sl m2 s hm2 hk2 B
         rw [show (slicePick #[Value.str sg ts2, vl, vr, Value.int (mid : Nat) tm2] (some 1) (some 3) none).toList = [vl, vr] from rfl] at hk2
         ktf_call "sts"; refine ih (d - 1) (a300 hd1) [l, r] ?_ ?_ (by show 2 ≤ 100; decide) (hR'.less (a299 hd1) (a298 hd1)) B.bef ⟨[vl, vr], B.ko hk2, .cons (hkl.up (hm1.trans hm2)) (.cons (hkr.up (hm1.trans hm2)) .nil)⟩ (hrv.up (hm1.trans hm2)) ?_
         · show max l.dep (max r.dep 0) ≤ d - 1
           rw [Nat.max_zero]; exact a297 hd1
         · intro t ht; rcases mCo ht with rfl | ht
           · ktf_call "qs"; exact ⟨hf2, by exact a46 hs2⟩
           rcases mSg ht with rfl
           ktf_call "qs"; exact ⟨hf3, by exact a48 hs2⟩
         intro r3 m3 s3 f3 hk3; replace B := B.aft f3; ktf_call "qs"; refine ⟨r3, m3, _, rfl, hm2.trans f3.le, ?_, B⟩; have e : letters rd [l, r] = Tr.lets rd (.node sg l r mid) := by simp [letters, Tr.lets]
         rw [e] at hk3; ktf_call "qs"; exact hk3
     clear B; rintro _ s ⟨b, m2, γ2, rfl, hm2, hk2, B⟩; refine x12 (B.koS hk2) fun us hkoe hui => ?_; have hul := ax hui; have hll := Tr.lets_len rd t; have hxl : xs.length ≤ 10000 := by
       rw [ax hz]; have h1 := c7 rd (ts.take i) fun t ht => (hfit t (List.mem_of_mem_take ht)).2; have h2 : (ts.take i).length ≤ ts.length := by rw [List.length_take]; exact Nat.min_le_right _ _
       exact a296 hlen h1 h2
     apply aC B hR'.handled hkoe; intro I2 s B T2; refine jt B T2 (fun j v kq => ∃ tt, v = .str ((t.lets rd).getD j ak) tt) (szl (a295 hsz hul hll hxl)) ?_ ?_
     · intro j v2 c2 γ3 m3 nw3 s hj hm3 hv2 hnw B; replace B : Bd w c2 γ3 m3 cenv [L2] [⟨"item", none, none⟩, ⟨"letter", none, none⟩, ⟨"read", some (L + 1), some (.ref rv)⟩] nw3 s := B; obtain ⟨xj, tj, hxj, rfl⟩ := aV hui hv2; refine ag ?_; ktf_call "st"; refine bQ ⟨rfl, ?_⟩; ktf_call "sts"; ktf_call "qs"; exact fu B .rfl (fun kq kq => ⟨tj, by rw [ab, hxj]; rfl⟩) rfl
     intro γ3 m3 ys s hm3 hys B; have hy := B.strs hys; ktf_call "qs"; refine ⟨γ3, m3, _, ys, hm2.trans hm3, ?_, rfl, B⟩; rw [hst]; refine bG hz ?_; have e : (af us.length).map (fun j => (t.lets rd).getD j ak) = t.lets rd := by
       have := aB (f := fun x => x) (d := ak) hul.symm; simpa using this
     rw [e] at hy; ktf_call "qs"; exact hy
   intro γ1 m1 xs r1 s hm1 hk1 hz B; ktf_call "sts"; rw [hvl, List.take_length] at hz; ktf_call "qs"; exact h r1 _ _ (B.done hc .nil av) fun hp ok => ⟨xs, hk1 hp ok, hz⟩
end
end
section
set_option hygiene false in
local macro_rules | `(tactic| ktf_call "st") => `(tactic| ((with_reducible refine hQf _ _ ?_); clear hQf))
set_option hygiene false in
local macro_rules | `(tactic| ktf_call "qs") => `(tactic| (repeat (first | ((with_reducible refine hQc _ _ ?_); clear hQc) | ((with_reducible refine hQf _ _ ?_); clear hQf))))
section
variable {w : World}
noncomputable def inside (x : Str) : Str := Txt.slice x (some 1) (some (-1))
noncomputable def isOp (y : Str) : Bool := !(Builtin.Str.occurrences (aa "*+") y 0 (aa "*+").length 1).isEmpty
noncomputable def sgAt (x : Str) (i : Nat) : Str := ⟨#[x.cps.getD i 0]⟩
inductive Parse : Str → List Str → Tr → List Str → Prop
 | leaf {x rd} : 1 ≤ x.length → 1 ≤ (bN x).length → (Txt.item x 0 == aa "(") = false → Parse x rd (.leaf rd.length) (rd ++ [Txt.item (bN x) (-1)])
 | node {x rd l rd1 r rd2} (p : Nat) : 1 ≤ x.length → (Txt.item x 0 == aa "(") = true → p < (inside x).length → (∀ q, q < p → isOp (sgAt (inside x) q) = true → chk (Txt.slice (inside x) none (some (q : Int))) = false) →
     isOp (sgAt (inside x) p) = true → chk (Txt.slice (inside x) none (some (p : Int))) = true →
     Parse (Txt.slice (inside x) none (some (p : Int))) rd l rd1 → Parse (Txt.slice (inside x) (some ((p : Int) + 1)) none) rd1 r rd2 → 1 ≤ rd1.length → Parse x rd (.node (sgAt (inside x) p) l r (rd1.length - 1)) rd2
theorem parse_len {x : Str} {rd rd' : List Str} {t : Tr} (h : Parse x rd t rd') : rd.length ≤ rd'.length := by
 induction h with
 | leaf _ _ _ => simp
 | node p _ _ _ _ _ _ _ _ _ a b => exact ae a b
theorem c_tree {x : Str} {rd rd' : List Str} {t : Tr} (hp : Parse x rd t rd') : ∀ {A : Around} {m : Mp} {s : Shared} {tx : Tok} {rv : Addr} {vs : List Value} {Q E : VP}, x.length ≤ 1000 → rd'.length ≤ 1000 → Rm A (t.dep + 5) (4 * t.dep + 20) → Bef w m s → LedOk m s [(rv, au vs)] → StrsAre vs rd →
   (∀ v m' s' vs', Aft [rv] m s m' s' → At rv (au vs') s'.heap → StrsAre vs' rd' → KT m' v t → Q v s') →
   wpAny (model PG w) A (call (.ref 290) [.str x tx, .ref rv]) Q E s := by
 induction hp with
 | @leaf x rd hx hs1 h0 =>
   intro A m s tx rv vs Q E hxl hrl hR b l hvs h
   refine dK (d := 4) (u := 17) (nw := [(rv, au vs)]) (ns := ["text", "read", "inside", "place", "sign", "left", "middle"])
     (ρ₀ := [⟨"text", none, some (.str x tx)⟩, ⟨"read", none, some (.ref rv)⟩, ⟨"inside", none, none⟩, ⟨"place", none, none⟩, ⟨"sign", none, none⟩, ⟨"left", none, none⟩, ⟨"middle", none, none⟩]) hR b l rfl rfl rfl rfl rfl rfl rfl rfl rfl rfl (by decide +kernel) (by rfl) (by decide +kernel) (by decide +kernel) rfl ?_
   intro A env L c s' hE hR' hc B hL; ktf_call "opq"; ktf_call "sts"; refine gY B (a316) (a315 hx) (fh (by decide) (by decide)) ?_; clear B; intro t1 s B; ktf_call "sts"; refine bZ (by simp only [bne, h0]; rfl) ?_; ktf_call "sts"; refine iY hxl (hR'.less (a322) (a321)) B.bef ?_; intro t2 m2 s2 f2; replace B := B.aft f2; ktf_call "sts"; refine i_neg B ?_; clear B; intro t3 s B; refine gY B (a320 hs1) (a259) (fh (by decide) (by decide)) ?_; clear B; intro t4 s B; ktf_call "sts"; have hvl := ax hvs; have hrl' : rd.length ≤ 1000 := by rw [List.length_append] at hrl; exact a319 hrl
   refine bH B .head (szl (a318 hvl hrl')) ?_; clear B; intro s B; ktf_call "sts"; refine gv B (B.at (.head _)) (by rw [sizeLine_eq]; simp; exact a317 hvl hrl') ?_; clear B; intro t5 s B; ktf_call "sts"; ktf_call "qs"; refine h _ _ _ _ (B.done hc l (by simp)) (B.at (.head _)) (bG hvs (.cons _ _ .nil)) ⟨tk, ?_⟩; congr 1
   simp [hvl]
 | @node x rd l rd1 r rd2 p hx h0 hp hq hop hck hl hr hmid ihl ihr =>
   intro A m s tx rv vs Q E hxl hrl hR b ld hvs h; have hdep : (Tr.node (sgAt (inside x) p) l r (rd1.length - 1)).dep = max l.dep r.dep + 1 := rfl; rw [hdep] at hR; have hd : l.dep ≤ max l.dep r.dep ∧ r.dep ≤ max l.dep r.dep := ⟨Nat.le_max_left _ _, Nat.le_max_right _ _⟩
   refine dK (d := max l.dep r.dep + 5) (u := 4 * max l.dep r.dep + 21) (nw := [(rv, au vs)]) (ns := ["text", "read", "inside", "place", "sign", "left", "middle"])
     (ρ₀ := [⟨"text", none, some (.str x tx)⟩, ⟨"read", none, some (.ref rv)⟩, ⟨"inside", none, none⟩, ⟨"place", none, none⟩, ⟨"sign", none, none⟩, ⟨"left", none, none⟩, ⟨"middle", none, none⟩]) hR b ld rfl rfl rfl rfl rfl rfl rfl rfl rfl rfl (by decide +kernel) (by rfl) (by decide +kernel) (by decide +kernel) rfl ?_
   intro A env L c s' hE hR' hc B hL; ktf_call "opq"; ktf_call "sts"; refine gY B (a316) (a315 hx) (fh (by decide) (by decide)) ?_; clear B; intro t1 s B; ktf_call "sts"; refine aY (by simp only [bne, h0]; rfl) ?_; ktf_call "sts"; refine i_neg B ?_; clear B; intro t3 s B; ktf_call "sts"; refine cy B (.int _ _) (.int _ _) ?_ (szl (a97 hxl)); clear B; intro t4 s B; ktf_call "sts"; replace hV : PutV (aa "inside") none (.str (inside x) t4) _ ρ := hV; have hil : (inside x).length ≤ x.length := Txt.slice_le _ _ _; apply src_enumS B hR'.handled; intro I s B T; refine cD B T ["place", "sign", "left", "middle"] (fun i m' ρ => i ≤ p) (Nat.zero_le _) ?_ ?_
   · clear B T; intro i v c1 γ1 m1 ρ s hi how hip hm hv B hback Qb hN hB hQ; obtain ⟨T, tp, _, rfl, ⟨cc, tc, hcc, rfl⟩, hT⟩ := hv; have hsg : (⟨#[cc]⟩ : Str) = sgAt (inside x) i := by
       have e : (inside x).cps.getD i 0 = cc := by
         rw [Array.getD_eq_getD_getElem?, show (inside x).cps[i]? = some cc from hcc]; rfl
       unfold sgAt; rw [e]
     rw [hsg] at hT; refine bA B hR'.handled hT rfl rfl ?_; clear B; intro s B; refine al (ag ?_); ktf_call "st"; refine al (ag ?_); ktf_call "st"; refine assignInOrder_nil ?_; ktf_call "sts"; have hck' : ∀ q : Nat, (Txt.slice (inside x) none (some (q : Int))).length ≤ 1000 := fun q => ae (Txt.slice_le _ _ _) (a308 hxl hil); refine br (fun hb => ?_) (fun hb => ?_)
     · ktf_call "sts"; refine cy B .none (.int _ _) ?_ (szl (a309 hxl hil)); clear B; intro t5 s B; ktf_call "sts"; refine iZ (hck' i) (hR'.less (a314) (a313)) B.bef ?_; intro m5 s5 f5; replace B := B.aft f5; ktf_call "sts"; by_cases hlt : i < p
       · rw [hq i hlt hb]; refine aY rfl ?_; ktf_call "sts"; refine aY rfl ?_; ktf_call "sts"; ktf_call "qs"; exact hN _ m5 _ _ (by ktf_call "ow") (by exact hlt) f5.le B
       have hip' : i = p := a13 hip hlt
       subst hip'; rw [hck]; refine bZ rfl ?_; ktf_call "sts"; refine bZ rfl ?_; ktf_call "sts"; refine cy B .none (.int _ _) ?_ (szl (a309 hxl hil)); clear B; intro t6 s B; ktf_call "sts"; have hrl1 : rd1.length ≤ rd2.length := parse_len hr; refine ihl (hck' i) (a308 hrl hrl1) (hR'.less (a312) (a311)) B.bef (B.led1 (.head _)) hvs ?_; intro lv m6 s6 vs6 f6 hat6 hvs6 hkl; replace B := B.aft1 .head f6 hat6; ktf_call "sts"; have hl6 := ax hvs6; refine gv B (B.at (.head _)) (szl (a310 hrl hrl1 hl6)) ?_; clear B; intro t7 s B; ktf_call "sts"; refine cy B (.int _ _) .none ?_ (szl (a309 hxl hil)); clear B; intro t8 s B; ktf_call "sts"; refine ihr (ae (Txt.slice_le _ _ _) (a308 hxl hil)) hrl (hR'.less (a307) (a306)) B.bef (B.led1 (.head _)) hvs6 ?_; intro rvv m7 s7 vs7 f7 hat7 hvs7 hkr; replace B := B.aft1 .head f7 hat7; ktf_call "sts"; refine n_list B (by show 4 ≤ sizeLine; decide) ?_; clear B; intro a8 m8 s hm8 hk8 B
       have e : ((vs6.length : Int) - 1) = ((rd1.length - 1 : Nat) : Int) := a305 hmid hl6
       have hk9 := B.ko hk8; rw [e] at hk9; ktf_call "qs"; refine hQ _ _ ?_; ktf_call "qs"; exact h _ _ _ _ ((hback.go B).done hc ld (by simp)) (B.at (.head _)) hvs7 ⟨a8, lv, rvv, tc, _, rfl, hk9, (hkl.up f7.le).up hm8, hkr.up hm8⟩
     have hne : i ≠ p := fun e => by
       subst e; have : isOp (sgAt (inside x) i) = false := hb; rw [hop] at this; cases this
     refine aY rfl ?_; ktf_call "sts"; ktf_call "qs"; exact hN _ m1 _ _ (by ktf_call "ow") (a304 hip hne) .rfl B
   clear B T; intro γ1 m2 ρ s how hip hm B; ktf_call "qs"; exact absurd hip (by show ¬ (inside x).length ≤ p; exact a303 hp)
end
end
section
section
variable {w : World}
theorem c_headers {A : Around} {m : Mp} {s : Shared} {Q E : VP} (hR : Rm A 5 12) (b : Bef w m s)
   (h : ∀ x lst m' s', Aft [] m s m' s' → HdK w m' x lst → s.heap.get? lst = none → m' lst = none → At lst (au []) s'.heap → Q (.ref x) s') :
   wpAny (model PG w) A (call (.ref 248) []) Q E s := by
 have X := (b.gr _ b.ok).k; refine wpAny_call ?_; obtain ⟨hh, g, d, t, os⟩ := s; refine make_core (makes_of X (by rfl)) (looks_findIn X (show findIn (KK w) (.ref 248) (aa "__init__") = some (some (.ref 142)) from by rfl)) (fun self => bind_fn X self (by rfl)) (.inl rfl) ?_
 have k1 : ∀ a o, hh.get? a = some o → ((hh.push emptyDict).push (instObj 248 hh.objs.size)).get? a = some o := fun a o e => ar _ _ _ (ar _ _ _ e); have hdx : ((hh.push emptyDict).push (instObj 248 hh.objs.size)).get? hh.objs.size = some emptyDict := ar _ _ _ (Heap.get?_push_size _ rfl); have hxx : ((hh.push emptyDict).push (instObj 248 hh.objs.size)).get? (hh.objs.size + 1) = some (instObj 248 hh.objs.size) := by
   have := Heap.get?_push_size (hh.push emptyDict) (o := instObj 248 hh.objs.size) rfl; rw [Heap.size_push] at this; ktf_call "qs"; exact this
 have fresh : ∀ a : Addr, hh.objs.size ≤ a → hh.get? a = none := fun a ha => by
   cases e : hh.get? a with
   | none => rfl
   | some o => exact absurd (Heap.lt_size e) (Nat.not_lt.mpr ha)
 have fm : ∀ a : Addr, hh.objs.size ≤ a → m a = none := fun a ha => by
   cases e : m a with
   | none => rfl
   | some o =>
     have h1 : hh.get? a = some o := b.ok _ _ e; rw [fresh a ha] at h1; cases h1
 generalize hdxe : hh.objs.size = dx at *
 have hne : (dx + 1 : Nat) ≠ dx := Nat.succ_ne_self _; generalize hs1 : (hh.push emptyDict).push (instObj 248 dx) = h1 at *
 have hm1 : m (dx + 1) = none := fm _ (Nat.le_succ _); have b1 : Bef w (m.put (dx + 1) (instObj 248 dx)) ⟨h1, g, d, t, os⟩ := by
   ktf_call "qs"; refine ⟨fun a o e => ?_, b.gr.up (Mp.le_put hm1), b.bare⟩; unfold Mp.put at e; by_cases q : a = dx + 1
   · rw [if_pos q] at e; cases e; rw [q]; exact hxx
   rw [if_neg q] at e; exact k1 a o (b.ok a o e)
 have l1 : LedOk (m.put (dx + 1) (instObj 248 dx)) ⟨h1, g, d, t, os⟩ [(dx, fun o => o = emptyDict)] := ⟨fun p hp => by rcases mSg hp with rfl; exact ⟨_, hdx, rfl⟩, fun p hp => by rcases mSg hp with rfl; show Mp.put _ _ _ dx = none; rw [Mp.put_ne hne.symm]; exact fm _ (Nat.le_refl _), by simp⟩
 refine enterX (d := 2) (u := 6) (s := ⟨h1, g, d, t, os⟩) (nw := [(dx, fun o => o = emptyDict)]) (binds := [(aa "self", .ref (dx + 1)), (aa "headers", .none)]) (ns := ["self", "headers", "k", "v"]) (ρ₀ := [⟨"self", none, some (.ref (dx + 1))⟩, ⟨"headers", none, some .none⟩, ⟨"k", none, none⟩, ⟨"v", none, none⟩])
   (Rm.under (hR.less (a156) (a155)) 248 [] []) (b1.gr _ b1.ok) b1 l1 rfl rfl rfl (fun M A E Q q => kp_binds (K := KK w) (b1.gr _ b1.ok).k (fun S => by rfl) M A E Q q) rfl rfl rfl rfl rfl rfl (by decide +kernel) (by rfl) (by decide +kernel) (by decide +kernel) rfl ?_
 intro A' env L c s' hA hfm hE hR' hc B hL; clear hA; generalize hγ : g = γ0 at B; ktf_call "sts"; refine aY rfl ?_; ktf_call "sts"; ktf_call "nL"; intro lst s B; ktf_call "sts"; obtain ⟨ol, hol, nl, hon⟩ := B.at (.head _); obtain ⟨hh2, g2, d2, t2, os2⟩ := s; refine call_type_obj hol (by rw [hon]; rfl) ?_; rw [show ol.cls = .type "list" from by rw [hon]]
 ktf_call "sts"; refine isnot_type_same ?_; ktf_call "sts"; refine aY rfl ?_; ktf_call "sts"; refine plainObj_wpAny_Assign_Attribute ?_ rfl; ktf_call "sts"; refine o_set B (B.ble (dx + 1) _ (by rw [hc]; exact Mp.put_self)) (.tail .head) ?_; clear B; intro s B; ktf_call "sts"; refine bZ rfl ?_; ktf_call "sts"; refine for_empty B hR'.handled (B.at (.head _)) fun γ1 s B => ?_; ktf_call "sts"; ktf_call "qs"; refine ⟨rfl, ?_⟩; show Q (.ref (dx + 1)) s
 have hnd := B.nodup; replace B := B.sub (nw' := [(dx, fun o => ∃ tk n, o = eg w tk lst n), (lst, au [])]) (fun p hp => by
   rcases mCo hp with rfl | hp
   · ktf_call "qs"; exact .tail _ (.head _)
   · rcases mSg hp with rfl; exact .head _) (by
   simp only [ai, List.map_nil, List.cons_append, List.nil_append, List.nodup_cons, List.mem_cons, List.not_mem_nil, or_false, not_or] at hnd ⊢; ktf_call "qs"; exact ⟨fun q => hnd.2.1 q.symm, fun q => q, .nil⟩)
 refine x13 B.freeze fun m2 hm2 hk2 B => ?_; have hold : ∀ a o, hh.get? a = some o → c.old a = some o ∧ a ≠ dx ∧ a ≠ dx + 1 := fun a o e => by
   have n1 : a ≠ dx := fun q => by rw [q, fresh dx (Nat.le_refl _)] at e; cases e
   have n2 : a ≠ dx + 1 := fun q => by rw [q, fresh (dx + 1) (Nat.le_succ _)] at e; cases e
   ktf_call "qs"; refine ⟨?_, n1, n2⟩; rw [hc]; ktf_call "qs"; exact Mp.get_of (k1 a o e) (by simpa using n1)
 have hlo := B.out lst (by simp); ktf_call "qs"; refine h (dx + 1) lst m2 s ⟨(Mp.le_put hm1).trans (by have := B.ble; rw [hc] at this; exact this), B.ok, fun a o e kq => B.old a o (hold a o e).1, fun a o e => ?_, by have := B.os; rw [hc] at this; exact this, fun i x e => ?_, by rw [B.gens]; exact B.bare⟩ ?_ ?_ hlo.1 (B.at (.head _))
 · rw [B.low a o (hold a o e).1, hc]; ktf_call "qs"; exact Mp.put_ne (hold a o e).2.2
 · rw [B.gens]; have := B.gpre; rw [hc] at this; ktf_call "qs"; exact this i x e
 · obtain ⟨od, ho1, tk, n, rfl⟩ := B.ko (P := fun o => ∃ tk n, o = eg w tk lst n) hk2; ktf_call "qs"; exact ⟨dx, tk, n, hm2 _ _ Mp.put_self, ho1⟩
 cases e : hh.get? lst with
 | none => rfl
 | some o =>
   have := (hold lst o e).1; rw [hlo.2] at this; cases this
end
end
section
section
variable {w : World} {c : Cx} {γ : Array GenState} {m : Mp} {env : Env} {s : Shared} {A : Around} {E : VP} {Q : Flow → Shared → Prop} {L : Addr} {own : List Addr} {ρ : List VE}
theorem kb {f : Value} {pos : Pos} {Q : VP} (hk : keepIn (KK w) f = true) (X : (KK w).In s.heap) (h : wpAny (model PG w) A (call f []) Q E s) :
   wpAny (model PG w) A (callWith pos f [] (backTo pos (starEach [] env)) []) Q E s :=
 callWith_of rfl (keeps_K hk) (PyProof.Rows.evalArgs_none ⟨X, h⟩)
theorem law_5 (W : LawE A env L) (htk : 1 ≤ s.toks) {i o g d : Nat}  {tt : Tok} {tr : Tr} {rd : List Str} (hp : Parse (aR o g d (ao i)) [] tr rd) (hxl : (aR o g d (ao i)).length ≤ 1000) (hrl : rd.length ≤ 1000) (hdep : tr.dep ≤ 6)
   (B : Bd w c γ m env own ρ [] s) (r_text : (⟨"text", none, some (.str (aR o g d (ao i)) tt)⟩ : VE) ∈ ρ) (r_table : Hn (aa "table") (some (L + 5)) ρ) (o_table : L + 5 ∈ own) (r_read : Hn (aa "read") (some (L + 6)) ρ) (o_read : L + 6 ∈ own) (r_tree : Hn (aa "tree") none ρ)
   (h : ∀ (x lst ra : Addr) (tv : Value) ρ' γ m' s', m.le m' → 1 ≤ s'.toks → HdK w m' x lst → Kn m' (LS ra rd) → KT m' tv tr →
     Ow ["table", "read", "tree"] ρ ρ' → (⟨"table", some (L + 5), some (.ref x)⟩ : VE) ∈ ρ' → (⟨"read", some (L + 6), some (.ref ra)⟩ : VE) ∈ ρ' → (⟨"tree", none, some (tv)⟩ : VE) ∈ ρ' → Bd w c γ m' env own ρ' [(lst, au [])] s' → wpAny (model PG w) A (execs (lawBody.drop 13) env) Q E s') :
   wpAny (model PG w) A (execs (lawBody.drop 11) env) Q E s := by
 conv => arg 3; arg 1; whnf
 have hE := W.kinds; have hR' := W.room; ktf_call "st"; refine Assign_Tuple ?_ rfl (swapsNone B.vars.kind (hE.kind (by rfl)) (hE.kind (by rfl)) rfl); ktf_call "st"; ktf_call "st"; ktf_call "st"; ktf_call "st"; show wpAny _ _ (callWith _ (.ref 248) [] _ _) _ _ _
 refine kb (by rfl) (B.kn B.gr).k ?_; refine c_headers (hR'.less (a209) (a208)) B.bef ?_; intro x lst m1 s1 f1 hx hnl hml hat; replace B := B.adopt f1 hnl hml hat; clear hnl hml hat; ktf_call "sts"; ktf_call "nL"; intro ra s B; ktf_call "sts"; ktf_call "nt"; intro T m2 s hm2 hT B; refine bA B hR'.handled (B.kn hT).tup rfl rfl ?_; clear B; intro s B; refine al (ag ?_); ktf_call "st"; refine al (ag ?_); ktf_call "st"; refine assignInOrder_nil ?_; ktf_call "sts"; refine c_tree hp hxl hrl (hR'.less (a207 hdep) (a206 hdep)) B.bef (B.led1 (.head _)) .nil ?_; intro tv m3 s3 vs3 f3 hat hvs hkt; replace B := B.aft1 .head f3 hat; have hle := (f1.le.trans hm2).trans f3.le; refine x13 B.freeze fun m4 hm4 hk4 B => ?_; ktf_call "st"; exact fun htk => h x lst ra tv _ _ m4 s (hle.trans hm4) htk (hx.up ((hm2.trans f3.le).trans hm4)) (fun hp ok => ⟨vs3, hk4 hp ok, hvs⟩) (hkt.up hm4) (by ktf_call "ow") (by ktf_call "mem") (by ktf_call "mem") (by ktf_call "mem") B
end
end
section
section
variable {w : World} {c : Cx} {γ : Array GenState} {m : Mp} {env : Env} {s : Shared} {A : Around} {E : VP} {Q : Flow → Shared → Prop} {L : Addr} {own : List Addr} {ρ : List VE}
noncomputable def dX (k : Nat) : Str := aa (toString (k : Int))
noncomputable def eh (f : Nat) (rd : List Str) : List (Str × Nat) := (af 5).map (fun k => (aw (f + k), k)) ++ (af rd.length).map fun j => (rd.getD j ak, j)
noncomputable def be (f : Nat) (rd : List Str) : List (Str × Str) := (eh f rd).map fun p => (p.1, dX p.2)
noncomputable def PairO (p : Str × Nat) (o : Obj) : Prop := ∃ t t', ki [.str p.1 t, .int (p.2 : Nat) t'] o
theorem so_num (w : World) : ∀ k, k < 6 → aG w false (dX k)
 | 0, _ => fun S t => by kernel_rfl
 | 1, _ => fun S t => by kernel_rfl
 | 2, _ => fun S t => by kernel_rfl
 | 3, _ => fun S t => by kernel_rfl
 | 4, _ => fun S t => by kernel_rfl
 | 5, _ => fun S t => by kernel_rfl
 | k + 6, h => by (first | lia | omega)
theorem num_len : ∀ k, k < 6 → (dX k).length ≤ 1000 := by decide +kernel
theorem law_6 (W : LawE A env L) (htk : 1 ≤ s.toks) {f : Nat} {words x lst ra : Addr}   {rd : List Str} (hf : f < 24) (hws : Kn m (LS words (aZ f))) (hx : HdK w m x lst) (hrd : Kn m (LS ra rd)) (hr6 : rd.length = 6) (hso : ∀ y ∈ rd, aG w true y)
   (B : Bd w c γ m env own ρ [(lst, au [])] s) (r_words : (⟨"words", some (L + 2), some (.ref words)⟩ : VE) ∈ ρ) (r_table : (⟨"table", some (L + 5), some (.ref x)⟩ : VE) ∈ ρ) (r_read : (⟨"read", some (L + 6), some (.ref ra)⟩ : VE) ∈ ρ) (r_name : Hn (aa "name") none ρ) (r_place : Hn (aa "place") none ρ)
   (h : ∀ ρ' γ m' s', m.le m' → 1 ≤ s'.toks → HdL m' lst (be f rd) →
     Ow ["name", "place"] ρ ρ' → Bd w c γ m' env own ρ' [] s' → wpAny (model PG w) A (execs (lawBody.drop 14) env) Q E s') :
   wpAny (model PG w) A (execs (lawBody.drop 13) env) Q E s := by
 conv => arg 3; arg 1; whnf
 have hE := W.kinds; have hR' := W.room; ktf_call "sts"; refine aA B [⟨"words", some (L + 2), some (.ref words)⟩] (by ktf_call "cs") rfl rfl rfl ?_; ktf_call "sts"; apply bu (k := 5) B hR'.handled (by decide +kernel); intro I s B T; refine cf B T [⟨"words", some (L + 2), some (.ref words)⟩] ["k"] (fun j v h => ∃ b, v = .ref b ∧ At b (PairO (aw (f + j), j)) h) ⟨rfl, rfl, rfl, by ktf_call "cs", rfl, rfl⟩ (by decide) ?_ ?_
 · intro j v c2 cenv L2 γ2 m6 own ρ nw2 s hj hE hm6 hv hC hM B Qx hK; obtain ⟨tj, rfl⟩ := hv; refine ag ?_; ktf_call "st"; ktf_call "sts"; refine cO (n := aw (f + j)) (B.kn (hws.up hm6)) (a12) (a195 hj) ?_ fun t5 => ?_
   · rw [Int.toNat_natCast]; unfold aZ; rw [List.getElem?_map, List.getElem?_range hj]; rfl
   ktf_call "sts"; ktf_call "nt"; intro T m7 s hm7 hT B; exact hK.go (by ktf_call "tn") B hm7 (hT.map fun h x => ⟨T, rfl, by obtain ⟨ob, h1, h2⟩ := x; exact ⟨ob, h1, _, _, h2⟩⟩)
 intro γ3 m3 xs r1 s hm3 hk3 hxs B; obtain ⟨bs, rfl, hbs⟩ := B.refs hxs; ktf_call "sts"; refine aA B [] (by ktf_call "cs") rfl rfl rfl ?_; ktf_call "sts"; refine x12 (B.koS (hrd.up hm3)) fun vs hko hvs => ?_; have hvl := ax hvs; apply bJ B hR'.handled hko; intro I s B T; refine cf B T [] ["place", "letter"] (fun j v h => ∃ b, v = .ref b ∧ At b (PairO (rd.getD j ak, j)) h) ⟨rfl, rfl, rfl, by ktf_call "cs", rfl, rfl⟩ (by rw [sizeLine_eq]; show vs.length ≤ _; exact a217 hr6 hvl) ?_ ?_
 · intro j v c2 cenv L2 γ2 m6 own ρ nw2 s hj hE hm6 hv hC hM B Qx hK; obtain ⟨T, tj, z, rfl, hz, hT⟩ := hv; obtain ⟨y, ty, hy, rfl⟩ := aV hvs (by simpa using hz); refine bA B hR'.handled hT rfl rfl ?_; clear B; intro s B; refine al (ag ?_); ktf_call "st"; refine al (ag ?_); ktf_call "st"; refine assignInOrder_nil ?_; ktf_call "sts"; ktf_call "nt"; intro T m7 s hm7 hT B; have e : rd.getD j ak = y := by rw [ab, hy]; rfl
   exact hK.go (by ktf_call "tn") B hm7 (hT.map fun h x => ⟨T, rfl, by obtain ⟨ob, h1, h2⟩ := x; exact ⟨ob, h1, _, _, by rw [e]; exact h2⟩⟩)
 intro γ4 m4 ys r2 s hm4 hk4 hys B; obtain ⟨cs, rfl, hcs⟩ := B.refs hys; have hbl := hbs.length; have hcl := hcs.length; rw [List.length_range] at hbl hcl; ktf_call "sts"; refine c8 B (B.kn (hk3.up hm4)) (B.kn hk4) (by rw [sizeLine_eq, am, am]; exact a216 hr6 hvl hbl hcl) ?_; clear B; intro r3 m5 s hm5 hk5 B; rw [← List.map_append] at hk5; have hall : All2 (fun b p => Kn m5 (At b (PairO p))) (bs ++ cs) (eh f rd) := by
   unfold eh; refine All2.append (All2.map_r (f := fun k => (aw (f + k), k)) (fun a b k => k) (hbs.imp fun kq kq k => k.up (hm4.trans hm5))) ?_; have := All2.map_r (f := fun j => (rd.getD j ak, j)) (S := fun b p => Kn m5 (At b (PairO p))) (fun a b k => k) (hcs.imp fun kq kq k => k.up hm5); rwa [hvl] at this
 have hlen := hall.length; generalize bs ++ cs = ds at hall hk5 hlen; have hl11 : (eh f rd).length = 11 := by unfold eh; simp [hr6]
 apply aC B hR'.handled (B.ko hk5); intro I s B T; have hle5 := (hm3.trans hm4).trans hm5; refine codeAny_mono (fg (x₀ := []) (fun hs => [(lst, au hs)]) B T ["name", "place"] (fun j m' ρ hs =>
     All2 (fun v p => ∃ T t t', v = .ref T ∧ ∃ o, m' T = some o ∧ ki [.str p.1 t, .str p.2 t'] o) hs ((be f rd).take j)) .nil ?_ ?_) (fun kq kq x => x)
 · clear B T; intro j v c1 γ6 m6 ρ s hs hj how hrows hm6 hv B hback Qb hN hB hQ; obtain ⟨b, hb, rfl⟩ : ∃ b, ds[j]? = some b ∧ v = .ref b := by
     have hv : (ds.map Value.ref)[j]? = some v := hv; rw [List.getElem?_map] at hv; refine x12 (Option.map_eq_some_iff.mp hv) fun b hb e => ?_; ktf_call "qs"; exact ⟨b, hb, e.symm⟩
   refine x12 (hall.get hb) fun p hp hkp => ?_; obtain ⟨ob, hob, t1, t2, hTO⟩ := B.ko (hkp.up hm6); have hmem : p ∈ eh f rd := List.mem_of_getElem? hp; have hpk : aG w true p.1 ∧ p.2 < 6 := by
     unfold eh at hmem; rcases mAp hmem with hmem | hmem
     · obtain ⟨k, hk, rfl⟩ := mMa hmem; have := List.mem_range.mp hk; ktf_call "qs"; exact ⟨so_word w (f + k) (a179 hf this), by show k < 6; exact a215 this⟩
     obtain ⟨k, hk, rfl⟩ := mMa hmem; have := List.mem_range.mp hk; ktf_call "qs"; refine ⟨hso _ ?_, by show k < 6; exact a214 hr6 this⟩
     show rd.getD k ak ∈ rd
     rw [ab, ac this]; ktf_call "qs"; exact List.getElem_mem _
   refine bA B hR'.handled (B.ato ⟨ob, hob, hTO⟩).tup rfl rfl ?_; clear B; intro s B; refine al (ag ?_); ktf_call "st"; refine al (ag ?_); ktf_call "st"; refine assignInOrder_nil ?_; ktf_call "sts"; refine cA (f := 245) B (hx.up (hle5.trans hm6)) (by rfl) (by rfl) (fun kq kq => by rfl) ?_; refine fV (by rfl) ?_; ktf_call "sts"; refine P.str_of_int (a := (p.2 : Nat)) ((by decide +kernel : ∀ k : Nat, k < 6 → (k : Int).natAbs.log2 < 1920) _ hpk.2) ?_; replace B := B.tk s.drawn (s.toks + 1); ktf_call "sts"; ktf_call "qs"; refine ⟨(B.kn B.gr).k, ?_⟩; have hhs := hrows.length; have hhl : hs.length ≤ 11 := by
     rw [hhs, List.length_take]; refine ae (Nat.min_le_right _ _) ?_; show ((eh f rd).map _).length ≤ 11
     rw [am]; exact a213 hl11
   refine c_add (hs := hs) hpk.1 (so_num w p.2 hpk.2) (num_len p.2 hpk.2) (a212 hhl) (hR'.less (a211) (a210)) B.bef (hx.up (hle5.trans hm6)) (B.at (.head _)) ((B.led1 (.head _)).out _ (.head _)) ?_; intro T t3 t4 m7 s7 f7 hat hT; replace B := B.aft1 .head f7 hat; ktf_call "sts"; ktf_call "qs"; refine hN _ m7 _ _ _ (by ktf_call "ow") ?_ f7.le B; have e : (be f rd).take (j + 1) = (be f rd).take j ++ [(p.1, dX p.2)] := by
     rw [List.take_add_one]; congr 1
     unfold be; rw [List.getElem?_map, hp]; rfl
   rw [e]; refine All2.append (hrows.imp fun v q z1 => by obtain ⟨T, t, t', h1, h2⟩ := z1; exact ⟨T, t, t', h1, aJ f7.le h2⟩) (.cons ⟨T, t3, t4, rfl, B.ko hT⟩ .nil)
 clear B T; intro γ6 m6 ρ s hs how hrows hm6 B; refine x13 B.freeze fun m7 hm7 hk7 B => ?_; have hel : (be f rd).length = (ds.map Value.ref).length := by
   show ((eh f rd).map _).length = _
   rw [am, am, hlen]
 rw [← hel, List.take_length] at hrows; ktf_call "st"; ktf_call "qs"; exact fun htk => h _ _ m7 s ((hle5.trans hm6).trans hm7) htk ⟨hs, B.ko hk7, hrows.imp fun v q z1 => by obtain ⟨T, t, t', h1, h2⟩ := z1; exact ⟨T, t, t', h1, aJ hm7 h2⟩⟩ (by ktf_call "ow") B
end
end
section
section
variable {w : World} {c : Cx} {γ : Array GenState} {m : Mp} {env : Env} {s : Shared} {A : Around} {E : VP} {Q : Flow → Shared → Prop} {L : Addr} {own : List Addr} {ρ : List VE}
theorem k_strT {c : Cx} {γ : Array GenState} {own : List Addr} {ρ : List VE} {nw : Led} {x : Str} {k : Nat} {pos : Pos} {Q : VP} (B : Bd w c γ m env own ρ nw s) (h : ∀ s', s'.toks = s.toks + 1 → Bd w c γ m env own ρ nw s' → Q (.str x s.toks) s') :
   wpAny (model PG w) A (eval (.Constant (.str x) k pos) env) Q E s := Calls.Constant_str (h _ rfl (B.tk _ _))
theorem iW {f : Addr} {first : List Value} {pos : Pos} {Q : VP} (hk : keepIn (KK w) (.ref f) = true) (X : (KK w).In s.heap)
   (h : wpAny (model PG w) A (call (.ref f) (first ++ [])) Q E s) : wpAny (model PG w) A (callWith pos (.ref f) first (backTo pos (starEach [] env)) []) Q E s :=
 callWith_of rfl (keeps_K hk) (PyProof.Rows.evalArgs_none ⟨X, h⟩)
noncomputable def bare (x : Str) : Str := Txt.replace (Txt.replace x (aa "\"(\"") (aa "")) (aa "\")\"") (aa "")
set_option hygiene false in
local macro_rules | `(tactic| ktf_call "vis") => `(tactic| ((with_reducible refine k_strT B ?_); clear B; intro s e1 B))
theorem law_7 (W : LawE A env L) (htk : 1 ≤ s.toks) {f i o g d : Nat} {words lv x lst ra : Addr} {tt : Tok} {tv : Value} {rd ls : List Str} {tr : Tr} {es : List (Str × Str)} (hf : f < 24) (hws : Kn m (LS words (aZ f))) (hlv : Kn m (LS lv ls)) (hl6 : ls.length = 6) (hx : HdK w m x lst) (hl : HdL m lst es) (hrd : Kn m (LS ra rd)) (hr6 : rd.length = 6) (hkt : KT m tv tr)
   (hfit : tr.fits 6) (hsz : tr.size ≤ 100) (hdep : tr.dep ≤ 6) (hxl : (aR o g d (ao i)).length ≤ 1000) (hlast : rd = ls.map fun y => Txt.item y (-1)) (hlen : ∀ y ∈ ls, 1 ≤ y.length ∧ y.length ≤ 100) (hbl : ∀ y ∈ ls, (Txt.replace y (aa "\"(\"") (aa "")).length ≤ 100 ∧ (bare y).length ≤ 100)
   (hwr : bN (aR o g d (ao i)) = bM (ls.map bare) tr) (hel : es.length ≤ 1000) (hes : es.map (·.1) = aZ f ++ rd)
   (B : Bd w c γ m env own ρ [] s) (r_words : (⟨"words", some (L + 2), some (.ref words)⟩ : VE) ∈ ρ) (r_leaves : (⟨"leaves", none, some (.ref lv)⟩ : VE) ∈ ρ) (r_text : (⟨"text", none, some (.str (aR o g d (ao i)) tt)⟩ : VE) ∈ ρ) (r_table : (⟨"table", some (L + 5), some (.ref x)⟩ : VE) ∈ ρ) (r_read : (⟨"read", some (L + 6), some (.ref ra)⟩ : VE) ∈ ρ) (r_tree : (⟨"tree", none, some (tv)⟩ : VE) ∈ ρ)
   (h : ∀ γ m' s', m.le m' → Bd w c γ m' env own ρ [] s' → wpAny (model PG w) A (execs (lawBody.drop 15) env) Q E s') :
   wpAny (model PG w) A (execs (lawBody.drop 14) env) Q E s := by
 conv => arg 3; arg 1; whnf
 have hE := W.kinds; have hR' := W.room; have hu : A.units < cLine := by have := W.room.units; exact a199 this
 ktf_call "sts"; refine toksQ htk ?_; refine aA B [] (by ktf_call "cs") rfl rfl rfl ?_; ktf_call "sts"; refine x12 (B.koS hlv) fun lvs hlo hli => ?_; have hll := ax hli; apply aC B hR'.handled hlo; intro I s B T; refine cf B T [] ["leaf"] (fun j v kq => ∃ t, v = .str ((fun y => Txt.item y (-1)) (ls.getD j ak)) t) ⟨rfl, rfl, rfl, by ktf_call "cs", rfl, rfl⟩ (by rw [hll, hl6]; decide) ?_ ?_
 · intro j v c2 cenv L2 γ2 m6 own ρ nw2 s hj hE hm6 hv hC hM B Qx hK; obtain ⟨y, ty, hy, rfl⟩ := aV hli hv; have hyd : ls.getD j ak = y := by rw [ab, hy]; rfl
   have hyl := hlen y (List.mem_of_getElem? hy); refine ag ?_; ktf_call "st"; ktf_call "sts"; refine i_neg B ?_; clear B; intro t5 s B; ktf_call "sts"; refine gY B (a260 hyl) (a259) (fh (by decide) (by decide)) ?_; clear B; intro t6 s B; exact hK.go (by ktf_call "tn") B .rfl (fun kq kq => ⟨_, by rw [hyd]⟩)
 intro γ3 m3 xs r1 s hm3 hk3 hxs B; rw [hll] at hxs; have hxi := B.strs hxs; rw [aB (l := ls) (d := ak) (f := fun y => Txt.item y (-1)) rfl, ← hlast] at hxi; ktf_call "sts"; refine gp hu (B.kn (hrd.up hm3)) (B.kn (P := LS r1 rd) (Kn.map hk3 fun h x => ⟨xs, x, hxi⟩)) ?_; ktf_call "sts"; refine aY rfl ?_; ktf_call "sts"; refine toksQ htk ?_; refine iY hxl (hR'.less (a211) (a210)) B.bef ?_; intro t2 m4 s f4; replace B := B.aft f4; ktf_call "sts"; have hle4 := hm3.trans f4.le; refine aA B [] (by ktf_call "cs") rfl rfl rfl ?_; ktf_call "sts"; refine toksQ htk ?_; apply aC B hR'.handled (aJ hle4 hlo); intro I s B T; intro htk; refine lc_goT (t0 := 1) B T htk [] ["leaf"] (fun kq => true) (fun j v kq => ∃ t, v = .str (bare (ls.getD j ak)) t) ⟨rfl, by decide +kernel, by decide +kernel, by ktf_call "ce", rfl, by show List.Nodup [aa "leaf"]; decide +kernel⟩ (by rw [hll, hl6]; decide) ?_ ?_
 · rintro j v c2 cenv L2 γ2 m6 nw2 s hj htk hE hm6 hv hnw B; simp only [ai, List.map_nil, List.cons_append, List.nil_append, List.append_nil] at B; obtain ⟨y, ty, hy, rfl⟩ := aV hli hv; have hyd : ls.getD j ak = y := by rw [ab, hy]; rfl
   have hyl := hlen y (List.mem_of_getElem? hy); have hyb := hbl y (List.mem_of_getElem? hy); have z0 : (aa "").length = 0 := by decide +kernel
   simp only [hyd]; refine ag ?_; refine toksQ htk ?_; ktf_call "st"; intro htk; refine bQ ⟨rfl, ?_⟩; rw [if_pos rfl]; refine MethodCall_ ?_; refine MethodCall_ ?_; ktf_call "st"; ktf_call "st"; ktf_call "st"; refine spliced_more ?_; ktf_call "vis"; refine spliced_more ?_; ktf_call "vis"; ktf_call "st"; refine toksQ (a258 e1) ?_; refine SC.replace (y := aa "\"(\"") (z := aa "") ?_ ?_ ?_ (by decide +kernel) (by rw [z0]; exact a257 hyl) fun t7 k7 => ?_
   · show @Ne Nat _ _; exact a255 htk
   · show @Ne Nat _ _; exact a254 (by assumption)
   · show @Ne Nat _ _; exact a253 (by assumption)
   intro htk; replace B := B.tk s.drawn k7; generalize (⟨s.heap, s.gens, s.drawn, k7, s.os⟩ : Shared) = s7 at B htk ⊢; ktf_call "st"; ktf_call "st"; refine spliced_more ?_; ktf_call "vis"; refine spliced_more ?_; ktf_call "vis"; ktf_call "st"; refine SC.replace (y := aa "\")\"") (z := aa "") ?_ ?_ ?_ (by decide +kernel) (by rw [z0]; exact a256 hyb) fun t8 k8 => ?_
   · show @Ne Nat _ _; exact a255 htk
   · show @Ne Nat _ _; exact a254 (by assumption)
   · show @Ne Nat _ _; exact a253 (by assumption)
   replace B := B.tk s.drawn k8; exact fu B .rfl (fun kq kq => ⟨_, rfl⟩) rfl
 intro γ5 m5 ys r2 s hm5 hk5 hys B; rw [cu, hll] at hys; have hyi := B.strs hys; rw [aB (l := ls) (d := ak) (f := fun y => bare y) rfl] at hyi; ktf_call "sts"; have hle5 := hle4.trans hm5; refine c_written (ls := ls.map bare) (by rw [am]; exact a239 hl6) ?_ tr (by rw [am, hl6]; exact hfit) hsz (hR'.less (a224 hdep) (a223 hdep)) B.bef (hkt.up hle5) (fun hp ok => ⟨ys, hk5 hp ok, hyi⟩) ?_
 · intro y hy; obtain ⟨z, hz, rfl⟩ := mMa hy; exact (hbl z hz).2
 intro t9 m6 s6 f6; replace B := B.aft f6; ktf_call "sts"; refine aY (by rw [hwr]; simp) ?_; ktf_call "sts"; have hle6 := hle5.trans f6.le; refine cA (f := 200) B (hx.up hle6) (by rfl) (by rfl) (fun kq kq => by rfl) ?_; refine iW (by rfl) (B.kn B.gr).k ?_; refine c_keys hel (hR'.less (a178) (a177)) B.bef (hx.up hle6) (hl.up hle6) ?_; intro rk m7 s7 f7 hk7; replace B := B.aft f7; ktf_call "sts"; have hle7 := hle6.trans f7.le; refine x12 (B.koS (hws.up hle7)) fun wvs hwo hwi => ?_; refine x12 (B.koS (hrd.up hle7)) fun rvs hro hri => ?_; have hwl := ax hwi; have hrl := ax hri
 refine c8 B (B.ato hwo) (B.ato hro) (by have h5 : (aZ f).length = 5 := (by simp [aZ]); rw [sizeLine_eq]; exact a252 hr6 hwl hrl h5) ?_; clear B; intro rs m8 s hm8 hk8 B
 rw [hes] at hk7; refine gp hu (B.kn (hk7.up hm8)) (B.kn (P := LS rs (aZ f ++ rd)) (Kn.map hk8 fun h x => ⟨_, x, bG hwi hri⟩)) ?_; ktf_call "sts"; refine aY rfl ?_; ktf_call "st"; refine aY rfl ?_; ktf_call "st"; exact fun htk => h _ m8 s (hle7.trans hm8) B
end
end
section
section
variable {w : World} {c : Cx} {γ : Array GenState} {m : Mp} {env : Env} {s : Shared} {A : Around} {E : VP} {Q : Flow → Shared → Prop} {L : Addr} {own : List Addr} {ρ : List VE}
noncomputable def abc : Str := aa "aBc"
theorem so_abc (w : World) : ∀ j, j < 3 → aG w true (Txt.lower ⟨#[abc.cps.getD j 0]⟩)
 | 0, _ => fun S t => by kernel_rfl
 | 1, _ => fun S t => by kernel_rfl
 | 2, _ => fun S t => by kernel_rfl
 | j + 3, h => by (first | lia | omega)
theorem law_8 (W : LawE A env L) {x lst : Addr}   {es : List (Str × Str)} {lks : List (Nat × Nat)} (hx : HdK w m x lst) (hl : HdL m lst es) (hle : ∀ p ∈ es, dM p.1) (hel : es.length ≤ 1000)
   (hlk : lks.length = 3) (hal : ∀ j p q, lks[j]? = some (p, q) → p < 6 ∧ q < 6 ∧ allOf es ⟨#[abc.cps.getD j 0]⟩ = [dX p, dX q])
   (B : Bd w c γ m env own ρ [] s) (r_table : (⟨"table", some (L + 5), some (.ref x)⟩ : VE) ∈ ρ) (r_links : Hn (aa "links") none ρ) (r_net : Hn (aa "net") none ρ)
   (h : ∀ (lk : Addr) ρ' γ m' s', m.le m' → KP m' lk (lks.map fun p => ((p.1 : Int), (p.2 : Int))) →
     Ow ["links", "net"] ρ ρ' → (⟨"links", none, some (.ref lk)⟩ : VE) ∈ ρ' → (⟨"net", none, some (.bool true)⟩ : VE) ∈ ρ' → Bd w c γ m' env own ρ' [] s' → wpAny (model PG w) A (execs (lawBody.drop 17) env) Q E s') :
   wpAny (model PG w) A (execs (lawBody.drop 15) env) Q E s := by
 conv => arg 3; arg 1; whnf
 have hE := W.kinds; have hR' := W.room; ktf_call "st"; refine cU B [⟨"table", some (L + 5), some (.ref x)⟩] (by ktf_call "cs") rfl rfl rfl (hE.kind (by rfl)) rfl ?_; ktf_call "sts"; apply src_str (z := abc) B hR'.handled; intro I s B T; have hsz : abc.cps.size = 3 := by decide +kernel
 refine dD (y := aa "links") B T [⟨"table", some (L + 5), some (.ref x)⟩] ["letter"] (fun j v h => ∃ b, v = .ref b ∧ LI b [((lks.getD j (0, 0)).1 : Int), ((lks.getD j (0, 0)).2 : Int)] h) ⟨rfl, rfl, rfl, by ktf_call "cs", rfl, rfl⟩ (by rw [hsz]; decide) (by ktf_call "has") ?_ ?_
 · intro j v c2 cenv L2 γ2 m6 own ρ nw2 s hj hE hm6 hv hC hM B Qx hK; obtain ⟨cc, tj, hcc, rfl⟩ := hv; have hj3 : j < 3 := a220 hsz hj
   have hcd : abc.cps.getD j 0 = cc := by rw [Array.getD_eq_getD_getElem?, hcc]; rfl
   obtain ⟨⟨p, q⟩, hpq⟩ : ∃ pq, lks[j]? = some pq := ⟨_, ac (a219 hlk hsz hj)⟩; refine x03 (hal j p q hpq) fun hp6 hq6 hall => ?_; have hgd : lks.getD j (0, 0) = (p, q) := by rw [ab, hpq]; rfl
   rw [hcd] at hall; have hsa := so_abc w j hj3; rw [hcd] at hsa; refine ag ?_; ktf_call "st"; refine aA B [] (by ktf_call "cs") rfl rfl rfl ?_; ktf_call "sts"; refine cA (f := 187) B (hx.up hm6) (by rfl) (by rfl) (fun kq kq => by rfl) ?_; refine fV (by rfl) ?_; ktf_call "sts"; ktf_call "qs"; refine ⟨(B.kn B.gr).k, ?_⟩; refine c_getall (nm := ⟨#[cc]⟩) hsa ?_ hle hel (hR'.less (a211) (a210)) B.bef (hx.up hm6) (hl.up hm6) ?_
   · rw [← hcd]; exact (by decide +kernel : ∀ j : Nat, j < 3 → Builtin.Str.tooLong (Txt.lower ⟨#[abc.cps.getD j 0]⟩).length = false) j hj3
   intro r m7 s7 f7 hr; rw [hall] at hr; replace B := B.aft f7; refine x12 (B.koS hr) fun us hku hus => ?_; have hul := ax hus; apply aC B hR'.handled hku; intro I2 s B T2; refine cf B T2 [] ["place"] (fun k v kq => ∃ t, v = .int (([(p : Int), (q : Int)] : List Int).getD k 0) t) ⟨rfl, rfl, rfl, by ktf_call "cs", rfl, rfl⟩ (by rw [hul]; show 2 ≤ sizeLine; decide) ?_ ?_
   · intro k v c3 cenv3 L3 γ3 m8 own ρ nw3 s hk hE hm8 hv hC hM B Qx hK; obtain ⟨y, ty, hy, rfl⟩ := aV hus hv; obtain ⟨z, hz, rfl, hzk⟩ : ∃ z : Nat, z < 6 ∧ y = dX z ∧ ([(p : Int), (q : Int)] : List Int).getD k 0 = (z : Int) := by
       match k, hy with
       | 0, hy => cases hy; exact ⟨p, hp6, rfl, rfl⟩
       | 1, hy => cases hy; exact ⟨q, hq6, rfl, rfl⟩
       | k + 2, hy => simp at hy
     refine ag ?_; ktf_call "st"; ktf_call "sts"; refine KIN.call_num (n := (z : Int)) (a12) (a218 hz) ?_; replace B := B.tk s.drawn (s.toks + 1); ktf_call "qs"; exact hK.go (by ktf_call "tn") B .rfl (fun kq kq => ⟨_, by rw [hzk]⟩)
   intro γ3 m8 xs r3 s hm8 hk8 hxs B; have hxi := B.ints hxs; rw [show us.length = 2 from hul] at hxi
   ktf_call "qs"; exact hK.go (by ktf_call "tn") B (f7.le.trans hm8) (fun hp ok => ⟨r3, rfl, xs, hk8 hp ok, by rw [hgd]; exact hxi⟩)
 intro γ3 m3 xs lk ρ s hm3 hk3 hxs hV B; rw [hsz] at hxs; obtain ⟨bs, rfl, hbs⟩ := B.refs hxs; have hkp : KP m3 lk (lks.map fun p => ((p.1 : Int), (p.2 : Int))) := by
   ktf_call "qs"; refine ⟨bs, B.ko hk3, ?_⟩; have := All2.map_r (f := fun j => (((lks.getD j (0, 0)).1 : Int), ((lks.getD j (0, 0)).2 : Int))) (S := fun b (p : Int × Int) => Kn m3 (LI b [p.1, p.2])) (fun a b k => k) hbs; rwa [aB (l := lks) (d := (0, 0)) (f := fun p => ((p.1 : Int), (p.2 : Int))) hlk] at this
 ktf_call "st"; ktf_call "st"; ktf_call "st"; ktf_call "st"; ktf_call "st"; ktf_call "qs"; exact h lk _ _ m3 s hm3 hkp (by ktf_call "ow") (by ktf_call "mem") (by ktf_call "mem") B
end
end
section
section
variable {w : World} {c : Cx} {γ : Array GenState} {m : Mp} {env : Env} {s : Shared} {A : Around} {E : VP} {Q : Flow → Shared → Prop} {L : Addr} {own : List Addr} {ρ : List VE}
noncomputable def bT (k ch : Nat) : Nat := (((af (az k).length).filter fun j => ch.testBit j).map fun j => 2 ^ ((az k).getD j 0)).sum
noncomputable def chosen (k ch : Nat) : List Int := if bT k ch = 0 then [9] else (az (bT k ch)).map Int.ofNat
noncomputable def cW (f k ch : Nat) : List Str := if bT k ch = 0 then [aa "0x0"] else cH f (bT k ch)
theorem sub_lt : ∀ i, i < 12 → ∀ ch, ch < 2 ^ (az (ao i)).length → bT (ao i) ch < 32 := by decide +kernel
theorem bits_len : ∀ i, i < 12 → (az (ao i)).length ≤ 4 := by decide +kernel
noncomputable def bf (lks : List (Nat × Nat)) (tr : Tr) (k n : Nat) : Bool := (af n).all fun ch => bC ((lks.map fun p => ((p.1 : Int), (p.2 : Int))) ++ ties (chosen k ch) tr)
theorem ec (lks : List (Nat × Nat)) (tr : Tr) (k n : Nat) : bf lks tr k (n + 1) = (bf lks tr k n && bC ((lks.map fun p => ((p.1 : Int), (p.2 : Int))) ++ ties (chosen k n) tr)) := by
 unfold bf; rw [List.range_succ, List.all_append]; simp
theorem law_9 (W : LawE A env L) {f i : Nat} {pa x lst lk : Addr} {tf : Tok} {tv : Value} {es : List (Str × Str)} {lks : List (Nat × Nat)} {tr : Tr} (hf : f < 24) (hi : i < 12)
   (hpa : Kn m (LI pa ((az (ao i)).map Int.ofNat))) (hx : HdK w m x lst) (hl : HdL m lst es) (hle : ∀ p ∈ es, dM p.1) (hel : es.length ≤ 1000) (hkp : KP m lk (lks.map fun p => ((p.1 : Int), (p.2 : Int)))) (hlk : lks.length = 3) (hkt : KT m tv tr)
   (hfit : tr.fits 1000) (hsz : tr.size ≤ 100) (hdep : tr.dep ≤ 6) (hrg : ∀ ch, ch < 2 ^ (az (ao i)).length → ∀ p ∈ (lks.map fun p => ((p.1 : Int), (p.2 : Int))) ++ ties (chosen (ao i) ch) tr, 0 ≤ p.1 ∧ p.1 < 11 ∧ 0 ≤ p.2 ∧ p.2 < 11)
   (hget : ∀ ch, ch < 2 ^ (az (ao i)).length → ∀ (j : Nat) (y : Str), (cW f (ao i) ch)[j]? = some y → ∃ z : Nat, (chosen (ao i) ch)[j]? = some (z : Int) ∧ z < 10 ∧ dG es (Txt.swapcase y) (aa "9") = dX z ∧ aG w true (Txt.lower (Txt.swapcase y)) ∧ dM (Txt.swapcase y) ∧ Builtin.Str.tooLong (Txt.swapcase y).length = false)
   (B : Bd w c γ m env own ρ [] s) (r_first : (⟨"first", some (L + 1), some (.int (f : Nat) tf)⟩ : VE) ∈ ρ) (r_pars : (⟨"pars", some (L + 4), some (.ref pa)⟩ : VE) ∈ ρ) (r_table : (⟨"table", some (L + 5), some (.ref x)⟩ : VE) ∈ ρ) (r_tree : (⟨"tree", none, some (tv)⟩ : VE) ∈ ρ) (r_links : (⟨"links", none, some (.ref lk)⟩ : VE) ∈ ρ) (r_net : (⟨"net", none, some (.bool true)⟩ : VE) ∈ ρ) (r_choice : Hn (aa "choice") (some (L + 7)) ρ) (o_choice : L + 7 ∈ own) (r_told : Hn (aa "told") none ρ) (r_found : Hn (aa "found") none ρ)
   (h : ∀ ρ' γ m' s', m.le m' →
     Ow ["choice", "told", "found", "net"] ρ ρ' → (⟨"net", none, some (.bool (bf lks tr (ao i) (2 ^ (az (ao i)).length)))⟩ : VE) ∈ ρ' → Bd w c γ m' env own ρ' [] s' → wpAny (model PG w) A (execs (lawBody.drop 18) env) Q E s') :
   wpAny (model PG w) A (execs (lawBody.drop 17) env) Q E s := by
 conv => arg 3; arg 1; whnf
 have hE := W.kinds; have hR' := W.room; have hu : A.units < cLine := by have := W.room.units; exact a199 this
 have hbl := bits_len i hi; ktf_call "sts"; refine x12 (B.koI hpa) fun pvs hpo hpi => ?_; have hpl := aF hpi; rw [am] at hpl; refine gv B (B.ato hpo) (by rw [hpl]; exact szl (a235 hbl)) ?_; clear B; intro t1 s B; rw [hpl]; generalize hn : (az (ao i)).length = n at *
 ktf_call "sts"; rw [show (2 : Int) ^ ((n : Nat) : Int).toNat = ((2 ^ n : Nat) : Int) from by rw [Int.toNat_natCast]; simp]
 have hpow : 2 ^ n ≤ 16 := by
   have : n = 0 ∨ n = 1 ∨ n = 2 ∨ n = 3 ∨ n = 4 := a236 hbl
   rcases this with h | h | h | h | h <;> subst h <;> decide
 apply bu (k := 2 ^ n) B hR'.handled ((by decide +kernel : ∀ n, n ≤ 4 → Builtin.Range.small 0 ((2 ^ n : Nat) : Int) 1 = true) n hbl); intro I s B T; refine codeAny_mono (cD B T ["choice", "told", "found", "net"] (fun ch m' ρ => (⟨"net", none, some (.bool (bf lks tr (ao i) ch))⟩ : VE) ∈ ρ) (by ktf_call "mem") ?_ ?_) (fun kq kq x => x)
 · clear B T; intro ch v c1 γ6 m6 ρ s hch how hnet hm6 hv B hback Qb hN hB hQ; obtain ⟨tc, rfl⟩ := hv; have hget := hget ch hch; have hrg := hrg ch hch; have hsub := sub_lt i hi ch (by rw [hn]; exact hch); refine ag ?_; ktf_call "sts"; refine aA B [⟨"first", some (L + 1), some (.int (f : Nat) tf)⟩, ⟨"choice", some (L + 7), some (.int (ch : Nat) tc)⟩] (by ktf_call "cs") rfl rfl rfl ?_; ktf_call "sts"; apply bJ B hR'.handled (aJ hm6 hpo); intro I s B T; refine dC B T [⟨"first", some (L + 1), some (.int (f : Nat) tf)⟩, ⟨"choice", some (L + 7), some (.int (ch : Nat) tc)⟩] ["j", "par"] (fun j => ch.testBit j) (fun j v kq => ∃ t, v = .int ((2 ^ (f + (az (ao i)).getD j 0) : Nat) : Int) t) ⟨rfl, rfl, rfl, by ktf_call "cs", rfl, rfl⟩ (by show pvs.length ≤ _; rw [hpl]; exact szl (a235 hbl)) ?_ ?_
   · intro j v c2 cenv L2 γ2 m7 own ρ nw2 s hj hE hm7 hv hC hM B Qt hK; obtain ⟨T, tj, z, rfl, hz, hT⟩ := hv; obtain ⟨y, ty, hy, rfl⟩ := bz hpi (by simpa using hz); obtain ⟨b, hb, rfl⟩ := Option.map_eq_some_iff.mp (by rwa [List.getElem?_map] at hy); have hb5 : b < 5 := List.mem_range.mp (List.mem_filter.mp (List.mem_of_getElem? hb)).1; have hbd : (az (ao i)).getD j 0 = b := by rw [ab, hb]; rfl
     refine bA B hR'.handled hT rfl rfl ?_; clear B; intro s B; refine al (ag ?_); ktf_call "st"; refine al (ag ?_); ktf_call "st"; refine assignInOrder_nil ?_; ktf_call "sts"; refine hK.go (eA ch j) (by ktf_call "tn") B .rfl fun hb Qx hK => ?_; have hb0 : (0 : Int) ≤ (f : Int) + Int.ofNat b := by simp only [Int.ofNat_eq_natCast]; exact a234
     have hb1 : (f : Int) + Int.ofNat b ≤ 1000000 := by simp only [Int.ofNat_eq_natCast]; exact a233 hf hb5
     ktf_call "sts"; have e : (1 : Int) * 2 ^ ((f : Int) + Int.ofNat b).toNat = ((2 ^ (f + (az (ao i)).getD j 0) : Nat) : Int) := by
       rw [hbd, show ((f : Int) + Int.ofNat b).toNat = f + b from by simp only [Int.ofNat_eq_natCast]; exact a232]
       simp
     exact hK.go (by ktf_call "tn") B .rfl fun kq kq => ⟨_, by rw [e]⟩
   intro γ3 m7 xs r1 s hm7 hk7 hxs B; have hxi := B.ints hxs; ktf_call "sts"; refine l_sum B hR'.handled ⟨xs, B.kn hk7, hxi⟩ ?_; clear B; intro t2 s B; have hsum : (((af pvs.length).filter fun j => ch.testBit j).map fun j => ((2 ^ (f + (az (ao i)).getD j 0) : Nat) : Int)).sum = ((bT (ao i) ch <<< f : Nat) : Int) := by
     unfold bT; rw [hpl, hn, Nat.shiftLeft_eq]; generalize (af n).filter (fun j => ch.testBit j) = is; induction is with
     | nil => simp
     | cons a r ih =>
       simp only [ai, List.sum_cons, ih]; rw [Nat.add_mul, Nat.pow_add, Nat.mul_comm]; simp
   rw [hsum]; ktf_call "sts"; refine gP (bT (ao i) ch <<< f) ?_ (hR'.less (a178) (a177)) B.bef ?_
   · rw [Nat.shiftLeft_eq]; have h1 : 2 ^ f ≤ 2 ^ 23 := Nat.pow_le_pow_right (by decide) (a193 hf); have h2 : bT (ao i) ch * 2 ^ f ≤ 31 * 2 ^ 23 := Nat.mul_le_mul (a198 hsub) h1; exact a197 h2
   intro t3 m8 s8 f8; replace B := B.aft f8; ktf_call "sts"; have hpl2 := fI (k := bT (ao i) ch) hf hsub; refine gf (x := aK (bT (ao i) ch <<< f)) (y := aa ", ") B (by decide +kernel) (szl (a205 hpl2)) (by have := cut_len (aK (bT (ao i) ch <<< f)) (aa ", "); rw [sizeLine_eq]; exact a204 hpl2 this) ?_; rw [show Txt.split (aK (bT (ao i) ch <<< f)) (aa ", ") = cW f (ao i) ch from by
     unfold cW; by_cases q : bT (ao i) ch = 0
     · rw [if_pos q, q]; exact jP hf
     rw [if_neg q]; exact fw hf hsub q]
   clear B; intro sp m9 s hm9 hS B; ktf_call "sts"; have hle9 := (hm7.trans f8.le).trans hm9; refine cU B [⟨"table", some (L + 5), some (.ref x)⟩] (by ktf_call "cs") rfl rfl rfl (hE.kind (by rfl)) rfl ?_; ktf_call "sts"; refine x12 (B.koS hS) fun svs hso hsi => ?_; have hsl := ax hsi; have htl : (cW f (ao i) ch).length ≤ 5 := by
     unfold cW; split
     · decide
     ktf_call "qs"; exact eU _ _
   apply aC B hR'.handled hso; intro I s B T; refine dD (y := aa "found") B T [⟨"table", some (L + 5), some (.ref x)⟩] ["word"] (fun j v h => ∃ b, v = .ref b ∧ At b (fun ob => ∃ t, ki [.str (dX ((chosen (ao i) ch).getD j 0).toNat) t, .str (dX ((chosen (ao i) ch).getD j 0).toNat) t] ob) h) ⟨rfl, rfl, rfl, by ktf_call "cs", rfl, rfl⟩ (by rw [hsl]; exact szl (a231 htl)) (by ktf_call "has") ?_ ?_
   · intro j v c2 cenv L2 γ2 m10 own ρ nw2 s hj hE hm10 hv hC hM B Qx hK; obtain ⟨y, ty, hy, rfl⟩ := aV hsi hv; refine x16 (hget j y hy) fun z hz hz10 hgt hsrch hlow htoo => ?_; have hzd : ((chosen (ao i) ch).getD j 0).toNat = z := by rw [ab, hz]; simp
     refine ag ?_; ktf_call "st"; refine Call_KW ?_; ktf_call "st"; refine callWith_KW (K := KK w) (B.kn B.gr).k (by rfl) (by rfl) ?_; ktf_call "sts"; refine SC.swapcase htoo ?_; replace B := B.tk s.drawn (s.toks + 1); ktf_call "sts"; refine Attribute_name ?_; ktf_call "sts"; refine o_bound B (hx.up ((hm6.trans hle9).trans hm10)) ?_; clear B; intro q m11 s hm11 hq B; ktf_call "sts"; refine kwAll_cons ?_; ktf_call "sts"; refine kwAll_nil ⟨(B.kn B.gr).k, ?_⟩; have hle11 := ((hm6.trans hle9).trans hm10).trans hm11; refine kd hsrch hlow hle hel (hR'.less (a230) (a229)) B.bef (hx.up hle11) (hl.up hle11) hq ?_; intro t4 T m12 s12 f12 hT; replace B := B.aft f12; rw [hgt, ← hzd] at hT; ktf_call "qs"; exact hK.go (by ktf_call "tn") B (hm11.trans f12.le) (hT.map fun h x => ⟨T, rfl, by obtain ⟨ob, h1, h2⟩ := x; exact ⟨ob, h1, _, h2⟩⟩)
   intro γ4 m10 ys fd ρ s hm10 hk10 hys hV B; rw [hsl] at hys; obtain ⟨bs, rfl, hbs⟩ := B.refs hys; have hbl2 := hbs.length; rw [List.length_range] at hbl2; ktf_call "st"; have B0 := B; have hitem : ∀ (j : Nat) (v : Value), (bs.map Value.ref)[j]? = some v → ∃ b, v = .ref b ∧ Kn m10 (At b (fun ob => ∃ t, ki [.str (dX ((chosen (ao i) ch).getD j 0).toNat) t, .str (dX ((chosen (ao i) ch).getD j 0).toNat) t] ob)) := by
     intro j v hv; rw [List.getElem?_map] at hv; obtain ⟨b, hb, rfl⟩ := Option.map_eq_some_iff.mp hv; refine x12 (hbs.get hb) fun j' hj' hk' => ?_; have hjl := (List.getElem?_eq_some_iff.mp hb).1; rw [List.getElem?_range (a228 hbl2 hjl)] at hj'; cases hj'
     ktf_call "qs"; exact ⟨b, rfl, hk'⟩
   have hz10 : ∀ j : Nat, j < bs.length → ((chosen (ao i) ch).getD j 0).toNat < 10 := by
     intro j hj; have hjt : j < (cW f (ao i) ch).length := a228 hbl2 hj
     refine x13 (hget j _ (ac hjt)) fun z hz hz10 kq => ?_; rw [ab, hz]; simpa using hz10
   ktf_call "sts"; refine aA B [] (by ktf_call "cs") rfl rfl rfl ?_; ktf_call "sts"; apply aC B hR'.handled (B.ko hk10); intro I s B T; refine dC B T [] ["one", "other"] (fun kq => false) (fun j v kq => True) ⟨rfl, rfl, rfl, by ktf_call "cs", rfl, rfl⟩ (by rw [am]; exact szl (a227 htl hbl2)) ?_ ?_
   · intro j v c2 cenv L2 γ2 m11 own ρ nw2 s hj hE hm11 hv hC hM B Qt hK; obtain ⟨b, rfl, hb⟩ := hitem j v hv; obtain ⟨ob, hob, tb, hTO⟩ := B.ko (hb.up hm11); refine bA B hR'.handled (B.ato ⟨ob, hob, hTO⟩).tup rfl rfl ?_; clear B; intro s B; refine al (ag ?_); ktf_call "st"; refine al (ag ?_); ktf_call "st"; refine assignInOrder_nil ?_; ktf_call "sts"; exact hK.go (by simp) (by ktf_call "tn") B .rfl fun hb => Bool.noConfusion hb
   intro γ5 m11 xs2 r2 s hm11 hk11 hxs2 B; have hx0 : xs2 = [] := by
     have := hxs2.length; rw [List.filter_eq_nil_iff.mpr (by simp)] at this; ktf_call "qs"; exact List.length_eq_zero_iff.mp this
   subst hx0; ktf_call "sts"; ktf_call "nl"; intro nl m12 s hm12 hnl B; ktf_call "sts"; refine iH hu (B.kn (hk11.up hm12)) (B.kn hnl) rfl (fun A j x y hx => by simp at hx) ?_; ktf_call "sts"; refine aY rfl ?_; ktf_call "sts"; have hleA := (hm6.trans hle9).trans hm10; have hleB := hm11.trans hm12; have hleC := hleA.trans hleB; refine br (fun hb => ?_) (fun hb => ?_)
   · ktf_call "sts"; refine aA B [] (by ktf_call "cs") rfl rfl rfl ?_; ktf_call "sts"; apply aC B hR'.handled (aJ hleB (B0.ko hk10)); intro I s B T; refine cf B T [] ["one", "other"] (fun j v kq => ∃ t, v = .int (((chosen (ao i) ch).getD j 0).toNat : Int) t) ⟨rfl, rfl, rfl, by ktf_call "cs", rfl, rfl⟩ (by rw [am]; exact szl (a227 htl hbl2)) ?_ ?_
     · intro j v c2 cenv L2 γ2 m13 own ρ nw2 s hj hE hm13 hv hC hM B Qx hK; rw [am] at hj; obtain ⟨b, rfl, hb⟩ := hitem j v hv; obtain ⟨ob, hob, tb, hTO⟩ := B.ko (hb.up (hleB.trans hm13)); refine bA B hR'.handled (B.ato ⟨ob, hob, hTO⟩).tup rfl rfl ?_; clear B; intro s B; refine al (ag ?_); ktf_call "st"; refine al (ag ?_); ktf_call "st"; refine assignInOrder_nil ?_; ktf_call "sts"; have hz := hz10 j hj; refine KIN.call_num (n := (((chosen (ao i) ch).getD j 0).toNat : Int)) (a226) (a225 hz) ?_; replace B := B.tk s.drawn (s.toks + 1); ktf_call "qs"; exact hK.go (by ktf_call "tn") B .rfl (fun kq kq => ⟨_, rfl⟩)
     intro γ6 m13 ys3 r3 s hm13 hk13 hys3 B; rw [am] at hys3; have hci := B.ints hys3; have hcl : (chosen (ao i) ch).length = bs.length := by
       rw [hbl2]; unfold chosen cW; split
       · rfl
       unfold cH az; rw [am, am]
     have hcz : (af bs.length).map (fun j => (((chosen (ao i) ch).getD j 0).toNat : Int)) = chosen (ao i) ch := by
       rw [aB (l := chosen (ao i) ch) (d := 0) (f := fun x => (x.toNat : Int)) hcl]; conv => rhs; rw [← List.map_id (chosen (ao i) ch)]
       refine List.map_congr_left fun x hx => ?_; unfold chosen at hx; split at hx
       · rw [mSg hx]; rfl
       obtain ⟨y, _, rfl⟩ := mMa hx; rfl
     rw [hcz] at hci; ktf_call "sts"; have hleD := hleC.trans hm13; refine c_ties (ch := chosen (ao i) ch) tr hfit hsz (hR'.less (a224 hdep) (a223 hdep)) B.bef (hkt.up hleD) (fun hp ok => ⟨ys3, hk13 hp ok, hci⟩) ?_; intro r4 m14 s14 f14 hk14; replace B := B.aft f14; ktf_call "sts"; have hleE := hleD.trans f14.le; obtain ⟨bs1, ⟨o1, ho1, hl1⟩, ha1⟩ := hkp.up hleE; obtain ⟨bs2, ⟨o2, ho2, hl2⟩, ha2⟩ := hk14; have h1l := ha1.length; have h2l := ha2.length; have htl2 := dj (chosen (ao i) ch) tr; rw [am, hlk] at h1l; refine c8 B (B.ato ⟨o1, ho1, hl1⟩) (B.ato ⟨o2, ho2, hl2⟩) (by rw [sizeLine_eq, am, am]; exact a222 hsz h1l h2l htl2) ?_; clear B; intro r5 m15 s hm15 hk15 B; rw [← List.map_append] at hk15; ktf_call "sts"; refine c_onetree (ps := (lks.map fun p => ((p.1 : Int), (p.2 : Int))) ++ ties (chosen (ao i) ch) tr) (hR'.less (a178) (a177)) B.bef ⟨bs1 ++ bs2, B.ko hk15, (All2.append ha1 ha2).imp fun kq kq k => k.up hm15⟩ hrg ?_ ?_
     · rw [List.length_append, am]; exact a221 hlk hsz htl2
     intro m16 s16 f16; replace B := B.aft f16; have hnx : bC ((lks.map fun p => ((p.1 : Int), (p.2 : Int))) ++ ties (chosen (ao i) ch) tr) = bf lks tr (ao i) (ch + 1) := by
       rw [ec, hb, Bool.true_and]
     rw [hnx]; ktf_call "sts"; ktf_call "qs"; exact hN _ m16 _ _ (by ktf_call "ow") (by ktf_call "mem") ((((((hle9.trans hm10).trans hleB).trans hm13).trans f14.le).trans hm15).trans f16.le) B
   have hnx : bf lks tr (ao i) (ch + 1) = bf lks tr (ao i) ch := by
     rw [ec, hb, Bool.false_and]
   ktf_call "sts"; ktf_call "qs"; exact hN _ m12 _ _ (by ktf_call "ow") (by rw [hnx]; ktf_call "mem") ((hle9.trans hm10).trans hleB) B
 clear B T; intro γ6 m6 ρ s how hnet hm6 B; ktf_call "st"; ktf_call "qs"; exact h _ _ m6 s hm6 (by ktf_call "ow") (by ktf_call "mem") B
end
end
section
section
variable {w : World}
noncomputable def Tr.isPlus : Tr → Bool
 | .leaf _ => false
 | .node sg _ _ _ => sg == aa "+"
noncomputable def Tr.kids : Tr → List Tr
 | .leaf _ => []
 | .node _ l r _ => [l, r]
noncomputable def Tr.nodes : Tr → Nat
 | .leaf _ => 0
 | .node _ l r _ => l.nodes + r.nodes + 1
noncomputable def aD (ts : List Tr) : Nat := (ts.map Tr.nodes).sum
noncomputable def aL (rg : Bool) (k : Nat) : List Nat := if rg then (af (k + 1)).map (fun z => 2 ^ z - 1) else af (2 ^ k)
noncomputable def b6 (rest : List Tr) (ch : Nat) (b : Bool) : List Tr := ((af rest.length).filter fun j => ch.testBit j == b).map fun j => rest.getD j default
noncomputable def ft (rd : List Str) (ts : List Tr) : Bool := (letters rd ts).all fun x => (letters rd ts).any fun y => y == Txt.swapcase x
noncomputable def ei (rd : List Str) : List Tr → Bool
 | [.leaf i, .leaf j] => rd.getD i ak == Txt.swapcase (rd.getD j ak)
 | _ => false
noncomputable def cz (rd : List Str) (rg : Bool) (f : List Tr → Bool) (ts : List Tr) : Bool :=
   match ts.findIdx? Tr.isPlus with
   | some k => f (ts.take k ++ (ts.getD k default).kids ++ ts.drop (k + 1))
   | none => ((af ts.length).any fun k => match ts.getD k default with
       | .leaf _ => false
       | .node _ l r _ => (aL rg (ts.length - 1)).any fun ch =>
           ft rd (r :: b6 (ts.drop (k + 1) ++ ts.take k) ch true) && f (r :: b6 (ts.drop (k + 1) ++ ts.take k) ch true) && f (b6 (ts.drop (k + 1) ++ ts.take k) ch false ++ [l])) || ei rd ts
noncomputable def prv (rd : List Str) (rg : Bool) : Nat → List Tr → Bool
 | 0, ts => ei rd ts
 | n + 1, ts => cz rd rg (prv rd rg n) ts
theorem leaf_of {ts : List Tr} (h : aD ts = 0) : ∀ t ∈ ts, ∃ i, t = .leaf i := by
 induction ts with
 | nil => intro t ht; cases ht
 | cons x r ih =>
   intro t ht; unfold aD at h ih; rw [ai, List.sum_cons] at h; rcases mCo ht with rfl | ht
   · cases t with
     | leaf i => exact ⟨i, rfl⟩
     | node sg l r mid => simp [Tr.nodes] at h
   exact ih (a73 h) t ht
theorem prv_eq {rd : List Str} {rg : Bool} : ∀ {n : Nat} {ts : List Tr}, aD ts ≤ n → prv rd rg n ts = cz rd rg (prv rd rg (n - 1)) ts
 | n + 1, ts, _ => rfl
 | 0, ts, h => by
   have hl := leaf_of (Nat.le_zero.mp h); unfold cz; have h1 : ts.findIdx? Tr.isPlus = none := by
     rw [List.findIdx?_eq_none_iff]; intro t ht; obtain ⟨i, rfl⟩ := hl t ht; rfl
   rw [h1]; have h2 : ((af ts.length).any fun k => match ts.getD k default with
       | .leaf _ => false
       | .node _ l r _ => (aL rg (ts.length - 1)).any fun ch =>
           ft rd (r :: b6 (ts.drop (k + 1) ++ ts.take k) ch true) && prv rd rg (0 - 1) (r :: b6 (ts.drop (k + 1) ++ ts.take k) ch true) && prv rd rg (0 - 1) (b6 (ts.drop (k + 1) ++ ts.take k) ch false ++ [l])) = false := by
     rw [List.any_eq_false]; intro k hk; have hk' : k < ts.length := List.mem_range.mp hk; have : ts.getD k default ∈ ts := by
       rw [ab, ac hk']; exact List.getElem_mem hk'
     obtain ⟨i, e⟩ := hl _ this; rw [e]; simp
   rw [h2]; rfl
theorem All2.take {α β : Type} {R : α → β → Prop} {xs : List α} {ys : List β} (k : Nat) (h : All2 R xs ys) : All2 R (xs.take k) (ys.take k) := by
 induction h generalizing k with
 | nil => rw [List.take_nil, List.take_nil]; exact .nil
 | cons h r ih =>
   cases k with
   | zero => exact .nil
   | succ k => exact .cons h (ih k)
theorem All2.drop {α β : Type} {R : α → β → Prop} {xs : List α} {ys : List β} (k : Nat) (h : All2 R xs ys) : All2 R (xs.drop k) (ys.drop k) := by
 induction h generalizing k with
 | nil => rw [List.drop_nil, List.drop_nil]; exact .nil
 | cons h r ih =>
   cases k with
   | zero => exact .cons h r
   | succ k => exact ih k
theorem split_at {α : Type} {ts : List α} {i : Nat} {t : α} (h : ts[i]? = some t) : ts = ts.take i ++ t :: ts.drop (i + 1) := by
 have hi := (List.getElem?_eq_some_iff.mp h).1; have e : ts[i] = t := (List.getElem?_eq_some_iff.mp h).2; conv => lhs; rw [← List.take_append_drop i ts, List.drop_eq_getElem_cons hi, e]
theorem ct (a b : List Tr) : aD (a ++ b) = aD a + aD b := by unfold aD; rw [List.map_append, List.sum_append]
theorem ca {ts : List Tr} {i : Nat} {t : Tr} (h : ts[i]? = some t) : aD ts = aD (ts.take i) + t.nodes + aD (ts.drop (i + 1)) := by
 conv => lhs; rw [split_at h]
 rw [ct]; show _ + aD (t :: _) = _
 unfold aD; rw [ai, List.sum_cons]; exact a72
theorem ig {ts : List Tr} {i : Nat} {t : Tr} (h : ts[i]? = some t) (hp : t.isPlus = true) (hl : ∀ (j : Nat) t, j < i → ts[j]? = some t → t.isPlus = false) : ts.findIdx? Tr.isPlus = some i := by
 rw [List.findIdx?_eq_some_iff_getElem]; have hi := (List.getElem?_eq_some_iff.mp h).1; have e : ts[i] = t := (List.getElem?_eq_some_iff.mp h).2; refine ⟨hi, by rw [e]; exact hp, fun j hj => ?_⟩; have := hl j ts[j] hj (ac (a22 hi hj)); rw [this]; decide
theorem All2.get2 {α β : Type} {R : α → β → Prop} {as : List α} {bs : List β} (x : All2 R as bs) {i : Nat} (h : i < bs.length) (d : α) (e : β) : R (as.getD i d) (bs.getD i e) := by
 have h' : i < as.length := by rw [x.length]; exact h
 refine x12 (x.get (ac h')) fun b hb hr => ?_; rw [ab, ab, ac h', hb]; exact hr
theorem gj {m : Mp} {zs : List Value} {re : List Tr} (h : All2 (fun v t => KT m v t) zs re) : ∀ (is : List Nat), (∀ j ∈ is, j < re.length) → All2 (fun v t => KT m v t) (is.map fun j => zs.getD j Value.none) (is.map fun j => re.getD j default)
 | [], _ => .nil
 | j :: is, hi => .cons (h.get2 (hi j (.head _)) _ _) (gj h is fun k hk => hi k (.tail _ hk))
theorem je (re : List Tr) (ch : Nat) (b : Bool) : (b6 re ch b).length ≤ re.length := by
 unfold b6; rw [am]; exact ae (List.length_filter_le _ _) (by simp)
theorem jd {re : List Tr} {ch : Nat} {b : Bool} {t : Tr} (h : t ∈ b6 re ch b) : t ∈ re := by
 unfold b6 at h; obtain ⟨j, hj, rfl⟩ := mMa h; have hl : j < re.length := List.mem_range.mp (List.mem_filter.mp hj).1; rw [ab, ac hl]; exact List.getElem_mem hl
theorem depL_of {ts : List Tr} {d : Nat} (h : ∀ t ∈ ts, t.dep ≤ d) : depL ts ≤ d := by
 induction ts with
 | nil => exact Nat.zero_le _
 | cons x r ih =>
   show max x.dep (depL r) ≤ d
   exact Nat.max_le.mpr ⟨h x (.head _), ih fun t ht => h t (.tail _ ht)⟩
theorem lets_mem {rd : List Str} {t : Tr} {x : Str} (hf : t.fits rd.length) (hx : x ∈ t.lets rd) : x ∈ rd := by
 induction t with
 | leaf i =>
   have hi : i < rd.length := hf; have : x = rd.getD i ak := mSg hx; rw [this, ab, ac hi]; exact List.getElem_mem hi
 | node _ l r _ ihl ihr => exact (mAp hx).elim (ihl hf.2.1) (ihr hf.2.2.1)
theorem iK {rd : List Str} {ts : List Tr} (h : ∀ t ∈ ts, t.fits rd.length) {x : Str} (hx : x ∈ letters rd ts) : x ∈ rd := by
 refine x12 (List.mem_flatMap.mp hx) fun t ht hx => ?_; exact lets_mem (h t ht) hx
theorem none_left {ls : List Str} {q : Str → Bool} : ((af ls.length).filter fun j => !(q (ls.getD j ak))).length = 0 ↔ ls.all q = true := by
 rw [List.length_eq_zero_iff, List.filter_eq_nil_iff, List.all_eq_true]; constructor
 · intro h x hx; obtain ⟨j, hj, e⟩ := List.mem_iff_getElem.mp hx; have := h j (List.mem_range.mpr hj); rw [ab, ac hj, e] at this; simpa using this
 intro h j hj; have hj' := List.mem_range.mp hj; have := h (ls.getD j ak) (by rw [ab, ac hj']; exact List.getElem_mem hj'); rw [this]; decide
theorem jS {f : Nat → Tr} {is js : List Nat} (h : is.Sublist js) : aD (is.map f) ≤ aD (js.map f) := by
 induction h with
 | slnil => exact Nat.le_refl _
 | cons a _ ih => unfold aD at *; rw [ai, ai, List.sum_cons]; exact a71 ih
 | cons_cons a _ ih => unfold aD at *; rw [ai, ai, List.sum_cons, ai, ai, List.sum_cons]; exact a70 ih
theorem eY (re : List Tr) (ch : Nat) (b : Bool) : aD (b6 re ch b) ≤ aD re := by
 have h := jS (f := fun j => re.getD j default) (List.filter_sublist (p := fun j => ch.testBit j == b) (l := af re.length)); have e : (af re.length).map (fun j => re.getD j default) = re := by
   have := aB (l := re) (d := default) (f := fun x => x) rfl; simpa using this
 rw [e] at h; exact h
noncomputable def jG (n : Nat) (ts : List Tr) : Prop := ∀ t ∈ ts, t.fits n ∧ t.size ≤ 100 ∧ t.dep ≤ 6
theorem small_k {k : Nat} (hk : k ≤ 21) : Builtin.Range.small 0 (k : Int) 1 = true := (by decide +kernel : ∀ k : Fin 22, Builtin.Range.small 0 (k.val : Int) 1 = true) ⟨k, a58 hk⟩
theorem small_s {k : Nat} (hk : k ≤ 21) : Builtin.Range.small 0 ((k + 1 : Nat) : Int) 1 = true := (by decide +kernel : ∀ k : Fin 22, Builtin.Range.small 0 ((k.val + 1 : Nat) : Int) 1 = true) ⟨k, a58 hk⟩
theorem small_p {k : Nat} (hk : k ≤ 21) : Builtin.Range.small 0 ((2 ^ k : Nat) : Int) 1 = true := (by decide +kernel : ∀ k : Fin 22, Builtin.Range.small 0 ((2 ^ k.val : Nat) : Int) 1 = true) ⟨k, a58 hk⟩
theorem ch_t {k i : Nat} (h : i < k + 1) : (aL true k).getD i 0 = 2 ^ i - 1 := by
 show ((af (k + 1)).map (fun z => 2 ^ z - 1)).getD i 0 = _
 rw [ab, List.getElem?_map, List.getElem?_range h]; rfl
theorem ch_f {k i : Nat} (h : i < 2 ^ k) : (aL false k).getD i 0 = i := by
 show (af (2 ^ k)).getD i 0 = _
 rw [ab, List.getElem?_range h]; rfl
theorem ch_tl {k : Nat} : (aL true k).length = k + 1 := by simp [aL]
theorem ch_fl {k : Nat} : (aL false k).length = 2 ^ k := by simp [aL]
noncomputable def chOk (rd : List Str) (rg : Bool) (n : Nat) (l r : Tr) (re : List Tr) (ch : Nat) : Bool :=
 ft rd (r :: b6 re ch true) && prv rd rg (n - 1) (r :: b6 re ch true) && prv rd rg (n - 1) (b6 re ch false ++ [l])
noncomputable def inner (rd : List Str) (rg : Bool) (n : Nat) (ts : List Tr) (k : Nat) : Bool := match ts.getD k default with
 | .leaf _ => false
 | .node _ l r _ => (aL rg (ts.length - 1)).any (chOk rd rg n l r (ts.drop (k + 1) ++ ts.take k))
theorem j0 {rd : List Str} {rg : Bool} {n i q : Nat} {ts : List Tr} (h : ts[i]? = some (.leaf q)) : inner rd rg n ts i = false := by unfold inner; rw [gC h]
theorem jZ {rd : List Str} {rg : Bool} {n i mid : Nat} {sg : Str} {l r : Tr} {ts re : List Tr} (h : ts[i]? = some (.node sg l r mid)) (hRe : ts.drop (i + 1) ++ ts.take i = re) (hrl : re.length = ts.length - 1) : inner rd rg n ts i = (aL rg re.length).any (chOk rd rg n l r re) := by
 unfold inner; rw [gC h, ← hrl, hRe]
theorem find_none {ts : List Tr} {k : Nat} (hk : k = ts.length) (hpl : ∀ j t, j < k → ts[j]? = some t → t.isPlus = false) : ts.findIdx? Tr.isPlus = none := by
 rw [List.findIdx?_eq_none_iff]; intro t ht; obtain ⟨j, hj, e⟩ := List.mem_iff_getElem.mp ht; exact hpl j t (hk ▸ hj) (by rw [ac hj, e])
theorem prv_none {rd : List Str} {rg : Bool} {n : Nat} {ts : List Tr} (h : ts.findIdx? Tr.isPlus = none) : cz rd rg (prv rd rg (n - 1)) ts = ((af ts.length).any (inner rd rg n ts) || ei rd ts) := by
 unfold cz; rw [h]; rfl
theorem prv_some {rd : List Str} {rg : Bool} {n i mid : Nat} {sg : Str} {l r : Tr} {ts : List Tr} (hti : ts[i]? = some (.node sg l r mid)) (hb : (Tr.node sg l r mid).isPlus = true) (hpl : ∀ (j : Nat) t, j < i → ts[j]? = some t → t.isPlus = false) : cz rd rg (prv rd rg (n - 1)) ts = prv rd rg (n - 1) (ts.take i ++ [l, r] ++ ts.drop (i + 1)) := by
 unfold cz; rw [ig hti hb hpl]; simp only [gC (d := default) hti]; rfl
theorem up_to {P : Nat → Prop} {i : Nat} (h : ∀ j, j < i → P j) (hi : P i) : ∀ j, j < i + 1 → P j := by
 intro j hj; rcases Nat.lt_succ_iff_lt_or_eq.mp hj with hj | rfl
 · exact h j hj
 exact hi
theorem gx {n mid : Nat} {sg : Str} {l r : Tr} {ts : List Tr} (hok : jG n ts) (h : .node sg l r mid ∈ ts) : (l.fits n ∧ l.size ≤ 100 ∧ l.dep ≤ 6) ∧ (r.fits n ∧ r.size ≤ 100 ∧ r.dep ≤ 6) := by
 obtain ⟨⟨hf1, hf2, hf3, hf4⟩, hs2, hd2⟩ := hok _ h; have hs3 : l.size + r.size + 1 ≤ 100 := hs2; have hd3 : max l.dep r.dep + 1 ≤ 6 := hd2; have hd4 := Nat.le_max_left l.dep r.dep; have hd5 := Nat.le_max_right l.dep r.dep; exact ⟨⟨hf2, by exact a46 hs3, by exact a45 hd3⟩, hf3, by exact a48 hs3, by exact a47 hd3⟩
theorem tsok_open {n i mid : Nat} {sg : Str} {l r : Tr} {ts : List Tr} (hok : jG n ts) (h : .node sg l r mid ∈ ts) : jG n (ts.take i ++ [l, r] ++ ts.drop (i + 1)) := by
 intro t ht; rcases mAp ht with ht | ht
 · rcases mAp ht with ht | ht
   · exact hok t (List.mem_of_mem_take ht)
   exact al2 (P := fun t => t.fits n ∧ t.size ≤ 100 ∧ t.dep ≤ 6) (gx hok h).1 (al1 (gx hok h).2) t ht
 exact hok t (List.mem_of_mem_drop ht)
theorem rest_ok {n i : Nat} {ts re : List Tr} (hok : jG n ts) (hRe : ts.drop (i + 1) ++ ts.take i = re) : jG n re := by
 subst hRe; exact fun t ht => (mAp ht).elim (fun ht => hok t (List.mem_of_mem_drop ht)) fun ht => hok t (List.mem_of_mem_take ht)
theorem tsok_t {n ch mid : Nat} {sg : Str} {l r : Tr} {ts re : List Tr} (hok : jG n ts) (h : .node sg l r mid ∈ ts) (hr : jG n re) : jG n (r :: b6 re ch true) := fun t ht =>
 al2 (P := fun t => t.fits n ∧ t.size ≤ 100 ∧ t.dep ≤ 6) (gx hok h).2 (fun t ht => hr t (jd ht)) t ht
theorem tsok_f {n ch mid : Nat} {sg : Str} {l r : Tr} {ts re : List Tr} (hok : jG n ts) (h : .node sg l r mid ∈ ts) (hr : jG n re) : jG n (b6 re ch false ++ [l]) := fun t ht =>
 (mAp ht).elim (fun ht => hr t (jd ht)) fun ht => al1 (P := fun t => t.fits n ∧ t.size ≤ 100 ∧ t.dep ≤ 6) (gx hok h).1 t ht
theorem pick_vt {m : Mp} {zs xs : List Value} {re : List Tr} {ch : Nat} (hzs : All2 (fun v t => KT m v t) zs re) (hxe : xs = ((af re.length).filter fun j => ch.testBit j).map fun j => zs.getD j .none) : All2 (fun v t => KT m v t) xs (b6 re ch true) := by
 rw [hxe]; have e : b6 re ch true = ((af re.length).filter fun j => ch.testBit j).map fun j => re.getD j default := by
   unfold b6; congr 1
   refine List.filter_congr fun j kq => ?_; cases ch.testBit j <;> rfl
 rw [e]; exact gj hzs _ fun j hj => List.mem_range.mp (List.mem_filter.mp hj).1
theorem pick_vf {m : Mp} {zs xs : List Value} {re : List Tr} {ch : Nat} (hzs : All2 (fun v t => KT m v t) zs re) (hxe : xs = ((af re.length).filter fun j => !ch.testBit j).map fun j => zs.getD j .none) : All2 (fun v t => KT m v t) xs (b6 re ch false) := by
 rw [hxe]; have e : b6 re ch false = ((af re.length).filter fun j => !ch.testBit j).map fun j => re.getD j default := by
   unfold b6; congr 1
   refine List.filter_congr fun j kq => ?_; cases ch.testBit j <;> rfl
 rw [e]; exact gj hzs _ fun j hj => List.mem_range.mp (List.mem_filter.mp hj).1
theorem two_of {α : Type} {ts : List α} {x y : α} (h : ts.length = 2) (h0 : ts[0]? = some x) (h1 : ts[1]? = some y) : ts = [x, y] := by
 rcases ts with _ | ⟨a, _ | ⟨b, _ | ⟨c, r⟩⟩⟩
 · cases h
 · cases h
 · cases h0; cases h1; rfl
 simp at h
theorem baseL_ne {rd : List Str} {ts : List Tr} (h : ts.length ≠ 2) : ei rd ts = false := by
 rcases ts with _ | ⟨a, _ | ⟨b, _ | ⟨c, r⟩⟩⟩
 · rfl
 · cases a <;> rfl
 · exact absurd rfl h
 cases a <;> cases b <;> rfl
theorem i4 {rd : List Str} {sg : Str} {l r t : Tr} {mid : Nat} : ei rd [.node sg l r mid, t] = false := by cases t <;> rfl
theorem i3 {rd : List Str} {sg : Str} {l r t : Tr} {mid : Nat} : ei rd [t, .node sg l r mid] = false := by cases t <;> rfl
theorem open_le {n i mid : Nat} {sg : Str} {l r : Tr} {ts : List Tr} (hti : ts[i]? = some (.node sg l r mid)) (hnd : aD ts ≤ n) : aD (ts.take i ++ [l, r] ++ ts.drop (i + 1)) ≤ n - 1 := by
 have hns := ca hti; have hno : (Tr.node sg l r mid).nodes = l.nodes + r.nodes + 1 := rfl; rw [ct, ct]; have : aD [l, r] = l.nodes + r.nodes := by simp [aD]
 exact a67 hnd hns hno this
theorem part_t {n i mid ch : Nat} {sg : Str} {l r : Tr} {ts re : List Tr} (hti : ts[i]? = some (.node sg l r mid)) (hnd : aD ts ≤ n) (hRe : ts.drop (i + 1) ++ ts.take i = re) : aD (r :: b6 re ch true) ≤ n - 1 ∧ aD (b6 re ch false ++ [l]) ≤ n - 1 := by
 have hns := ca hti; have hno : (Tr.node sg l r mid).nodes = l.nodes + r.nodes + 1 := rfl; have hnre : aD re = aD (ts.drop (i + 1)) + aD (ts.take i) := by rw [← hRe, ct]
 have hn1 := eY re ch true; have hn2 := eY re ch false; constructor
 · have e : aD (r :: b6 re ch true) = r.nodes + aD (b6 re ch true) := by unfold aD; rw [ai, List.sum_cons]
   rw [e]; exact a39 hnd hns hno hnre hn1
 rw [ct]; have : aD [l] = l.nodes := by simp [aD]
 exact a38 hnd hns hno hnre hn2 this
theorem jj {n i mid : Nat} {sg : Str} {l r : Tr} {ts : List Tr} (hti : ts[i]? = some (.node sg l r mid)) (hnd : aD ts ≤ n) : 1 ≤ n := by
 have hns := ca hti; have hno : (Tr.node sg l r mid).nodes = l.nodes + r.nodes + 1 := rfl; exact a37 hnd hns hno
theorem any_none {α : Type} {l : List α} {f : α → Bool} {d : α} (h : ∀ j, j < l.length → f (l.getD j d) = false) : l.any f = false := by
 rw [List.any_eq_false]; intro x hx; obtain ⟨q, hq, e⟩ := List.mem_iff_getElem.mp hx; have := h q hq; rw [ab, ac hq, e] at this; simpa using this
theorem jC {rd : List Str} (hrd : rd.length ≤ 1000) (hsw : ∀ x ∈ rd, Builtin.Str.tooLong (Txt.swapcase x).length = false) {rv : Addr} (rg : Bool) : ∀ (n : Nat) (ts : List Tr) {A : Around} {m : Mp} {s : Shared} {a : Addr} {Q E : VP}, aD ts ≤ n → n ≤ 20 → jG rd.length ts → ts.length + n ≤ 20 → Rm A (n + 10) (4 * n + 50) → Bef w m s → KTs m a ts → Kn m (LS rv rd) →
   (∀ m' s', Aft [] m s m' s' → Q (.bool (prv rd rg n ts)) s') →
   wpAny (model PG w) A (call (.ref 317) [.ref a, .ref rv, .bool rg]) Q E s := by
 intro n; induction n using Nat.strongRecOn with
 | ind n ih =>
   intro ts A m s a Q E hnd hn20 hok hlen hR b hk hrv h; rw [prv_eq hnd] at h
   refine fj (d := n + 9) (u := 4 * n + 47) (nw := []) (ns := ["items", "read", "ringed", "k", "item", "behind", "ahead"]) (cn := ["rest", "choice", "letters"])
     (ρ₀ := fun L => [⟨"items", none, some (.ref a)⟩, ⟨"read", none, some (.ref rv)⟩, ⟨"ringed", none, some (.bool rg)⟩, ⟨"k", none, none⟩, ⟨"item", none, none⟩, ⟨"behind", none, none⟩, ⟨"ahead", none, none⟩, ⟨"rest", some (L + 1), none⟩, ⟨"choice", some (L + 1 + 1), none⟩, ⟨"letters", some (L + 1 + 1 + 1), none⟩]) (own₀ := fun L => [L, L + 1, L + 1 + 1, L + 1 + 1 + 1]) hR b .nil rfl rfl rfl rfl rfl rfl rfl rfl rfl rfl (by rfl) (by decide +kernel) (by decide +kernel) (by decide +kernel) (fun L => rfl) (fun L => rfl) (fun L => rfl) ?_
   intro A env L c s' hE hR' hc B hL; ktf_call "opq"; ktf_call "sts"; refine x12 hk fun vs hko hvs => ?_; have hvl := hvs.length; apply bJ B hR'.handled hko; intro I s B T; refine cD B T ["k", "item"] (fun i m' ρ => ∀ j t, j < i → ts[j]? = some t → t.isPlus = false) (fun j t hj => absurd hj (Nat.not_lt_zero _)) ?_ ?_
   · clear B T; intro i v c1 γ1 m1 ρ s hi how hpl hm1 hv B hback Qb hN hB hQ; apply r330l hv; intro T tp x hx hT; refine x12 (hvs.get hx) fun t hti hkt => ?_; refine bA B hR'.handled hT rfl rfl ?_; clear B; intro s B; refine al (ag ?_); ktf_call "st"; refine al (ag ?_); ktf_call "st"; refine assignInOrder_nil ?_; ktf_call "sts"; have hil : i < ts.length := by rw [← hvl]; exact hi
     cases t with
     | leaf q =>
       obtain ⟨tq, rfl⟩ := hkt; refine bo ?_; ktf_call "sts"; refine aY rfl ?_; ktf_call "sts"; refine aY rfl ?_; ktf_call "sts"; ktf_call "qs"; exact hN _ m1 _ _ (by ktf_call "ow") (fun j t hj => up_to (P := fun j => ts[j]? = some t → t.isPlus = false) (fun j hj => hpl j t hj) (fun ht => by rw [hti] at ht; cases ht; rfl) j hj) .rfl B
     | node sg l r mid =>
       obtain ⟨a2, vl, vr, ts2, tm2, rfl, hko2, hkl, hkr⟩ := hkt; have htm := List.mem_of_getElem? hti; refine bb B (B.ato (aJ hm1 hko2)) ?_; clear B; intro s B; ktf_call "sts"; refine bZ rfl ?_; ktf_call "sts"; refine aT (B.ato (aJ hm1 hko2)) (by decide) (by decide) rfl ?_; ktf_call "sts"; refine br (fun hb => ?_) (fun hb => ?_)
       · ktf_call "sts"; refine bZ rfl ?_; ktf_call "sts"; have hsz : vs.length ≤ sizeLine := szl (a32 hlen hvl); refine bx B (B.ato (aJ hm1 hko)) .none (.int _ _) ?_ hsz; clear B; intro x1 m2 s hm2 hk2 B; rw [slicePick_upto'] at hk2; ktf_call "sts"; have hko3 := aJ (hm1.trans hm2) hko2; refine bx B (B.ato hko3) (.int _ _) (.int _ _) ?_ (by show 4 ≤ sizeLine; decide); clear B; intro x2 m3 s hm3 hk3 B
         rw [show (slicePick #[Value.str sg ts2, vl, vr, Value.int (mid : Nat) tm2] (some 1) (some 3) none).toList = [vl, vr] from rfl] at hk3
         refine c8 B (B.kn (hk2.up hm3)) (B.kn hk3) (by rw [sizeLine_eq]; simp; exact a69 hlen hvl) ?_; clear B; intro x3 m4 s hm4 hk4 B; ktf_call "sts"; refine bx B (B.ato (aJ (((hm1.trans hm2).trans hm3).trans hm4) hko)) (.int _ _) .none ?_ hsz; clear B; intro x5 m5 s hm5 hk5 B; have hi1 : ((i : Int) + 1) = ((i + 1 : Nat) : Int) := a62
         rw [hi1, slicePick_from'] at hk5; refine c8 B (B.kn (hk4.up hm5)) (B.kn hk5) (by rw [sizeLine_eq]; simp; exact a68 hlen hvl) ?_; clear B; intro x6 m6 s hm6 hk6 B; ktf_call "sts"; have hmm : m.le m6 := ((((hm1.trans hm2).trans hm3).trans hm4).trans hm5).trans hm6; have hn1' := jj hti hnd; refine ih (n - 1) (a36 hn1') (ts.take i ++ [l, r] ++ ts.drop (i + 1)) (open_le hti hnd) (a35 hn20) (tsok_open hok htm) ?_ (hR'.less (a34 hn1') (a33 hn1')) B.bef ⟨_, B.ko hk6, ?_⟩ (hrv.up hmm) ?_
         · have hns := ca hti; have hno : (Tr.node sg l r mid).nodes = l.nodes + r.nodes + 1 := rfl; simp; exact a63 hnd hlen hvl hi hns hno
         · simp only [List.toList_toArray]; exact (((hvs.take i).imp fun kq kq k => k.up hmm).append (.cons (hkl.up hmm) (.cons (hkr.up hmm) .nil))).append ((hvs.drop (i + 1)).imp fun kq kq k => k.up hmm)
         intro m7 s7 f7; replace B := B.aft f7; have := h _ _ ((hback.go B).done hc .nil av); rw [prv_some hti hb hpl] at this; ktf_call "qs"; refine hQ _ _ ?_; ktf_call "qs"; exact this
       ktf_call "sts"; refine aY rfl ?_; ktf_call "sts"; ktf_call "qs"; exact hN _ m1 _ _ (by ktf_call "ow") (fun j t hj => up_to (P := fun j => ts[j]? = some t → t.isPlus = false) (fun j hj => hpl j t hj) (fun ht => by rw [hti] at ht; cases ht; exact hb) j hj) .rfl B
   clear B T; intro γ1 m1 ρ s how hpl hm1 B; rw [prv_none (find_none hvl hpl)] at h; ktf_call "sts"; apply bJ B hR'.handled (aJ hm1 hko); intro I s B T; refine cD B T ["k", "item", "behind", "ahead", "rest", "choice", "letters"] (fun i m' ρ => ∀ j, j < i → inner rd rg n ts j = false) (fun j hj => absurd hj (Nat.not_lt_zero _)) ?_ ?_
   · clear B T; intro i v c1 γ1 m2 ρ s hi how hfa hm2 hv B hback Qb hN hB hQ; apply r330l hv; intro T tp x hx hT; refine x12 (hvs.get hx) fun t hti hkt => ?_; have hmm := hm1.trans hm2; have hil : i < ts.length := by rw [← hvl]; exact hi
     refine bA B hR'.handled hT rfl rfl ?_; clear B; intro s B; refine al (ag ?_); ktf_call "st"; refine al (ag ?_); ktf_call "st"; refine assignInOrder_nil ?_; ktf_call "sts"; cases t with
     | leaf q =>
       obtain ⟨tq, rfl⟩ := hkt; refine bo ?_; ktf_call "sts"; refine aY rfl ?_; ktf_call "sts"; ktf_call "qs"; exact hN _ m2 _ _ (by ktf_call "ow") (up_to hfa (j0 hti)) .rfl B
     | node sg l r mid =>
       obtain ⟨a2, vl, vrr, ts2, tm2, rfl, hko2, hkl, hkr⟩ := hkt; have htm := List.mem_of_getElem? hti; refine bb B (B.ato (aJ hmm hko2)) ?_; clear B; intro s B; ktf_call "sts"; refine bZ rfl ?_; ktf_call "sts"; have hsz : vs.length ≤ sizeLine := szl (a32 hlen hvl); refine bx B (B.ato (aJ hmm hko)) (.int _ _) .none ?_ hsz; clear B; intro x1 m3 s hm3 hk3 B; have hi1 : ((i : Int) + 1) = ((i + 1 : Nat) : Int) := a62
       rw [hi1, slicePick_from'] at hk3; ktf_call "sts"; refine bx B (B.ato (aJ (hmm.trans hm3) hko)) .none (.int _ _) ?_ hsz; clear B; intro x2 m4 s hm4 hk4 B; rw [slicePick_upto'] at hk4; refine c8 B (B.kn (hk3.up hm4)) (B.kn hk4) (by rw [sizeLine_eq]; simp; exact a61 hlen hvl) ?_; clear B; intro x3 m5 s hm5 hk5 B; have hm05 : m.le m5 := ((hmm.trans hm3).trans hm4).trans hm5; have hrest : KTs m5 x3 (ts.drop (i + 1) ++ ts.take i) := ⟨_, B.ko hk5, by simp only [List.toList_toArray]; exact ((hvs.drop (i + 1)).imp fun kq kq k => k.up hm05).append ((hvs.take i).imp fun kq kq k => k.up hm05)⟩; generalize hRe : ts.drop (i + 1) ++ ts.take i = re at hrest; have hrl : re.length = ts.length - 1 := by rw [← hRe]; simp; exact a60 hvl hi
       clear hk3 hk4 hk5; have hrl2 : re.length ≤ 20 := a59 hlen hrl
       ktf_call "st"; ktf_call "st"; ktf_call "st"; ktf_call "st"; refine x12 hrest fun zs hzo hzs => ?_; have hzl := hzs.length
       refine an (Q := fun x s' => wpAny (model PG w) A (pyIter x) (fun it s'' => ∃ I2 m6 γ6, it = .ref I2 ∧ m5.le m6 ∧ Bd w c1 γ6 m6 env own ρ [] s'' ∧
           ∀ xn p, Src w A (.Name xn p) c1 m6 own [] I2 (aL rg re.length).length (fun i v kq => ∃ t, v = .int (((aL rg re.length).getD i 0 : Nat) : Int) t) s'') NoE s') ?_ (fun x s' hq => noE (an hq (fun it s'' hh => ?_) fun kq kq x => x)) (fun kq kq x => x)
       · cases rg with
         | true =>
           ktf_call "sts"; refine bZ rfl ?_; refine aA B [] (by ktf_call "cs") rfl rfl rfl ?_; ktf_call "sts"; refine gv B (B.ato hzo) (szl (a53 hrl2 hzl)) ?_; clear B; intro t1 s B; ktf_call "sts"; rw [show ((zs.length : Int) + 1) = ((re.length + 1 : Nat) : Int) from by exact a57 hzl]
           apply bu B hR'.handled (small_s (a52 hrl2)); intro I s B T; refine cf B T [] ["size"] (fun i v kq => ∃ t, v = .int ((2 ^ i - 1 : Nat) : Int) t) ⟨rfl, rfl, rfl, by ktf_call "cs", rfl, rfl⟩ (szl (a56 hrl2)) ?_ ?_
           · intro j v c2 cenv L2 γ2 m6 own ρ nw2 s hj hE hm6 hv hC hM B Qx hK; apply r110l hv; intro tj; refine ag ?_; ktf_call "st"; ktf_call "sts"; have h1p : 1 ≤ 2 ^ j := Nat.one_le_two_pow; have e : ((2 : Int) ^ (j : Int).toNat - 1) = ((2 ^ j - 1 : Nat) : Int) := by rw [Int.toNat_natCast, Int.natCast_sub h1p]; simp
             ktf_call "qs"; exact hK.go (by ktf_call "tn") B .rfl (fun kq kq => ⟨tk, congrArg (fun z => Value.int z tk) e⟩)
           intro γ2 m6 xs x7 s hm6 hk6 hxs B; have hi2 := B.ints hxs; have hxl' : xs.length = re.length + 1 := (aF hi2).trans (by simp); refine src_listA B hR'.handled (B.ko hk6) fun I2 s' B' T => ⟨I2, m6, _, rfl, hm6, B', fun xn p => ?_⟩; rw [show (aL true re.length).length = xs.length from ch_tl.trans hxl'.symm]
           refine (T _).mono fun i v hp hi3 hv => ?_; obtain ⟨nj, tj, hnj, rfl⟩ := bz hi2 hv; ktf_call "qs"; refine ⟨tj, ?_⟩; have hil2 : i < re.length + 1 := by
             have := (List.getElem?_eq_some_iff.mp hnj).1; simpa using this
           have e3 : nj = ((2 ^ i - 1 : Nat) : Int) := by
             rw [List.getElem?_map, List.getElem?_range hil2] at hnj; ktf_call "qs"; exact (Option.some.inj hnj).symm
           rw [ch_t hil2, e3]
         | false =>
           ktf_call "sts"; refine aY rfl ?_; ktf_call "sts"; refine gv B (B.ato hzo) (szl (a53 hrl2 hzl)) ?_; clear B; intro t1 s B; ktf_call "sts"; have e : ((2 : Int) ^ (zs.length : Int).toNat) = ((2 ^ re.length : Nat) : Int) := by rw [Int.toNat_natCast, hzl]; simp
           rw [e]; refine n_range B ?_; clear B; intro x7 m6 s hm6 hk6 B; refine jO B hR'.handled (B.kn hk6) (small_p (a52 hrl2)) fun I2 s' B' T => ⟨I2, m6, _, rfl, hm6, B', fun xn p => ?_⟩; rw [ch_fl]; refine (T xn p).mono fun i v hp hi2 hv => ?_; apply r110l hv; intro t; ktf_call "qs"; refine ⟨t, ?_⟩; rw [ch_f hi2]
       clear B; apply r340l hh; intro I2 m6 γ6 hm6 B T; have hm06 := hm05.trans hm6; have hchl : re.length + 1 ≤ 21 := a55 hrl2
       have hin := jZ (rd := rd) (rg := rg) (n := n) hti hRe hrl; refine codeAny_mono (cD B (T _ _) ["behind", "ahead", "choice", "letters"] (fun q m' ρ => ∀ j, j < q → chOk rd rg n l r re ((aL rg re.length).getD j 0) = false) (fun j hj => absurd hj (Nat.not_lt_zero _)) ?_ ?_) (fun r s h => h)
       · clear B T; intro q v c2 γ7 m7 ρ s hq how2 hfq hm7 hv B hback2 Qb2 hN2 hB2 hQ2; apply r110l hv; intro tq; generalize hch : (aL rg re.length).getD q 0 = ch at *
         refine ag ?_; ktf_call "st"; ktf_call "sts"; refine aT (B.ato (aJ (hm06.trans hm7) hko2)) (by decide) (by decide) rfl ?_; ktf_call "sts"; have hm07 := hm06.trans hm7; have hm57 := hm6.trans hm7; refine n_list B (by show 1 ≤ sizeLine; decide) ?_; clear B; intro x8 m8 s hm8 hk8 B
         refine aA B [⟨"rest", some (L + 1), some (.ref x3)⟩, ⟨"choice", some (L + 1 + 1), some (.int (ch : Nat) tq)⟩] (by ktf_call "cs") rfl rfl rfl ?_; ktf_call "sts"; refine gv B (B.ato (aJ (hm57.trans hm8) hzo)) (szl (a53 hrl2 hzl)) ?_; clear B; intro t1 s B; ktf_call "sts"; rw [hzl]; apply bu B hR'.handled (small_k (a52 hrl2)); intro I3 s B T; refine dC B T [⟨"rest", some (L + 1), some (.ref x3)⟩, ⟨"choice", some (L + 1 + 1), some (.int (ch : Nat) tq)⟩] ["j"] (fun j => ch.testBit j) (fun j v kq => v = zs.getD j .none) ⟨rfl, rfl, rfl, by ktf_call "cs", rfl, rfl⟩ (szl (a51 hrl2)) ?_ ?_
         · intro j v c3 cenv L3 γ8 m9 own ρ nw3 s hj hE hm9 hv hC hM B Qt hK; apply r110l hv; intro tj; refine ag ?_; ktf_call "st"; ktf_call "sts"; refine hK.go (eA ch j) (by ktf_call "tn") B .rfl fun hb Qx hK => ?_; ktf_call "sts"; refine aT (B.ato (aJ ((hm57.trans hm8).trans hm9) hzo)) (a12) (a50 hrl2 hj) (c9 (d := Value.none) (a10 hzl hj)) ?_; exact hK.go (by ktf_call "tn") B .rfl (fun kq kq => rfl)
         intro γ8 m9 xs x9 s hm9 hk9 hxs B; have hxe := B.vals hxs; have hxp := pick_vt hzs hxe; have hxl := hxp.length; have hpl1 := je re ch true; ktf_call "sts"; refine c8 B (B.kn (hk8.up hm9)) (B.kn hk9) (by rw [sizeLine_eq]; simp; exact a54 hrl2 hxl hpl1) ?_; clear B; intro bh m10 s hm10 hk10 B; have hm510 := ((hm57.trans hm8).trans hm9).trans hm10; have hm010 := hm05.trans hm510; have hbe : KTs m10 bh (r :: b6 re ch true) := ⟨_, B.ko hk10, .cons (hkr.up hm010) (hxp.imp fun kq kq k => k.up hm510)⟩; clear hxs hk10 hk9; ktf_call "st"; ktf_call "st"; ktf_call "st"; ktf_call "st"; ktf_call "st"; refine aA B [⟨"rest", some (L + 1), some (.ref x3)⟩, ⟨"choice", some (L + 1 + 1), some (.int (ch : Nat) tq)⟩] (by ktf_call "cs") rfl rfl rfl ?_; ktf_call "sts"; refine gv B (B.ato (aJ hm510 hzo)) (szl (a53 hrl2 hzl)) ?_; clear B; intro t1 s B; ktf_call "sts"; rw [hzl]; apply bu B hR'.handled (small_k (a52 hrl2)); intro I3 s B T; refine dC B T [⟨"rest", some (L + 1), some (.ref x3)⟩, ⟨"choice", some (L + 1 + 1), some (.int (ch : Nat) tq)⟩] ["j"] (fun j => !ch.testBit j) (fun j v kq => v = zs.getD j .none) ⟨rfl, rfl, rfl, by ktf_call "cs", rfl, rfl⟩ (szl (a51 hrl2)) ?_ ?_
         · intro j v c3 cenv L3 γ9 m11 own ρ nw3 s hj hE hm11 hv hC hM B Qt hK; apply r110l hv; intro tj; refine ag ?_; ktf_call "st"; ktf_call "sts"; refine hK.go (by rw [eA]) (by ktf_call "tn") B .rfl fun hb Qx hK => ?_; ktf_call "sts"; refine aT (B.ato (aJ (hm510.trans hm11) hzo)) (a12) (a50 hrl2 hj) (c9 (d := Value.none) (a10 hzl hj)) ?_; exact hK.go (by ktf_call "tn") B .rfl (fun kq kq => rfl)
         intro γ9 m11 ys x11 s hm11 hk11 hys B; have hye := B.vals hys; have hyp := pick_vf hzs hye; have hyl := hyp.length; have hpl2 := je re ch false; ktf_call "sts"; refine aT (B.ato (aJ (hm010.trans hm11) hko2)) (by decide) (by decide) rfl ?_; ktf_call "sts"; refine n_list B (by show 1 ≤ sizeLine; decide) ?_; clear B; intro x12 m12 s hm12 hk12 B
         refine c8 B (B.kn (hk11.up hm12)) (B.kn hk12) (by rw [sizeLine_eq]; simp; exact a49 hrl2 hyl hpl2) ?_; clear B; intro ah m13 s hm13 hk13 B; have hm1013 := (hm11.trans hm12).trans hm13; have hm013 := hm010.trans hm1013; have hah : KTs m13 ah (b6 re ch false ++ [l]) := ⟨_, B.ko hk13, (hyp.imp fun kq kq k => k.up (hm510.trans hm1013)).append (.cons (hkl.up hm013) .nil)⟩; clear hys hk13 hk12 hk11; have hbe2 := hbe.up hm1013; have hre := rest_ok hok hRe; have hokb := tsok_t (ch := ch) hok htm hre; have hoka := tsok_f (ch := ch) hok htm hre; ktf_call "sts"; refine c_letters hrd 6 (r :: b6 re ch true) (depL_of fun t ht => (hokb t ht).2.2) (fun t ht => ⟨(hokb t ht).1, (hokb t ht).2.1⟩) (by simp; exact a44 hrl2 hpl1) (hR'.less (a43) (a42)) B.bef hbe2 (hrv.up hm013) ?_; intro lt m14 s14 f14 hk14; replace B := B.aft f14; ktf_call "sts"; obtain ⟨us, huo, hus⟩ := B.koS hk14; have hul := ax hus; have hll := c7 rd (r :: b6 re ch true) (fun t ht => (hokb t ht).2.1); have hmem : ∀ x ∈ letters rd (r :: b6 re ch true), Builtin.Str.tooLong (Txt.swapcase x).length = false := fun x hx => hsw x (iK (fun t ht => (hokb t ht).1) hx); have hgood : ft rd (r :: b6 re ch true) = (letters rd (r :: b6 re ch true)).all fun x => (letters rd (r :: b6 re ch true)).any fun y => y == Txt.swapcase x := rfl; generalize hLs : letters rd (r :: b6 re ch true) = ls at *
         refine aA B [⟨"letters", some (L + 1 + 1 + 1), some (.ref lt)⟩] (by ktf_call "cs") rfl rfl rfl ?_; ktf_call "sts"; apply aC B hR'.handled huo; intro I5 s B T; refine dC B T [⟨"letters", some (L + 1 + 1 + 1), some (.ref lt)⟩] ["one"] (fun j => !(ls.any fun y => y == Txt.swapcase (ls.getD j ak))) (fun j v kq => True) ⟨rfl, rfl, rfl, by ktf_call "cs", rfl, rfl⟩ (by rw [sizeLine_eq]; simp at hll; exact a41 hrl2 hpl1 hul hll) ?_ ?_
         · intro j v c3 cenv L3 γ9 m15 own ρ nw3 s hj hE hm15 hv hC hM B Qt hK; obtain ⟨xj, tj, hxj, rfl⟩ := aV hus hv; have hgj := gC (d := ak) hxj; refine ag ?_; ktf_call "st"; ktf_call "sts"; refine SC.swapcase (hmem xj (List.mem_of_getElem? hxj)) ?_; replace B := B.tk s.drawn (s.toks + 1); ktf_call "sts"; refine notin_list_strs (B.ato (aJ hm15 huo)).list hus ?_; ktf_call "sts"; refine hK.go (by simp only [hgj]) (by ktf_call "tn") B .rfl fun hb Qx hK => ?_; ktf_call "sts"; exact hK.go (by ktf_call "tn") B .rfl (fun kq kq => trivial)
         intro γ9 m15 ys x15 s hm15 hk15 hys B; have hyl2 := hys.length; rw [hul] at hyl2; have hnl := none_left (ls := ls) (q := fun x => ls.any fun y => y == Txt.swapcase x); rw [← hyl2] at hnl; ktf_call "sts"; refine n_list B (by show 0 ≤ sizeLine; decide) ?_; clear B; intro x16 m16 s hm16 hk16 B
         have hun : A.units < cLine := by have := hR'.units; exact a40 this
         refine an (Q := fun v s' => v = .bool (ft rd (r :: b6 re ch true)) ∧ s' = s) ?_ ?_ (fun kq kq x => x)
         · rw [hgood]; by_cases hy0 : ys.length = 0
           · rw [hnl.mp hy0]; refine SeqAt.eq_listAt (e := fun kq => true) (B.kn (hk15.up hm16)).list (B.kn hk16).list (by simpa using hy0) hun (fun j h1 h2 => absurd h2 (by simp)) ⟨?_, rfl⟩; simp
           have hf : ¬ (ls.all fun x => ls.any fun y => y == Txt.swapcase x) = true := fun e => hy0 (hnl.mpr e); rw [Bool.eq_false_iff.mpr hf]; ktf_call "qs"; exact SeqAt.eq_list_lengthsAt (B.kn (hk15.up hm16)).list (B.kn hk16).list (by simpa using hy0) hun ⟨rfl, rfl⟩
         rintro _ _ ⟨rfl, rfl⟩; ktf_call "sts"; have hnb := part_t (ch := ch) hti hnd hRe; have hn1' := jj hti hnd; have hm1316 : m13.le m16 := f14.le.trans (hm15.trans hm16); have hm716 : m7.le m16 := ((((hm8.trans hm9).trans hm10).trans hm1013).trans hm1316); have nofit : chOk rd rg n l r re ch = false → ∀ j, j < q + 1 → chOk rd rg n l r re ((aL rg re.length).getD j 0) = false := fun hf => up_to hfq (hch ▸ hf); refine br (fun hg => ?_) (fun hg => ?_)
         · ktf_call "sts"; refine ih (n - 1) (a36 hn1') (r :: b6 re ch true) hnb.1 (a35 hn20) hokb (by simp; (first | lia | omega)) (hR'.less (a34 hn1') (a33 hn1')) B.bef (hbe2.up hm1316) (hrv.up (hm013.trans hm1316)) ?_
           intro m17 s17 f17; replace B := B.aft f17; ktf_call "sts"; refine br (fun hg2 => ?_) (fun hg2 => ?_)
           · ktf_call "sts"; refine ih (n - 1) (a36 hn1') (b6 re ch false ++ [l]) hnb.2 (a35 hn20) hoka (by simp; (first | lia | omega)) (hR'.less (a34 hn1') (a33 hn1')) B.bef (hah.up (hm1316.trans f17.le)) (hrv.up ((hm013.trans hm1316).trans f17.le)) ?_
             intro m18 s18 f18; replace B := B.aft f18; ktf_call "sts"; refine br (fun hg3 => ?_) (fun hg3 => ?_)
             · ktf_call "sts"; refine bZ rfl ?_; ktf_call "sts"; have hin1 : inner rd rg n ts i = true := by
                 rw [hin, List.any_eq_true]; ktf_call "qs"; refine ⟨ch, ?_, by unfold chOk; rw [hg, hg2, hg3]; rfl⟩; rw [← hch, ab, ac hq]; ktf_call "qs"; exact List.getElem_mem hq
               have hany : (af ts.length).any (inner rd rg n ts) = true := List.any_eq_true.mpr ⟨i, List.mem_range.mpr hil, hin1⟩; have hfin := h _ _ ((hback.go (hback2.go B)).done hc .nil av); rw [hany, Bool.true_or] at hfin; ktf_call "qs"; refine hQ2 _ _ ?_; ktf_call "qs"; refine hQ _ _ ?_; ktf_call "qs"; exact hfin
             ktf_call "sts"; refine aY rfl ?_; ktf_call "sts"; ktf_call "qs"; exact hN2 _ m18 _ _ (by ktf_call "ow") (nofit (by unfold chOk; rw [hg, hg2, hg3]; rfl)) ((hm716.trans f17.le).trans f18.le) B
           refine aY rfl ?_; ktf_call "sts"; ktf_call "qs"; exact hN2 _ m17 _ _ (by ktf_call "ow") (nofit (by unfold chOk; rw [hg, hg2]; rfl)) (hm716.trans f17.le) B
         refine aY rfl ?_; ktf_call "sts"; ktf_call "qs"; exact hN2 _ m16 _ _ (by ktf_call "ow") (nofit (by unfold chOk; rw [hg]; rfl)) hm716 B
       clear B T; intro γ8 m8 ρ s how2 hfq hm8 B; have hm28 : m2.le m8 := (((hm3.trans hm4).trans hm5).trans hm6).trans hm8; ktf_call "sts"; ktf_call "qs"; exact hN _ m8 _ _ (by ktf_call "ow") (up_to hfa (hin.trans (any_none hfq))) hm28 B
   clear B T; intro γ2 m2 ρ s how hfa hm2 B; have hany : (af ts.length).any (inner rd rg n ts) = false := by
     rw [List.any_eq_false]; intro j hj; rw [hfa j (by rw [hvl]; exact List.mem_range.mp hj)]; decide
   rw [hany] at h; simp only [Bool.false_or] at h; have hmm := hm1.trans hm2; ktf_call "sts"; refine gv B (B.ato (aJ hmm hko)) (szl (a32 hlen hvl)) ?_; clear B; intro t1 s B; ktf_call "sts"; refine br (fun h2 => ?_) (fun h2 => ?_)
   · have h2' : ((vs.length : Int) = 2) := eq_of_beq h2; have hv2 : vs.length = 2 := a31 h2'
     have e0 : vs[0]? = some vs[0] := ac (a30 h2'); have e1 : vs[1]? = some vs[1] := ac (a29 h2'); refine x12 (hvs.get e0) fun t0 ht0 hk0 => ?_; refine x12 (hvs.get e1) fun t1' ht1 hk1 => ?_; have hts := two_of (hvl.symm.trans hv2) ht0 ht1; generalize hv0 : vs[0] = v0 at e0 hk0; generalize hv1 : vs[1] = v1 at e1 hk1; ktf_call "sts"; refine aT (B.ato (aJ hmm hko)) (by decide) (by decide) e0 ?_; cases t0 with
     | node sg l r mid =>
       rw [hts, i4] at h; obtain ⟨a3, vl3, vr3, ts3, tm3, rfl, hko3, _, _⟩ := hk0; ktf_call "sts"; refine bb B (B.ato (aJ hmm hko3)) ?_; clear B; intro s B; ktf_call "sts"; refine aY rfl ?_; ktf_call "qs"; exact h _ _ (B.done hc .nil av)
     | leaf i0 =>
       obtain ⟨ti0, rfl⟩ := hk0; ktf_call "sts"; refine bo ?_; ktf_call "sts"; refine bZ rfl ?_; ktf_call "sts"; refine aT (B.ato (aJ hmm hko)) (by decide) (by decide) e1 ?_; cases t1' with
       | node sg l r mid =>
         rw [hts, i3] at h; obtain ⟨a3, vl3, vr3, ts3, tm3, rfl, hko3, _, _⟩ := hk1; ktf_call "sts"; refine bb B (B.ato (aJ hmm hko3)) ?_; clear B; intro s B; ktf_call "sts"; refine aY rfl ?_; ktf_call "qs"; exact h _ _ (B.done hc .nil av)
       | leaf i1 =>
         obtain ⟨ti1, rfl⟩ := hk1; ktf_call "sts"; refine bo ?_; ktf_call "sts"; refine bZ rfl ?_; ktf_call "sts"; have hi0 : rd[i0]? = some (rd.getD i0 ak) := c9 (hok (.leaf i0) (by rw [hts]; exact .head _)).1; have hi1 : rd[i1]? = some (rd.getD i1 ak) := c9 (hok (.leaf i1) (by rw [hts]; exact .tail _ (.head _))).1; have hl0 := (List.getElem?_eq_some_iff.mp hi0).1; have hl1 := (List.getElem?_eq_some_iff.mp hi1).1; refine aT (B.ato (aJ hmm hko)) (by decide) (by decide) e0 ?_; ktf_call "sts"; refine cO (B.kn (hrv.up hmm)) (a12) (a28 hrd hl0) hi0 fun t2 => ?_; ktf_call "sts"; refine aT (B.ato (aJ hmm hko)) (by decide) (by decide) e1 ?_; ktf_call "sts"; refine cO (B.kn (hrv.up hmm)) (a12) (a28 hrd hl1) hi1 fun t3 => ?_; ktf_call "sts"; refine SC.swapcase (hsw _ (List.mem_of_getElem? hi1)) ?_; replace B := B.tk s.drawn (s.toks + 1); ktf_call "sts"; have hb : ei rd ts = (rd.getD i0 ak == Txt.swapcase (rd.getD i1 ak)) := by rw [hts]; rfl
         rw [hb] at h; ktf_call "qs"; exact h _ _ (B.done hc .nil av)
   have hb : ei rd ts = false := baseL_ne fun e => by rw [hvl, e] at h2; cases h2
   rw [hb] at h; rw [h2]; ktf_call "qs"; exact h _ _ (B.done hc .nil av)
end
end
section
section
variable {w : World} {c : Cx} {γ : Array GenState} {m : Mp} {env : Env} {s : Shared} {A : Around} {E : VP} {Q : Flow → Shared → Prop} {L : Addr} {own : List Addr} {ρ : List VE}
theorem eq_empty {l b : Addr} {xs : List Value} {Q : VP} (hu : A.units < cLine) (hl : At l (au xs) s.heap) (hb : At b (au []) s.heap) (h : Q (.bool xs.isEmpty) s) : wpAny (model PG w) A (compareOp .Eq (.ref l) (.ref b)) Q E s := by
 cases xs with
 | nil => exact eq_same hu hl hb rfl (fun A j x y hx => by simp at hx) h
 | cons x r => exact SeqAt.eq_list_lengthsAt hl.list hb.list (by simp) hu h
theorem flat_is (lks : List (Nat × Nat)) (P : Nat × Nat → Bool) : ((af lks.length).filter fun j => !P (lks.getD j (0, 0))).isEmpty = lks.all P := by
 rw [Bool.eq_iff_iff, List.isEmpty_iff, List.filter_eq_nil_iff, List.all_eq_true]; constructor
 · intro h p hp; obtain ⟨j, hj, rfl⟩ := List.mem_iff_getElem.mp hp; have := h j (List.mem_range.mpr hj); rw [ab, ac hj] at this; simpa using this
 intro h j hj; have hj := List.mem_range.mp hj; rw [ab, ac hj]; have := h _ (List.getElem_mem hj); simpa using this
noncomputable def aO (rd : List Str) : List Str := (af rd.length).map fun j => if (rd.take j).any (· == Txt.swapcase (rd.getD j ak)) then aa ")" else aa "("
noncomputable def eQ (rd : List Str) : Str := Txt.join (aa "") (aO rd)
noncomputable def dH (rd : List Str) (lks : List (Nat × Nat)) : Bool := lks.all fun p => chk (Txt.slice (eQ rd) (some ((p.1 : Int) + 1)) (some (p.2 : Int)))
noncomputable def dn (text row : Str) : List Str := [text, row ++ aa "\\", aa "\"" ++ row, Txt.slice row (some 1) none, Txt.slice row none (some (-1)), aa ")" ++ row ++ aa "(", row ++ aa "\"("]
noncomputable def truth (b : Bool) : Str := if b then aa "True" else aa "False"
theorem iG (rd : List Str) : ∀ x ∈ aO rd, x.length = 1 := by
 intro x hx; obtain ⟨j, _, rfl⟩ := mMa hx; split <;> decide +kernel
theorem row_len {rd : List Str} (hr6 : rd.length = 6) : (eQ rd).length = 6 := by
 unfold eQ; rw [cQ]; have h1 := iG rd; have h2 : (aO rd).length = 6 := by unfold aO; rw [am, List.length_range]; exact hr6
 generalize aO rd = ys at h1 h2; rw [← h2]; clear h2; induction ys with
 | nil => rfl
 | cons a r ih => rw [ai, List.sum_cons, h1 a (.head _), ih fun x hx => h1 x (.tail _ hx), List.length_cons]; exact Nat.add_comm ..
theorem law_10 (W : LawE A env L) {i o g d : Nat} {ra lk : Addr} {tt : Tok} {tv : Value} {lks : List (Nat × Nat)} {tr : Tr} {net : Bool} {rd : List Str}
   (hrd : Kn m (LS ra rd)) (hr6 : rd.length = 6) (hsw : ∀ x ∈ rd, Builtin.Str.tooLong (Txt.swapcase x).length = false) (hkp : KP m lk (lks.map fun p => ((p.1 : Int), (p.2 : Int)))) (hlk : lks.length = 3) (hlb : ∀ p ∈ lks, p.1 < 6 ∧ p.2 < 6) (hkt : KT m tv tr)
   (hnd : aD [tr] ≤ 5) (hok : jG rd.length [tr]) (hxl : (aR o g d (ao i)).length ≤ 1000)
   (hseen : (dn (aR o g d (ao i)) (eQ rd)).map chk = [true, true, true, false, false, false, false])
   (hp1 : prv rd false 5 [tr] = net) (hp2 : prv rd true 5 [tr] = (net && dH rd lks))
   (B : Bd w c γ m env own ρ [] s) (r_text : (⟨"text", none, some (.str (aR o g d (ao i)) tt)⟩ : VE) ∈ ρ) (r_read : (⟨"read", some (L + 6), some (.ref ra)⟩ : VE) ∈ ρ) (r_tree : (⟨"tree", none, some (tv)⟩ : VE) ∈ ρ) (r_links : (⟨"links", none, some (.ref lk)⟩ : VE) ∈ ρ) (r_net : (⟨"net", none, some (.bool net)⟩ : VE) ∈ ρ) (r_row : Hn (aa "row") (some (L + 8)) ρ) (o_row : L + 8 ∈ own) (r_flat : Hn (aa "flat") none ρ) (r_seen : Hn (aa "seen") none ρ)
   (h : ∀ ρ γ m' s', m.le m' → Bd w c γ m' env own ρ [] s' → Q (.ret (.bool true)) s') :
   wpAny (model PG w) A (execs (lawBody.drop 18) env) Q E s := by
 conv => arg 3; arg 1; whnf
 have hE := W.kinds; have hR' := W.room; have hu : A.units < cLine := by have := W.room.units; exact a199 this
 ktf_call "sts"; refine aA B [⟨"read", some (L + 6), some (.ref ra)⟩] (by ktf_call "cs") rfl rfl (by decide +kernel) ?_; ktf_call "sts"; refine x12 (B.koS hrd) fun rvs hro hri => ?_; have hrl := ax hri; apply bJ B hR'.handled hro; intro I s B T; refine cf B T [⟨"read", some (L + 6), some (.ref ra)⟩] ["place", "letter"] (fun j v kq => ∃ t, v = .str ((aO rd).getD j ak) t) ⟨rfl, rfl, rfl, by ktf_call "cs", rfl, rfl⟩ (by rw [sizeLine_eq]; show rvs.length ≤ _; exact a217 hr6 hrl) ?_ ?_
 · intro j v c2 cenv L2 γ2 m6 own ρ nw2 s hj hE hm6 hv hC hM B Qx hK; have hj6 : j < rd.length := by rw [← hrl]; exact hj
   obtain ⟨T, tj, z, rfl, hz, hT⟩ := hv; obtain ⟨y, ty, hy, rfl⟩ := aV hri (by simpa using hz); have hym := List.mem_of_getElem? hy; have hyd : rd.getD j ak = y := by rw [ab, hy]; rfl
   have hpj : (aO rd).getD j ak = if (rd.take j).any (· == Txt.swapcase y) then aa ")" else aa "(" := by
     unfold aO; rw [ab, List.getElem?_map, List.getElem?_range hj6, Option.map_some, Option.getD_some, hyd]
   refine bA B hR'.handled hT rfl rfl ?_; clear B; intro s B; refine al (ag ?_); ktf_call "st"; refine al (ag ?_); ktf_call "st"; refine assignInOrder_nil ?_; ktf_call "sts"; refine SC.swapcase (hsw y hym) ?_; replace B := B.tk s.drawn (s.toks + 1); ktf_call "sts"; refine bx B (B.ato (aJ hm6 hro)) .none (.int _ _) ?_ (by rw [hrl]; exact szl (a242 hr6)); clear B; intro sl m7 s hm7 hk7 B; rw [slicePick_upto'] at hk7; have hst := gR j hri; ktf_call "sts"; refine in_list_strs (B.kn hk7).list hst ?_; ktf_call "sts"; refine br (fun hb => ?_) (fun hb => ?_)
   · ktf_call "sts"; ktf_call "qs"; exact hK.go (by ktf_call "tn") B hm7 fun kq kq => ⟨_, by rw [hpj, if_pos hb]⟩
   ktf_call "sts"; ktf_call "qs"; exact hK.go (by ktf_call "tn") B hm7 fun kq kq => ⟨_, by rw [hpj, hb, if_neg Bool.false_ne_true]⟩
 intro γ3 m3 xs r1 s hm3 hk3 hxs B; have hxi : StrsAre xs (aO rd) := by
   have := B.strs hxs; rw [show (af rvs.length).map (fun j => (aO rd).getD j ak) = aO rd from (aB (l := aO rd) (d := ak) (f := fun x => x) (n := rvs.length) (by unfold aO; rw [am, List.length_range]; exact hrl.symm)).trans (List.map_id' _)] at this
   ktf_call "qs"; exact this
 have hrow := row_len hr6; ktf_call "sts"; refine dp (ys := aO rd) B (B.kn hk3) hxi ?_ ?_
 · have h0 : (aa "").length = 0 := by decide +kernel
   rw [← cQ, h0]; show (eQ rd).length + _ ≤ _
   rw [hrow]; exact a241
 clear B; intro tr1 s B; rw [show Txt.join (aa "") (aO rd) = eQ rd from rfl]
 generalize hrw : eQ rd = row at *
 ktf_call "sts"; refine aA B [⟨"row", some (L + 8), some (.str row tr1)⟩] (by ktf_call "cs") rfl rfl (by decide +kernel) ?_; ktf_call "sts"; refine x12 (hkp.up hm3) fun bs hbo hbs => ?_; have hbl := hbs.length; rw [am, hlk] at hbl; apply aC B hR'.handled hbo; intro I s B T; refine dC B T [⟨"row", some (L + 8), some (.str row tr1)⟩] ["one", "other"] (fun j => !chk (Txt.slice row (some (((lks.getD j (0, 0)).1 : Int) + 1)) (some ((lks.getD j (0, 0)).2 : Int)))) (fun j v kq => True) ⟨rfl, rfl, rfl, by ktf_call "cs", rfl, rfl⟩ (by rw [am, hbl]; decide) ?_ ?_
 · intro j v c2 cenv L2 γ2 m6 own ρ nw2 s hj hE hm6 hv hC hM B Qt hK; rw [am, hbl] at hj; have hv : (bs.map Value.ref)[j]? = some v := hv; rw [List.getElem?_map] at hv; obtain ⟨b, hb, rfl⟩ := Option.map_eq_some_iff.mp hv; refine x12 (hbs.get hb) fun pq hpq hkb => ?_; rw [List.getElem?_map] at hpq; obtain ⟨⟨p, q⟩, hlkj, rfl⟩ := Option.map_eq_some_iff.mp hpq; have hgd : lks.getD j (0, 0) = (p, q) := by rw [ab, hlkj]; rfl
   refine x12 (B.kn (hkb.up hm6)) fun us hu1 hu2 => ?_; obtain ⟨ta, tb, rfl⟩ : ∃ ta tb, us = [.int (p : Int) ta, .int (q : Int) tb] := by
     cases hu2 with
     | cons _ ta h2 =>
       cases h2 with
       | cons _ tb h3 =>
         cases h3 with
         | nil => exact ⟨ta, tb, rfl⟩
   refine as_list B hR'.handled hu1 rfl rfl ?_; clear B; intro s B; refine al (ag ?_); ktf_call "st"; refine al (ag ?_); ktf_call "st"; refine assignInOrder_nil ?_; ktf_call "sts"; refine cy B (.int _ _) (.int _ _) ?_ (by rw [hrow, sizeLine_eq]; decide); clear B; intro t2 s B; ktf_call "sts"; refine iZ ?_ (hR'.less (a230) (a229)) B.bef ?_
   · have := Txt.slice_le row (some ((p : Int) + 1)) (some (q : Int)); exact a240 hrow this
   intro m7 s7 f7; replace B := B.aft f7; ktf_call "sts"; refine hK.go (by simp only [hgd]) (by ktf_call "tn") B f7.le fun hb Qx hK => ?_; ktf_call "sts"; exact hK.go (by ktf_call "tn") B f7.le fun kq kq => trivial
 intro γ4 m4 ys r2 s hm4 hk4 hys B; have hfl : ys.isEmpty = dH rd lks := by
   have hyl := hys.length; have := flat_is lks (fun p => chk (Txt.slice row (some ((p.1 : Int) + 1)) (some (p.2 : Int)))); rw [hlk] at this; rw [am, hbl] at hyl; unfold dH; rw [hrw, ← this]; rw [Bool.eq_iff_iff, List.isEmpty_iff, List.isEmpty_iff, ← List.length_eq_zero_iff, ← List.length_eq_zero_iff, hyl]
 ktf_call "sts"; ktf_call "nl"; intro nl m5 s hm5 hnl B; refine eq_empty hu (B.kn (hk4.up hm5)) (B.kn hnl) ?_; rw [hfl]; ktf_call "sts"; refine cU B [] (by ktf_call "cs") rfl rfl (by decide +kernel) (hE.kind (by rfl)) (by decide +kernel) ?_; ktf_call "sts"; have l1 : (aa "\\").length = 1 := by decide +kernel
 have l2 : (aa "\"").length = 1 := by decide +kernel
 have l3 : (aa ")").length = 1 := by decide +kernel
 have l4 : (aa "(").length = 1 := by decide +kernel
 have l5 : (aa "\"(").length = 2 := by decide +kernel
 refine cG B (by rw [l1, hrow, sizeLine_eq]; decide) ?_; clear B; intro t2 s B; ktf_call "sts"; refine cG B (by rw [l2, hrow, sizeLine_eq]; decide) ?_; clear B; intro t3 s B; ktf_call "sts"; refine cy B (.int _ _) .none ?_ (by rw [hrow, sizeLine_eq]; decide); clear B; intro t4 s B; ktf_call "sts"; refine i_neg B ?_; clear B; intro t5 s B; ktf_call "sts"; refine cy B .none (.int _ _) ?_ (by rw [hrow, sizeLine_eq]; decide); clear B; intro t6 s B; ktf_call "sts"; refine cG B (by rw [l3, hrow, sizeLine_eq]; decide) ?_; clear B; intro t7 s B; ktf_call "sts"; refine cG B (by rw [aq, l3, l4, hrow, sizeLine_eq]; decide) ?_; clear B; intro t8 s B; ktf_call "sts"; refine cG B (by rw [l5, hrow, sizeLine_eq]; decide) ?_; clear B; intro t9 s B; ktf_call "sts"; ktf_call "nt"; intro Tp m6 s hm6 hTp B; ktf_call "sts"; generalize hsa : dn (aR o g d (ao i)) row = sas at hseen; have hsl : sas.length = 7 := by rw [← hsa]; rfl
 have hsz : ∀ y ∈ sas, y.length ≤ 1000 := by
   intro y hy; rw [← hsa] at hy; simp only [dn, List.mem_cons, List.not_mem_nil, or_false] at hy; rcases hy with rfl | rfl | rfl | rfl | rfl | rfl | rfl
   · ktf_call "qs"; exact hxl
   · rw [aq, hrow, l1]; decide
   · rw [aq, hrow, l2]; decide
   · have := Txt.slice_le row (some 1) none; exact a240 hrow this
   · have := Txt.slice_le row none (some (-1)); exact a240 hrow this
   · rw [aq, aq, hrow, l3, l4]; decide
   rw [aq, hrow, l5]; decide
 obtain ⟨svs, hso, hsi⟩ : ∃ svs, (∃ ob, m6 Tp = some ob ∧ ki svs ob) ∧ StrsAre svs sas := ⟨_, B.ko hTp, by rw [← hsa]; exact .cons _ _ (.cons _ _ (.cons _ _ (.cons _ _ (.cons _ _ (.cons _ _ (.cons _ _ .nil))))))⟩; have hsvl := ax hsi; clear hTp; apply eH B hR'.handled hso; intro I s B T; refine dD (y := aa "seen") B T [] ["one"] (fun j v kq => ∃ t, v = .str ((fun y => truth (chk y)) (sas.getD j ak)) t) ⟨rfl, rfl, rfl, by ktf_call "cs", rfl, rfl⟩ (by rw [hsvl, hsl]; decide) (by ktf_call "has") ?_ ?_
 · intro j v c2 cenv L2 γ2 m7 own ρ nw2 s hj hE hm7 hv hC hM B Qx hK; obtain ⟨y, ty, hy, rfl⟩ := aV hsi hv; have hyd : sas.getD j ak = y := by rw [ab, hy]; rfl
   refine ag ?_; ktf_call "sts"; refine iZ (hsz y (List.mem_of_getElem? hy)) (hR'.less (a230) (a229)) B.bef ?_; intro m8 s8 f8; replace B := B.aft f8; ktf_call "sts"; refine P.repr_of_bool ?_; replace B := B.tk s8.drawn (s8.toks + 1); ktf_call "qs"; exact hK.go (by ktf_call "tn") B f8.le fun kq kq => ⟨_, by rw [hyd]; rfl⟩
 intro γ5 m7 zs sn ρ s hm7 hk7 hzs hV B; rw [hsvl] at hzs; have hzi := B.strs hzs; rw [aB (l := sas) (d := ak) (f := fun y => truth (chk y)) rfl] at hzi; rw [show (sas.map fun y => truth (chk y)) = [aa "True", aa "True", aa "True", aa "False", aa "False", aa "False", aa "False"] from by
   have := congrArg (List.map truth) hseen; rw [List.map_map] at this; ktf_call "qs"; exact this] at hzi
 ktf_call "sts"; ktf_call "nl"; intro tl m8 s hm8 htl B; ktf_call "sts"; refine gp hu (B.kn (P := LS sn _) (Kn.map (hk7.up hm8) fun h x => ⟨zs, x, hzi⟩)) (B.kn (P := LS tl [aa "True", aa "True", aa "True", aa "False", aa "False", aa "False", aa "False"]) (htl.map fun h x => ⟨_, x, .cons _ _ (.cons _ _ (.cons _ _ (.cons _ _ (.cons _ _ (.cons _ _ (.cons _ _ .nil))))))⟩)) ?_; ktf_call "sts"; refine aY rfl ?_; ktf_call "sts"; have hle8 := (((hm3.trans hm4).trans hm5).trans hm6).trans (hm7.trans hm8); ktf_call "nl"; intro ta m9 s hm9 hta B; ktf_call "sts"; have hrd1 : rd.length ≤ 1000 := a239 hr6
 refine jC hrd1 hsw false 5 [tr] hnd (by decide) hok (by show 1 + 5 ≤ 20; decide) (hR'.less (a238) (a237)) B.bef ⟨[tv], B.ko hta, .cons (hkt.up (hle8.trans hm9)) .nil⟩ (hrd.up (hle8.trans hm9)) ?_
 intro mA sA fA; replace B := B.aft fA; ktf_call "sts"; refine eq_bool ?_; rw [hp1, beq_self_eq_true]; ktf_call "sts"; refine bZ rfl ?_; ktf_call "sts"; have hle9 := (hle8.trans hm9).trans fA.le; ktf_call "nl"; intro tb mB s hmB htb B; ktf_call "sts"; refine jC hrd1 hsw true 5 [tr] hnd (by decide) hok (by show 1 + 5 ≤ 20; decide) (hR'.less (a238) (a237)) B.bef ⟨[tv], B.ko htb, .cons (hkt.up (hle9.trans hmB)) .nil⟩ (hrd.up (hle9.trans hmB)) ?_
 intro mC sC fC; replace B := B.aft fC; ktf_call "sts"; rw [hp2]; refine br (fun hb => ?_) (fun hb => ?_)
 · ktf_call "sts"; refine eq_bool ?_; rw [hb, Bool.true_and, beq_self_eq_true]; ktf_call "qs"; exact h _ _ mC sC ((hle9.trans hmB).trans fC.le) B
 refine eq_bool ?_; rw [hb, Bool.false_and, beq_self_eq_true]; ktf_call "qs"; exact h _ _ mC sC ((hle9.trans hmB).trans fC.le) B
end
end
section
section
variable {w : World} {c : Cx} {γ : Array GenState} {m : Mp} {env : Env} {s : Shared} {A : Around} {E : VP} {Q : Flow → Shared → Prop} {L : Addr} {own : List Addr} {ρ : List VE}
structure Facts (w : World) (f i o g d : Nat) (tr : Tr) (rd : List Str) (lks : List (Nat × Nat)) : Prop where
 parse : Parse (aR o g d (ao i)) [] tr rd
 tlen : (aR o g d (ao i)).length ≤ 1000
 rd6 : rd.length = 6
 dep : tr.dep ≤ 6
 so : ∀ y ∈ rd, aG w true y
 ls6 : (dh o d).length = 6
 last : rd = (dh o d).map fun y => Txt.item y (-1)
 lens : ∀ y ∈ dh o d, 1 ≤ y.length ∧ y.length ≤ 100
 bares : ∀ y ∈ dh o d, (Txt.replace y (aa "\"(\"") (aa "")).length ≤ 100 ∧ (bare y).length ≤ 100
 wr : bN (aR o g d (ao i)) = bM ((dh o d).map bare) tr
 fits : tr.fits 6
 size : tr.size ≤ 100
 low : ∀ p ∈ be f rd, dM p.1
 lk3 : lks.length = 3
 all : ∀ j p q, lks[j]? = some (p, q) → p < 6 ∧ q < 6 ∧ allOf (be f rd) ⟨#[abc.cps.getD j 0]⟩ = [dX p, dX q]
 rng : ∀ ch, ch < 2 ^ (az (ao i)).length → ∀ p ∈ (lks.map fun p => ((p.1 : Int), (p.2 : Int))) ++ ties (chosen (ao i) ch) tr, 0 ≤ p.1 ∧ p.1 < 11 ∧ 0 ≤ p.2 ∧ p.2 < 11
 get : ∀ ch, ch < 2 ^ (az (ao i)).length → ∀ (j : Nat) (y : Str), (cW f (ao i) ch)[j]? = some y → ∃ z : Nat, (chosen (ao i) ch)[j]? = some (z : Int) ∧ z < 10 ∧ dG (be f rd) (Txt.swapcase y) (aa "9") = dX z ∧ aG w true (Txt.lower (Txt.swapcase y)) ∧ dM (Txt.swapcase y) ∧ Builtin.Str.tooLong (Txt.swapcase y).length = false
 sw : ∀ x ∈ rd, Builtin.Str.tooLong (Txt.swapcase x).length = false
 nodes : aD [tr] ≤ 5
 seen : (dn (aR o g d (ao i)) (eQ rd)).map chk = [true, true, true, false, false, false, false]
 p1 : prv rd false 5 [tr] = bf lks tr (ao i) (2 ^ (az (ao i)).length)
 p2 : prv rd true 5 [tr] = (bf lks tr (ao i) (2 ^ (az (ao i)).length) && dH rd lks)
theorem fits_mono {n k : Nat} (h : n ≤ k) (t : Tr) (x : t.fits n) : t.fits k := by
 induction t with
 | leaf i => exact Nat.lt_of_lt_of_le x h
 | node sg l r mid ihl ihr => exact ⟨x.1, ihl x.2.1, ihr x.2.2.1, Nat.lt_of_lt_of_le x.2.2.2 h⟩
theorem law_all (facts : ∀ f i o g d : Nat, f < 24 → i < 12 → o < 720 → g < 120 → d < 46656 → ∃ tr rd lks, Facts w f i o g d tr rd lks) (W : LawE A env L) {sa : Addr} {ns : List Int} (hns : ns.length ≤ 1000) (hsa : Kn m (LI sa ns)) (B : Bd w c γ m env own ρ [] s) (r_script : (⟨"script", none, some (.ref sa)⟩ : VE) ∈ ρ) (r_sums : Hn (aa "sums") none ρ) (r_first : Hn (aa "first") (some (L + 1)) ρ) (o_first : L + 1 ∈ own) (r_words : Hn (aa "words") (some (L + 2)) ρ) (o_words : L + 2 ∈ own) (r_mask : Hn (aa "mask") (some (L + 3)) ρ) (o_mask : L + 3 ∈ own) (r_due : Hn (aa "due") none ρ) (r_octets : Hn (aa "octets") none ρ) (r_numbers : Hn (aa "numbers") none ρ) (r_shown : Hn (aa "shown") none ρ) (r_pars : Hn (aa "pars") (some (L + 4)) ρ) (o_pars : L + 4 ∈ own) (r_text : Hn (aa "text") none ρ) (r_leaves : Hn (aa "leaves") none ρ) (r_table : Hn (aa "table") (some (L + 5)) ρ) (o_table : L + 5 ∈ own) (r_read : Hn (aa "read") (some (L + 6)) ρ) (o_read : L + 6 ∈ own) (r_tree : Hn (aa "tree") none ρ) (r_name : Hn (aa "name") none ρ) (r_place : Hn (aa "place") none ρ) (r_links : Hn (aa "links") none ρ) (r_net : Hn (aa "net") none ρ) (r_choice : Hn (aa "choice") (some (L + 7)) ρ) (o_choice : L + 7 ∈ own) (r_told : Hn (aa "told") none ρ) (r_found : Hn (aa "found") none ρ) (r_row : Hn (aa "row") (some (L + 8)) ρ) (o_row : L + 8 ∈ own) (r_flat : Hn (aa "flat") none ρ) (r_seen : Hn (aa "seen") none ρ)
   (h : ∀ ρ γ m' s', m.le m' → Bd w c γ m' env own ρ [] s' → Q (.ret (.bool true)) s') : wpAny (model PG w) A (execs (lawBody.drop 0) env) Q E s := by
 with_reducible refine law_1 W hns hsa B (by ktf_call "mem") (by ktf_call "has") (by ktf_call "has") (by ktf_call "mem") (by ktf_call "has") (by ktf_call "mem") (by ktf_call "has") (by ktf_call "mem") (by ktf_call "has") ?_
 intro f i o g d sums words due tf tm ρ1 γ1 m1 s1 hf hi ho hg hd l1 htk1 hws hdue w1 n1 n2 n3 n4 B1; refine x31 (facts f i o g d hf hi ho hg hd) fun tr rd lks F => ?_; with_reducible refine law_2 W htk1 hf hi ho hg hd hws hdue B1 (by ktf_call "mem") (by ktf_call "mem") (by ktf_call "has") (by ktf_call "has") ?_
 intro oc nm ρ2 γ2 m2 s2 l2 htk2 hnm w2 n5 B2; with_reducible refine law_3 W htk2 hf hi (hws.up l2) (hdue.up l2) hnm B2 (by ktf_call "mem") (by ktf_call "mem") (by ktf_call "mem") (by ktf_call "mem") (by ktf_call "mem") (by ktf_call "has") ?_
 intro sh ρ3 γ3 m3 s3 l3 htk3 hsh w3 n6 B3; with_reducible refine law_4 W htk3 hf hi (hws.up (l2.trans l3)) (hnm.up l3) hsh B3 (by ktf_call "mem") (by ktf_call "mem") (by ktf_call "mem") (by ktf_call "has") (by ktf_call "mem") (by ktf_call "has") (by ktf_call "has") ?_
 intro pa lv tt ρ4 γ4 m4 s4 l4 htk4 hpa hlv w4 n7 n8 n9 B4; with_reducible refine law_5 W htk4 F.parse F.tlen (by rw [F.rd6]; decide) F.dep B4 (by ktf_call "mem") (by ktf_call "has") (by ktf_call "mem") (by ktf_call "has") (by ktf_call "mem") (by ktf_call "has") ?_
 intro x lst ra tv ρ5 γ5 m5 s5 l5 htk5 hx hrd hkt w5 n10 n11 n12 B5; have hws5 := hws.up (((l2.trans l3).trans l4).trans l5); with_reducible refine law_6 W htk5 hf hws5 hx hrd F.rd6 F.so B5 (by ktf_call "mem") (by ktf_call "mem") (by ktf_call "mem") (by ktf_call "has") (by ktf_call "has") ?_
 intro ρ6 γ6 m6 s6 l6 htk6 hl w6 B6; have hel : (be f rd).length = 11 := by
   unfold be eh; simp [F.rd6]
 have hes : (be f rd).map (·.1) = aZ f ++ rd := by
   unfold be eh aZ; rw [List.map_map, List.map_append, List.map_map, List.map_map]; congr 1
   have := aB (l := rd) (d := ak) (f := fun y => y) (n := rd.length) rfl; rw [List.map_id'] at this; exact this
 with_reducible refine law_7 W htk6 hf (hws5.up l6) (hlv.up (l5.trans l6)) F.ls6 (hx.up l6) hl (hrd.up l6) F.rd6 (hkt.up l6) F.fits F.size F.dep F.tlen F.last F.lens F.bares F.wr (by rw [hel]; decide) hes B6 (by ktf_call "mem") (by ktf_call "mem") (by ktf_call "mem") (by ktf_call "mem") (by ktf_call "mem") (by ktf_call "mem") ?_
 intro γ7 m7 s7 l7 B7; have l67 := l6.trans l7; with_reducible refine law_8 W (hx.up l67) (hl.up l7) F.low (by rw [hel]; decide) F.lk3 F.all B7 (by ktf_call "mem") (by ktf_call "has") (by ktf_call "has") ?_
 intro lk ρ8 γ8 m8 s8 l8 hkp w8 n13 n14 B8; have l68 := l67.trans l8; with_reducible refine law_9 W hf hi (hpa.up (l5.trans l68)) (hx.up l68) (hl.up (l7.trans l8)) F.low (by rw [hel]; decide) hkp F.lk3 (hkt.up l68) (fits_mono (by decide) tr F.fits) F.size F.dep F.rng F.get B8 (by ktf_call "mem") (by ktf_call "mem") (by ktf_call "mem") (by ktf_call "mem") (by ktf_call "mem") (by ktf_call "mem") (by ktf_call "has") (by ktf_call "mem") (by ktf_call "has") (by ktf_call "has") ?_
 intro ρ9 γ9 m9 s9 l9 w9 n15 B9; have l69 := l68.trans l9; have hTs : jG rd.length [tr] := fun t ht => by rw [mSg ht, F.rd6]; exact ⟨F.fits, F.size, F.dep⟩
 with_reducible refine law_10 W (hrd.up l69) F.rd6 F.sw (hkp.up l9) F.lk3 (fun p hp => ?_) (hkt.up l69) F.nodes hTs F.tlen F.seen F.p1 F.p2 B9 (by ktf_call "mem") (by ktf_call "mem") (by ktf_call "mem") (by ktf_call "mem") (by ktf_call "mem") (by ktf_call "has") (by ktf_call "mem") (by ktf_call "has") (by ktf_call "has") ?_
 · obtain ⟨j, hj⟩ := List.mem_iff_getElem?.mp hp; refine x03 (F.all j p.1 p.2 hj) fun h1 h2 kq => ?_; exact ⟨h1, h2⟩
 intro ρ γA mA sA lA BA; exact h ρ γA mA sA ((l1.trans (l2.trans (l3.trans (l4.trans (l5.trans l69))))).trans lA) BA
end
end
section
open PySem.W.Fast in
noncomputable def tLeft (w : World) (b : Bool) :=
 ((tw10274390034422433532 tw14364793385576792824 (opening P0) w 4112 (tw1435165496053646825 (opening P0)).1 (tw1435165496053646825 (opening P0)).2).bind (tw14289696077712309145 P0)).map fun s₀ =>
   (match s₀.heap.isNs mainGlobals && s₀.gens.size == 0 with
     | true => (tw14082659384304107361 tw14364793385576792824 P0 (w.withFollow "special-get-raises" b) s₀.heap.objs.size (s₀.heap.nsMap mainGlobals "__annotations__") 4112 s₀ (topStub P0)).bind fun s₁ => match staticsOk (tw5923862056798008813 P0.main.body) s₀.heap s₁.heap && namesBound P0 s₁.heap && gensDone s₁ && laidKept s₀.heap s₁.heap with
         | true => some s₁
         | false => none
     | false => none : Option Shared).map fun s => (tw4187177175401517315 qq lo (tw5923862056798008813 P0.main.body) (fun s => xlAt qq [] s && recOk [] s) true s, KA.map s.heap.get?)
theorem left_f (w : World) : tLeft w false = some (some (openGood qq lo, (KH w.params).map fun p => some p.2)) := by kernel_rfl
theorem left_t (w : World) : tLeft w true = some (some (openGood qq lo, (KH w.params).map fun p => some p.2)) := by kernel_rfl
noncomputable abbrev seenK (s : Shared) := (openSeen qq lo (importedModules P0.main.body) (fun s => xlAt qq [] s && recOk [] s) true s, KA.map s.heap.get?)
noncomputable abbrev goodK (w : World) := (openGood qq lo, (KH w.params).map fun p => some p.2)
theorem tLeft_is (w : World) (b : Bool) : tLeft w b = (fencedOpening treeTable P0 w 4112).map fun s₀ => (topFrom treeTable P0 (w.withFollow "special-get-raises" b) 4112 s₀).map seenK := by
 unfold tLeft; rw [← PySem.W.Fast.te10274390034422433532, ← PySem.W.Fast.te14364793385576792824, ← PySem.W.Fast.te1435165496053646825, ← PySem.W.Fast.te14289696077712309145, ← PySem.W.Fast.te14082659384304107361, ← PySem.W.Fast.te5923862056798008813, ← PySem.W.Fast.te4187177175401517315]; rfl
theorem left : LeftO P0 qq lo (fun s => xlAt qq [] s && recOk [] s) (fun s => KA.map s.heap.get?) (fun w => (KH w.params).map fun p => some p.2) 4112 := by
 refine LeftO.of_split "special-get-raises" fun w => ?_; have a := left_f w; have b := left_t w; rw [tLeft_is] at a b; refine x12 (Option.map_eq_some_iff.mp a) fun s₀ h1 h2 => ?_; rw [h1] at b ⊢; have b := Option.some.inj b; show some (_, _) = _
 rw [show (topFrom treeTable P0 (w.withFollow "special-get-raises" false) 4112 s₀).map seenK = some (goodK w) from h2, show (topFrom treeTable P0 (w.withFollow "special-get-raises" true) 4112 s₀).map seenK = some (goodK w) from b]
 rfl
end
section
theorem said : PySem.Challenge.rw_kl0125_01.wellSaid = true := (congrFun PySem.W.Fast.te9446332074065402090 _).trans (by kernel_rfl)
theorem looks : (chainsOk qq && opensWell PySem.Challenge.rw_kl0125_01.row.prog && (frees PySem.Challenge.rw_kl0125_01.row.toRowW && PySem.Challenge.rw_kl0125_01.row.within.isEmpty)) = true := by decide +kernel
theorem bare0 : PySem.Challenge.rw_kl0125_01.row.prog.bare := ⟨rfl, rfl, rfl, rfl, rfl, by decide +kernel⟩
theorem wit : PySem.Challenge.rw_kl0125_01.row.toRowW.promised := by w_witness2
theorem the_head {d : DefRec} {kwd : List (Str × Expr)} (hdef : defOf qq PySem.Challenge.rw_kl0125_01.row.name = some (d, kwd)) (hp : PySem.Challenge.rw_kl0125_01.row.prog.theDef PySem.Challenge.rw_kl0125_01.row.name = some (d.params, d.body, d.scope)) (hk : kwWritten? d.params.kwonlyargs d.params.kw_defaults = some kwd)
   (walk : WalkO qq lo (XL qq []) (InK KH) PySem.Challenge.rw_kl0125_01.row.toRowW d kwd fun f vs => PySem.call f vs) : PySem.Challenge.rw_kl0125_01.Holds :=
 holds_law said fun k1 => PySem.W.holds_open (q := qq) (loose := lo) (Xt := fun s => xlAt qq [] s && recOk [] s) (XP := XL qq []) (Yf := fun s : Shared => KA.map s.heap.get?) (Ya := fun w => (KH w.params).map fun p : Addr × Obj => some p.2) (YP := InK KH) (N := 4112) left (InK.of (fun kq => rfl)) InK.keeps
   (fun s e => xl_of s (Bool.and_eq_true_iff.mp e).1) XL.keeps hdef hp hk (fun s e => recFacts_of (Bool.and_eq_true_iff.mp e).2) rfl k1 looks bare0 wit walk
end
section
theorem ints_has {R : WRecords} : ∀ {xs : List WData}, WShape.hasItems R xs .int = true → ∀ x ∈ xs, ∃ n, x = .int n := by
 intro xs; induction xs with
 | nil => intro _ x hx; cases hx
 | cons y r ih =>
   intro h x hx; have h : (WShape.has R y .int && WShape.hasItems R r .int) = true := h; obtain ⟨h1, h2⟩ := Bool.and_eq_true_iff.mp h; rcases mCo hx with rfl | hx
   · cases x with
     | int n => exact ⟨n, rfl⟩
     | _ => exact (Bool.false_ne_true h1).elim
   exact ih h2 x hx
theorem args_of {args : List WData} (h : PySem.Challenge.rw_kl0125_01.row.claim.pre args = true) : ∃ xs, args = [.list xs] ∧ (∀ x ∈ xs, ∃ n, x = .int n) ∧ xs.length ≤ 63 := by
 have h : (WShape.hasAll [] args [.list .int] && (PySem.Challenge.rw_kl0125_01.pre).holds [] { args := args }) = true := h; obtain ⟨h1, h2⟩ := Bool.and_eq_true_iff.mp h; match args, h1, h2 with
 | [a], h1, h2 =>
   have h1 : (WShape.has [] a (.list .int) && true) = true := h1; rw [Bool.and_true] at h1; cases a with
   | list xs =>
     have h3 : ((WShape.hasItems [] xs .int) || false) = true := h1; rw [Bool.or_false] at h3; refine ⟨xs, rfl, ints_has h3, ?_⟩; rcases Nat.lt_or_ge 63 xs.length with q | q
     · exfalso
       have e : PySem.W.less? (.int 63) (.int (xs.length : Nat)) = some true := by
         show some (decide ((63 : Int) < (xs.length : Nat))) = some true
         rw [decide_eq_true (a262 q)]
       have h5 : (PySem.Challenge.rw_kl0125_01.pre).value [] { args := [.list xs] } = some (.bool false) := by
         show (match (match (PySem.W.less? (.int 63) (.int (xs.length : Nat))).map WData.bool with | some (.bool b) => some (WData.bool (!b)) | _ => none) with | some (.bool false) => some (WData.bool false) | some (.bool true) => some (.bool true) | _ => none) = _
         rw [e]; rfl
       unfold WTm.holds at h2; rw [h5] at h2; cases h2
     exact q
   | _ => exact (Bool.false_ne_true h1).elim
 | a :: b :: r, h1, h2 =>
   have h1 : (WShape.has [] a (.list .int) && false) = true := h1; rw [Bool.and_false] at h1; cases h1
theorem ib {P : Params} {h : Heap} : ∀ {vs : List Value} {xs : List WData}, WellAll P h vs xs → (∀ x ∈ xs, ∃ n, x = .int n) → ∃ ns, IntsAre vs ns ∧ ns.length = xs.length := by
 intro vs; induction vs with
 | nil => intro xs hr _; cases hr; exact ⟨[], .nil, rfl⟩
 | cons v r ih =>
   intro xs hr hx; cases hr with
   | cons h1 h2 =>
     obtain ⟨n, rfl⟩ := hx _ (.head _); refine x12 (ih h2 fun x hx' => hx x (.tail _ hx')) fun ns h3 h4 => ?_; cases h1
     exact ⟨n :: ns, .cons _ _ h3, by simp [h4]⟩
theorem the_law (facts : ∀ (w : World) (f i o g d : Nat), f < 24 → i < 12 → o < 720 → g < 120 → d < 46656 → ∃ tr rd lks, Facts w f i o g d tr rd lks) : PySem.Challenge.rw_kl0125_01.Holds := by
 refine the_head (by rfl) (by rfl) (by rfl) ?_; intro w s0 s1 mg mb G Y fa o pm cd doc dV kV ho hd2 hcd hD hmg hg args vals as hpre hlay hrd hwl hlo; have KX : (KH w.params).In s1.heap := Y; clear hd2 hcd hD; have hfa : fa = 322 := by
   have h1 : mg (aa "law") = some (.ref 322) := mg_of KX G.T.g (by rfl); have h2 : mg (aa "law") = some (.ref fa) := hmg; rw [h1] at h2; cases h2; rfl
 subst hfa; clear hmg; obtain ⟨xs, rfl, hxi, hxl⟩ := args_of hpre; obtain ⟨v, vs', rfl, hw1, hw2⟩ := wellAll_cons_inv hwl; cases hw2
 obtain ⟨a, us, rfl, hau, hus⟩ : ∃ a us, v = .ref a ∧ s1.heap.get? a = some { cls := .type "list", data := .seq us.toArray } ∧ WellAll w.params s1.heap us xs := by
   cases hw1 with
   | list h1 h2 => exact ⟨_, _, rfl, h1, h2⟩
 refine x12 (ib hus hxi) fun ns hui hnl => ?_; have G' : Grd w s1.heap := ⟨KX, ⟨mg, G.T.g, fun x v e => by
   cases v with
   | none => exact mg_none_of KX G.T.g e
   | some v => exact mg_of KX G.T.g e⟩, ⟨mb, G.T.b, G.T.builtins⟩, G.T.nolimit, G.T.nodigits⟩
 have b : Bef w (Mp.of s1.heap []) s1 := ⟨fun a o e => (Mp.of_get e).1, fun h ok => G'.keeps fun b o e => ok b o (Mp.get_of e (by simp)), by rw [hg]; intro i hx; simp at hx⟩; have hsa : Kn (Mp.of s1.heap []) (LI a ns) := fun h ok => ⟨us, ⟨_, ok _ _ (Mp.get_of hau (by simp)), _, rfl⟩, hui⟩; have hRm : Rm callerA 61 303 := ⟨rfl, by decide, by decide⟩; show wpAny (model PG w) callerA (call (.ref 322) [.ref a]) _ _ s1
 refine enterCF (d := 60) (u := 300) (nw := []) (ns := ["script", "sums", "due", "octets", "place", "numbers", "shown", "leaves", "text", "tree", "name", "links", "net", "told", "found", "flat", "seen"]) (cn := ["first", "words", "mask", "pars", "table", "read", "choice", "row"]) (ρ₀ := fun L => [⟨"script", none, some (.ref a)⟩, ⟨"sums", none, none⟩, ⟨"due", none, none⟩, ⟨"octets", none, none⟩, ⟨"place", none, none⟩, ⟨"numbers", none, none⟩, ⟨"shown", none, none⟩, ⟨"leaves", none, none⟩, ⟨"text", none, none⟩, ⟨"tree", none, none⟩, ⟨"name", none, none⟩, ⟨"links", none, none⟩, ⟨"net", none, none⟩, ⟨"told", none, none⟩, ⟨"found", none, none⟩, ⟨"flat", none, none⟩, ⟨"seen", none, none⟩, ⟨"first", some (L + 1), none⟩, ⟨"words", some (L + 2), none⟩, ⟨"mask", some (L + 3), none⟩, ⟨"pars", some (L + 4), none⟩, ⟨"table", some (L + 5), none⟩, ⟨"read", some (L + 6), none⟩, ⟨"choice", some (L + 7), none⟩, ⟨"row", some (L + 8), none⟩]) (own₀ := fun L => [L, L + 1, L + 2, L + 3, L + 4, L + 5, L + 6, L + 7, L + 8]) hRm b .nil rfl rfl rfl rfl rfl rfl rfl rfl rfl rfl (by rfl) (by decide +kernel) (by decide +kernel) (by decide +kernel) (fun L => rfl) (fun L => rfl) (fun L => rfl) ?_; intro A' env L c s' hA hfm hE hR' hc B hL; have W : LawE A' env L := ⟨hE, hR', by rw [hA]; exact Around.frames_deeper rfl, hfm⟩; ktf_call "opq"; refine law_all (facts w) W (a261 hxl hnl) hsa B (by ktf_call "mem") (by ktf_call "has") (by ktf_call "has") (by ktf_call "mem") (by ktf_call "has") (by ktf_call "mem") (by ktf_call "has") (by ktf_call "mem") (by ktf_call "has") (by ktf_call "has") (by ktf_call "has") (by ktf_call "has") (by ktf_call "has") (by ktf_call "mem") (by ktf_call "has") (by ktf_call "has") (by ktf_call "has") (by ktf_call "mem") (by ktf_call "has") (by ktf_call "mem") (by ktf_call "has") (by ktf_call "has") (by ktf_call "has") (by ktf_call "has") (by ktf_call "has") (by ktf_call "has") (by ktf_call "mem") (by ktf_call "has") (by ktf_call "has") (by ktf_call "has") (by ktf_call "mem") (by ktf_call "has") (by ktf_call "has") ?_; intro ρ γ m' s2 l B2; have f := B2.done hc .nil av; refine ⟨.inl ⟨.bool true, .bool true, [], rfl, fun cls => rfl, .bool true, by kernel_rfl, fun kq => ⟨.nil, fun a ha => by cases ha⟩⟩, OldK.of_keep fun b o e => f.keep b o e (by simp), f.os, f.bare⟩
end
section
inductive Tk where
 | ch (c : Nat)
 | lf (i : Nat)
 deriving DecidableEq, Inhabited
noncomputable def ex1 (ls : List Str) : Tk → List Nat
 | .ch c => [c]
 | .lf i => (ls.getD i ak).cps.toList
noncomputable def ex (ls : List Str) (l : List Tk) : List Nat := l.flatMap (ex1 ls)
theorem fT (ls : List Str) (a b : List Tk) : ex ls (a ++ b) = ex ls a ++ ex ls b := by unfold ex; rw [List.flatMap_append]
theorem iS (ls : List Str) (t : Tk) (l : List Tk) : ex ls (t :: l) = ex1 ls t ++ ex ls l := rfl
theorem ex_nil (ls : List Str) : ex ls [] = [] := rfl
noncomputable def glueT (x y : List Tk) : List Tk := [.ch 40] ++ x ++ [.ch 63] ++ y ++ [.ch 41]
noncomputable def bD (st : Nat × List (List Tk)) (size : Nat) : Nat × List (List Tk) :=
 (st.1 / size, st.2.take (st.1 % size) ++ [glueT (st.2.getD (st.1 % size) []) (st.2.getD (st.1 % size + 1) [])] ++ st.2.drop (st.1 % size + 2))
noncomputable def dy (merging : Nat) (l : List (List Tk)) : Nat × List (List Tk) := [5, 4, 3, 2, 1].foldl bD (merging, l)
theorem cj (x y : Str) : (x ++ y).cps.toList = x.cps.toList ++ y.cps.toList := by
 show (x.cps ++ y.cps).toList = _
 simp
theorem glue_ex (ls : List Str) (a b : Str) (x y : List Tk) (ha : a.cps.toList = ex ls x) (hb : b.cps.toList = ex ls y) : (iP a b).cps.toList = ex ls (glueT x y) := by
 unfold iP glueT; simp only [cj, fT, ha, hb]; have h1 : (aa "(").cps.toList = [40] := by decide +kernel
 have h2 : (aa "?").cps.toList = [63] := by decide +kernel
 have h3 : (aa ")").cps.toList = [41] := by decide +kernel
 rw [h1, h2, h3]; rfl
theorem fc {α β γ : Type} {f : α → γ} {h : β → γ} {l : List α} {k : List β} (e : l.map f = k.map h) (i : Nat) (a : α) (b : β) (hd : f a = h b) : f (l.getD i a) = h (k.getD i b) := by
 have := congrArg (fun z => z.getD i (f a)) e; simp only [ab, List.getElem?_map] at this; rw [ab, ab]; cases h1 : l[i]? with
 | none =>
   cases h2 : k[i]? with
   | none => exact hd
   | some y =>
     have hl := List.getElem?_eq_none_iff.mp h1; have hk := (List.getElem?_eq_some_iff.mp h2).1; have := congrArg List.length e; simp only [am] at this; (first | lia | omega)
 | some x =>
   cases h2 : k[i]? with
   | none =>
     have hk := List.getElem?_eq_none_iff.mp h2; have hl := (List.getElem?_eq_some_iff.mp h1).1; have := congrArg List.length e; simp only [am] at this; (first | lia | omega)
   | some y =>
     rw [h1, h2] at this; exact this
theorem bK (ls : List Str) (st : Nat × List Str) (tt : Nat × List (List Tk)) (size : Nat) (h1 : st.1 = tt.1) (h2 : st.2.map (fun s => s.cps.toList) = tt.2.map (ex ls)) :
   (bX st size).1 = (bD tt size).1 ∧ (bX st size).2.map (fun s => s.cps.toList) = (bD tt size).2.map (ex ls) := by
 unfold bX bD; refine ⟨by rw [h1], ?_⟩; simp only [List.map_append, List.map_take, List.map_drop, ai, List.map_nil, h1, h2]; congr 2
 congr 1
 exact glue_ex ls _ _ _ _ (fc (f := fun s : Str => s.cps.toList) (h := ex ls) h2 _ _ _ rfl) (fc (f := fun s : Str => s.cps.toList) (h := ex ls) h2 _ _ _ rfl)
noncomputable def leavesT : List (List Tk) := [[.lf 0], [.lf 1], [.lf 2], [.lf 3], [.lf 4], [.lf 5]]
theorem leaves_ex {ls : List Str} (h : ls.length = 6) : ls.map (fun s => s.cps.toList) = leavesT.map (ex ls) := by
 revert h; generalize ls = l; revert l
 exact len6 fun a b c d e f => by simp [leavesT, ex, ex1]
theorem iI (ls : List Str) (h : ls.length = 6) (g : Nat) : (aW g ls 5).2.map (fun s => s.cps.toList) = (dy g leavesT).2.map (ex ls) := by
 have := bK ls (g, ls) (g, leavesT) 5 rfl (leaves_ex h); have := bK ls _ _ 4 this.1 this.2; have := bK ls _ _ 3 this.1 this.2; have := bK ls _ _ 2 this.1 this.2; have := bK ls _ _ 1 this.1 this.2; exact this.2
end
section
noncomputable def iq : List Tk → List Tk → List (List Tk)
 | acc, [] => [acc]
 | acc, t :: r => if t = .ch 63 then acc :: iq [] r else iq (acc ++ [t]) r
theorem eK (c : Nat) : ∀ (w acc rest : List Nat), c ∉ w → bU c acc (w ++ rest) = bU c (acc ++ w) rest
 | [], acc, rest, h => by simp
 | a :: w, acc, rest, h => by
   have ha : a ≠ c := fun e => h (e ▸ .head _); rw [List.cons_append]; show (if a = c then _ else _) = _
   rw [if_neg ha, eK c w (acc ++ [a]) rest fun hx => h (.tail _ hx)]; simp
theorem i8 (ls : List Str) (hls : ∀ i, (63 : Nat) ∉ (ls.getD i ak).cps.toList) : ∀ (l acc : List Tk), bU 63 (ex ls acc) (ex ls l) = (iq acc l).map (ex ls)
 | [], acc => rfl
 | .ch c :: r, acc => by
   rw [iS]; show (if c = 63 then _ else _) = _
   unfold iq; by_cases h : c = 63
   · rw [if_pos h, if_pos (by rw [h]), ai]; congr 1
     exact i8 ls hls r []
   rw [if_neg h, if_neg (by intro e; injection e with e; exact h e)]
   have := i8 ls hls r (acc ++ [.ch c]); rw [fT] at this; exact this
 | .lf i :: r, acc => by
   rw [iS]; unfold iq; rw [if_neg (by intro e; injection e)]; have := i8 ls hls r (acc ++ [.lf i]); rw [fT] at this; rw [← this]; rw [eK 63 _ _ _ (show 63 ∉ ex1 ls (.lf i) from hls i)]
   congr 2
   show _ = ex1 ls (.lf i) ++ []
   simp
noncomputable def cR (l : List Tk) (signs : List Nat) : List Tk := ((iq [] l).getD 0 []) ++ (List.zipWith (fun c p => .ch c :: p) signs ((iq [] l).drop 1)).flatten
theorem fS (ls : List Str) : ∀ l : List (List Tk), ex ls l.flatten = (l.map (ex ls)).flatten
 | [] => rfl
 | x :: r => by rw [List.flatten_cons, fT, fS ls r, ai, List.flatten_cons]
theorem zip_ex (ls : List Str) : ∀ (signs : List Nat) (ps : List (List Tk)), (List.zipWith (· ++ ·) (signs.map fun c => (⟨#[c]⟩ : Str)) (ps.map fun p => (⟨(ex ls p).toArray⟩ : Str))).map (fun s => s.cps.toList) = (List.zipWith (fun c p => Tk.ch c :: p) signs ps).map (ex ls)
 | [], _ => rfl
 | _ :: _, [] => rfl
 | c :: cs, p :: ps => by
   simp only [ai, List.zipWith_cons_cons]; rw [zip_ex ls cs ps]; congr 1
   rw [cj, iS]; rfl
theorem signs_ex (ls : List Str) (hls : ∀ i, (63 : Nat) ∉ (ls.getD i ak).cps.toList) (x : Str) (l : List Tk) (signs : List Nat) (hx : x.cps.toList = ex ls l) :
   (cI x (signs.map fun c => (⟨#[c]⟩ : Str))).cps.toList = ex ls (cR l signs) := by
 have hq : aa "?" = ⟨#[63]⟩ := by decide +kernel
 have hsp : Txt.split x (aa "?") = (iq [] l).map fun p => (⟨(ex ls p).toArray⟩ : Str) := by
   rw [hq, fy x 63 (by decide), hx]; have := i8 ls hls l []; rw [ex_nil] at this; rw [this, List.map_map]; rfl
 unfold cI cR; rw [hsp, cj, fT, gy, fS, ← List.map_drop, zip_ex]; congr 1
 rw [ab, ab, List.getElem?_map]; cases (iq [] l)[0]? with
 | none => rfl
 | some p => rfl
noncomputable def sgn (k : Nat) : List Nat := (af 5).map fun j => if k.testBit j then 43 else 42
theorem sgn_is (k : Nat) : gb k = (sgn k).map fun c => (⟨#[c]⟩ : Str) := by
 unfold gb sgn; rw [List.map_map]; refine List.map_congr_left fun j kq => ?_; have h1 : aa "+" = ⟨#[43]⟩ := by decide +kernel
 have h2 : aa "*" = ⟨#[42]⟩ := by decide +kernel
 simp only [Function.comp_apply]; split <;> simp_all
noncomputable def i6 (g k : Nat) : List Tk := cR ((dy g leavesT).2.getD 0 []) (sgn k)
theorem text_ex {o g d k : Nat} (h6 : (dh o d).length = 6) (hq : ∀ i, (63 : Nat) ∉ ((dh o d).getD i ak).cps.toList) : (aR o g d k).cps.toList = ex (dh o d) (i6 g k) := by
 unfold aR i6; rw [sgn_is]; exact signs_ex _ hq _ _ _ (fc (f := fun s : Str => s.cps.toList) (h := ex (dh o d)) (iI _ h6 g) 0 _ _ rfl)
end
section
noncomputable def ltsOf (o : Nat) : List Str := (aH o 0 6).2.2.2
noncomputable def dsOf (d : Nat) : List Nat := [d % 6, d / 6 % 6, d / 6 / 6 % 6, d / 6 / 6 / 6 % 6, d / 6 / 6 / 6 / 6 % 6, d / 6 / 6 / 6 / 6 / 6 % 6]
theorem eG {x y : Str} (h : x.cps.toList = y.cps.toList) : x = y := by
 cases x with
 | mk x => cases y with
   | mk y => exact congrArg Str.mk (Array.toList_inj.mp h)
theorem b0 (x : Str) : aa "" ++ x = x := eG (by
 rw [cj]; have : (aa "").cps.toList = [] := by decide +kernel
 rw [this]; rfl)
theorem ls_is (o d : Nat) : dh o d = List.zipWith (fun k x => dressL.getD k ak ++ x) (dsOf d) (ltsOf o) := by
 have h0 : ∀ x : Str, dressL.getD (0 % 6) ak ++ x = x := fun x => b0 x; have h1 : ∀ x : Str, dressL.getD (0 / 6 % 6) ak ++ x = x := fun x => b0 x; have h2 : ∀ x : Str, dressL.getD (0 / 6 / 6 % 6) ak ++ x = x := fun x => b0 x; have h3 : ∀ x : Str, dressL.getD (0 / 6 / 6 / 6 % 6) ak ++ x = x := fun x => b0 x; have h4 : ∀ x : Str, dressL.getD (0 / 6 / 6 / 6 / 6 % 6) ak ++ x = x := fun x => b0 x; have h5 : ∀ x : Str, dressL.getD (0 / 6 / 6 / 6 / 6 / 6 % 6) ak ++ x = x := fun x => b0 x; unfold dh ltsOf aH dsOf; simp only [List.take_succ_cons, List.take_zero, List.foldl_cons, List.foldl_nil, cb, List.nil_append, List.cons_append, h0, h1, h2, h3, h4, h5, List.zipWith_cons_cons, List.zipWith_nil_left]
noncomputable def dq (st : Nat × List Nat × List Nat) (size : Nat) : Nat × List Nat × List Nat := (st.1 / size, st.2.1.eraseIdx (st.1 % size), st.2.2 ++ [st.2.1.getD (st.1 % size) 6])
noncomputable def aI (o : Nat) : List Nat := ([6, 5, 4, 3, 2, 1].foldl dq (o, [0, 1, 2, 3, 4, 5], [])).2.2
noncomputable def bk (j : Nat) : Str := poolL.getD j ak
theorem dJ {α β : Type} (f : α → β) : ∀ (l : List α) (i : Nat), (l.map f).eraseIdx i = (l.eraseIdx i).map f
 | [], _ => by simp
 | x :: l, 0 => by simp
 | x :: l, i + 1 => by simp [dJ f l i]
theorem j1 (l : List Nat) (i : Nat) : (l.map bk).getD i ak = bk (l.getD i 6) := by
 rw [ab, ab, List.getElem?_map]; cases l[i]? <;> rfl
theorem jl (o : Nat) : ltsOf o = (aI o).map bk := by
 have step : ∀ (st : Nat × Nat × List Str × List Str) (tt : Nat × List Nat × List Nat) (size : Nat), st.1 = tt.1 → st.2.1 = 0 → st.2.2.1 = tt.2.1.map bk → st.2.2.2 = tt.2.2.map bk →
     (cb st size).1 = (dq tt size).1 ∧ (cb st size).2.1 = 0 ∧ (cb st size).2.2.1 = (dq tt size).2.1.map bk ∧ (cb st size).2.2.2 = (dq tt size).2.2.map bk := by
   intro st tt size h1 h2 h3 h4; unfold cb dq; refine ⟨by rw [h1], by rw [h2], ?_, ?_⟩
   · show st.2.2.1.eraseIdx (st.1 % size) = _
     rw [h1, h3, dJ]
   show st.2.2.2 ++ [dressL.getD (st.2.1 % 6) ak ++ st.2.2.1.getD (st.1 % size) ak] = _
   rw [h1, h2, h3, h4, j1, show dressL.getD (0 % 6) ak = aa "" from rfl, b0]
   simp
 refine x04 (step (o, 0, poolL, []) (o, [0, 1, 2, 3, 4, 5], []) 6 rfl rfl rfl rfl) fun a1 a2 a3 a4 => ?_; refine x04 (step _ _ 5 a1 a2 a3 a4) fun a1 a2 a3 a4 => ?_; refine x04 (step _ _ 4 a1 a2 a3 a4) fun a1 a2 a3 a4 => ?_; refine x04 (step _ _ 3 a1 a2 a3 a4) fun a1 a2 a3 a4 => ?_; refine x04 (step _ _ 2 a1 a2 a3 a4) fun a1 a2 a3 a4 => ?_; refine x04 (step _ _ 1 a1 a2 a3 a4) fun a1 a2 a3 a4 => ?_; exact a4
theorem perm_ok : ∀ o : Fin 720, (aI o.val).length = 6 ∧ (aI o.val).all (fun x => Nat.blt x 6) = true ∧ [0, 1, 2, 3, 4, 5].all (fun x => (aI o.val).contains x) = true := by decide +kernel
end
section
inductive Ck where
 | pl (c : Nat)
 | es (c : Nat)
 | qu (c : Nat)
 deriving DecidableEq, Inhabited
noncomputable def Ck.chars : Ck → List Nat
 | .pl c => [c]
 | .es c => [92, c]
 | .qu c => [34, c, 34]
noncomputable def Ck.ok : Ck → Prop
 | .pl c => c ≠ 34 ∧ c ≠ 92
 | .es _ => True
 | .qu c => c ≠ 34 ∧ c ≠ 92
noncomputable def Ck.open : Ck → Bool
 | .qu _ => false
 | _ => true
noncomputable def cks (l : List Ck) : List Nat := l.flatMap Ck.chars
theorem bj (x : Ck) (l : List Ck) : cks (x :: l) = x.chars ++ cks l := rfl
theorem d7 (a b : List Ck) : cks (a ++ b) = cks a ++ cks b := by unfold cks; rw [List.flatMap_append]
noncomputable def Ck.items (p : Nat) : Ck → List (Nat × List Nat)
 | .pl c => [(p, [c])]
 | .es c => [(p + 1, [92, c])]
 | .qu c => [(p, [34]), (p + 1, [c]), (p + 2, [34])]
noncomputable def cr : Nat → List Ck → List (Nat × List Nat)
 | _, [] => []
 | p, x :: r => x.items p ++ cr (p + x.chars.length) r
theorem dI : ∀ (l : List Ck) (p q : Nat), (∀ x ∈ l, x.ok) → dO (cks l) p false q = cr p l
 | [], p, q, h => rfl
 | .pl c :: r, p, q, h => by
   have hc := h _ (.head _); have ih := fun q => dI r (p + 1) q fun x hx => h x (.tail _ hx); rw [bj]; show (if false = true then _ else if c = 92 then _ else _) = _
   rw [if_neg Bool.false_ne_true, if_neg hc.2]; show _ :: dO (cks r) (p + 1) false p = _
   rw [ih]; rfl
 | .es c :: r, p, q, h => by
   have ih := fun q => dI r (p + 2) q fun x hx => h x (.tail _ hx); rw [bj]; show (if false = true then _ else if 92 = 92 then dO (c :: cks r) (p + 1) true p else _) = _
   rw [if_neg Bool.false_ne_true, if_pos rfl]; show (if true = true then (p + 1, [92, c]) :: dO (cks r) (p + 1 + 1) false (p + 1) else _) = _
   rw [if_pos rfl, ih]; rfl
 | .qu c :: r, p, q, h => by
   have hc := h _ (.head _); have ih := fun q => dI r (p + 3) q fun x hx => h x (.tail _ hx); rw [bj]; show (if false = true then _ else if 34 = 92 then _ else (p, [34]) :: dO (c :: 34 :: cks r) (p + 1) false p) = _
   rw [if_neg Bool.false_ne_true, if_neg (by decide)]; show _ :: (if false = true then _ else if c = 92 then _ else (p + 1, [c]) :: dO (34 :: cks r) (p + 1 + 1) false (p + 1)) = _
   rw [if_neg Bool.false_ne_true, if_neg hc.2]; show _ :: _ :: (if false = true then _ else if 34 = 92 then _ else (p + 2, [34]) :: dO (cks r) (p + 2 + 1) false (p + 2)) = _
   rw [if_neg Bool.false_ne_true, if_neg (by decide), ih]; rfl
end
section
theorem gW {x : Str} {i j : Nat} (h1 : i ≤ j) (h2 : j ≤ x.cps.toList.length) : (Txt.slice x (some (i : Int)) (some (j : Int))).cps.toList = (x.cps.toList.drop i).take (j - i) := by
 rw [eq_of_beq (PyProof.Rows.slice_closes (x := x) (i := i) (j := j) ⟨by exact a12, by exact a494 h1, by exact a494 h2⟩)]; simp only [Int.toNat_natCast]; rw [show ((j : Int) - (i : Int)).toNat = j - i from by exact a493]
theorem i9 {x : Str} {j : Nat} (h2 : j ≤ x.cps.toList.length) : (Txt.slice x none (some (j : Int))).cps.toList = x.cps.toList.take j := by
 rw [eq_of_beq (PyProof.Rows.slice_closes_to (x := x) (j := j) ⟨by exact a12, by exact a494 h2⟩)]; simp
theorem fE {x : Str} {i : Nat} (h2 : i ≤ x.cps.toList.length) : (Txt.slice x (some (i : Int)) none).cps.toList = x.cps.toList.drop i := by
 rw [eq_of_beq (PyProof.Rows.slice_closes_from (x := x) (i := i) ⟨by exact a12, by exact a494 h2⟩)]; simp only [Int.toNat_natCast]; rw [show ((x.cps.toList.length : Int) - (i : Int)).toNat = x.cps.toList.length - i from by exact a493]
 rw [List.take_of_length_le (by simp)]
end
section
noncomputable def de (l : List Str) : List Nat := (l.map fun s => s.cps.toList).flatten
theorem fn (a b : List Str) : de (a ++ b) = de a ++ de b := by unfold de; simp
theorem gH {α : Type} {a b : List α} {n : Nat} (h : n ≤ a.length) : (a ++ b).drop n = a.drop n ++ b := List.drop_append_of_le_length h
theorem cS (z : Str) : ∀ (r : List Ck) (pre : List Nat) (st : Nat) (acc : List Str) (done : List Nat), (∀ x ∈ r, x.ok) → z.cps.toList = pre ++ cks r → st ≤ pre.length → de acc ++ pre.drop st = done →
   ∃ st' acc', (cr pre.length r).foldl (aN z) (st, none, acc) = (st', none, acc') ∧ st' ≤ z.cps.toList.length ∧ de acc' ++ z.cps.toList.drop st' = done ++ cks (r.filter Ck.open)
 | [], pre, st, acc, done, hok, hz, hst, hd => by
   have hz' : z.cps.toList = pre := by rw [hz]; simp [cks]
   refine ⟨st, acc, rfl, by rw [hz']; exact hst, ?_⟩; rw [hz', hd]; simp [cks]
 | .pl c :: r, pre, st, acc, done, hok, hz, hst, hd => by
   have hc := hok _ (.head _); have := cS z r (pre ++ [c]) st acc (done ++ [c]) (fun x hx => hok x (.tail _ hx)) (by rw [hz, bj]; simp [Ck.chars]) (by simp; exact a0 hst) (by rw [gH hst, ← hd]; simp); refine x23 this fun st' acc' h1 h2 h3 => ?_; refine ⟨st', acc', ?_, h2, ?_⟩
   · rw [← h1]; show (cr (pre.length + 1) r).foldl (aN z) (aN z (st, none, acc) (pre.length, [c])) = _
     have e : aN z (st, none, acc) (pre.length, [c]) = (st, none, acc) := by
       unfold aN; rw [if_neg (by intro e; injection e with e; exact hc.1 e)]
     rw [e, List.length_append]; rfl
   rw [h3]; rw [List.filter_cons, if_pos (show Ck.open _ = true from rfl), bj]; simp [Ck.chars]
 | .es c :: r, pre, st, acc, done, hok, hz, hst, hd => by
   have := cS z r (pre ++ [92, c]) st acc (done ++ [92, c]) (fun x hx => hok x (.tail _ hx)) (by rw [hz, bj]; simp [Ck.chars]) (by simp; exact a496 hst) (by rw [gH hst, ← hd]; simp); refine x23 this fun st' acc' h1 h2 h3 => ?_; refine ⟨st', acc', ?_, h2, ?_⟩
   · rw [← h1]; show (cr (pre.length + 2) r).foldl (aN z) (aN z (st, none, acc) (pre.length + 1, [92, c])) = _
     have e : aN z (st, none, acc) (pre.length + 1, [92, c]) = (st, none, acc) := by
       unfold aN; rw [if_neg (by intro e; injection e with e; exact absurd e (by decide))]
     rw [e, List.length_append]; rfl
   rw [h3]; rw [List.filter_cons, if_pos (show Ck.open _ = true from rfl), bj]; simp [Ck.chars]
 | .qu c :: r, pre, st, acc, done, hok, hz, hst, hd => by
   have hc := hok _ (.head _); have hpl : pre.length ≤ z.cps.toList.length := by rw [hz]; simp
   have hsl : (Txt.slice z (some (st : Int)) (some (pre.length : Int))).cps.toList = pre.drop st := by
     rw [gW hst hpl, hz, gH hst, List.take_append_of_le_length (by simp), List.take_of_length_le (by simp)]
   have := cS z r (pre ++ [34, c, 34]) (pre.length + 3) (if st ≠ pre.length then acc ++ [Txt.slice z (some (st : Int)) (some (pre.length : Int))] else acc) done (fun x hx => hok x (.tail _ hx)) (by rw [hz, bj]; simp [Ck.chars]) (by simp) (by
     rw [show (pre ++ [34, c, 34]).drop (pre.length + 3) = [] from by rw [List.drop_eq_nil_iff]; simp, List.append_nil, ← hd]
     split
     · rw [fn]; congr 1
       show [_].flatten = _
       simp [hsl]
     rename_i h
     have : st = pre.length := a495 h
     rw [this]; simp)
   refine x23 this fun st' acc' h1 h2 h3 => ?_; refine ⟨st', acc', ?_, h2, ?_⟩
   · rw [← h1]; show (cr (pre.length + 3) r).foldl (aN z) (aN z (aN z (aN z (st, none, acc) (pre.length, [34])) (pre.length + 1, [c])) (pre.length + 2, [34])) = _
     have e1 : aN z (st, none, acc) (pre.length, [34]) = (st, some pre.length, acc) := rfl; have e2 : aN z (st, some pre.length, acc) (pre.length + 1, [c]) = (st, some pre.length, acc) := by
       unfold aN; rw [if_neg (by intro e; injection e with e; exact hc.1 e)]
     rw [e1, e2, List.length_append]; rfl
   rw [h3]; rw [List.filter_cons, if_neg (by exact Bool.false_ne_true)]
end
section
theorem c0 {c : Nat} : ∀ (l : List Nat) (k : Nat), aE c l k = [] ↔ c ∉ l
 | [], k => by simp [aE]
 | a :: r, k => by
   rw [cN]; by_cases h : a = c
   · rw [if_pos h]; simp [h]
   rw [if_neg h, c0 r (k + 1)]; simp only [List.mem_cons, not_or]; exact ⟨fun x => ⟨fun e => h e.symm, x⟩, fun x => x.2⟩
theorem hasQ_is (z : Str) : hasQ z = true ↔ 34 ∈ z.cps.toList := by
 unfold hasQ; have hq : aa "\"" = ⟨#[34]⟩ := by decide +kernel
 rw [hq, gm]; rw [Bool.not_eq_true', ← Bool.not_eq_true, List.isEmpty_iff, List.take_eq_nil_iff]; simp only [Nat.one_ne_zero, false_or]; rw [c0]; exact Decidable.not_not
theorem jf : ∀ (l : List Ck), 34 ∉ cks l → l.filter Ck.open = l
 | [], _ => rfl
 | x :: r, h => by
   rw [bj, List.mem_append, not_or] at h; have ih := jf r h.2; cases x with
   | qu c => exact absurd (List.mem_cons_self) h.1
   | pl c => rw [List.filter_cons, if_pos (show Ck.open _ = true from rfl), ih]
   | es c => rw [List.filter_cons, if_pos (show Ck.open _ = true from rfl), ih]
theorem eF {z : Str} {l : List Ck} (hok : ∀ x ∈ l, x.ok) (hz : z.cps.toList = cks l) : (bN z).cps.toList = cks (l.filter Ck.open) := by
 unfold bN; by_cases h : hasQ z = true
 · rw [if_pos h]; unfold dm bq; rw [hz, dI l 0 0 hok]; refine x23 (cS z l [] 0 [] [] hok (by rw [hz]; rfl) (Nat.le_refl _) rfl) fun st acc h1 h2 h3 => ?_; have h1 : (cr 0 l).foldl (aN z) (0, none, []) = (st, none, acc) := h1; rw [h1, gy]; rw [List.nil_append] at h3; rw [← h3]; split
   · rw [show ((acc ++ [Txt.slice z (some (st : Int)) none]).map fun y => y.cps.toList).flatten = de (acc ++ [Txt.slice z (some (st : Int)) none]) from rfl, fn]
     congr 1
     show [_].flatten = _
     simp [fE h2]
   rename_i hn
   have : st = z.cps.toList.length := by
     have := bL z; have hn : ¬ st < z.length := hn; exact a497 h2 (by assumption) this
   rw [this, List.drop_length, List.append_nil]; rfl
 rw [if_neg h, hz, jf l (fun e => h ((hasQ_is z).mpr (by rw [hz]; exact e)))]
end
section
noncomputable def cq (st : Option Int) : Ck → Option Int
 | .pl c => match st with
   | none => none
   | some n => if c = 40 then some (n + 1) else if c = 41 then (if n - 1 < 0 then none else some (n - 1)) else some n
 | _ => st
noncomputable def chkC (l : List Ck) : Bool := match l.foldl cq (some 0) with | none => false | some n => n == 0
theorem dc : ∀ (l : List Ck) (p : Nat) (st : Option Int), (∀ x ∈ l, x.open = true) → (cr p l).foldl cE st = l.foldl cq st
 | [], p, st, h => rfl
 | .qu c :: r, p, st, h => absurd (h _ (.head _)) Bool.false_ne_true
 | .es c :: r, p, st, h => by
   have ih := fun st => dc r (p + 2) st fun x hx => h x (.tail _ hx); show (cr (p + 2) r).foldl cE (cE st (p + 1, [92, c])) = r.foldl cq st
   rw [← ih]; congr 1
   cases st with
   | none => rfl
   | some n =>
     unfold cE; simp
 | .pl c :: r, p, st, h => by
   have ih := fun st => dc r (p + 1) st fun x hx => h x (.tail _ hx); show (cr (p + 1) r).foldl cE (cE st (p, [c])) = r.foldl cq (cq st (.pl c))
   rw [← ih]; congr 1
   cases st with
   | none => rfl
   | some n =>
     unfold cE cq; simp
theorem chk_cks {z : Str} {l : List Ck} (hok : ∀ x ∈ l, x.ok) (hz : z.cps.toList = cks l) : chk z = chkC (l.filter Ck.open) := by
 unfold chk chkC bq; rw [eF hok hz, dI _ 0 0 (fun x hx => hok x (List.mem_filter.mp hx).1), dc _ _ _ fun x hx => (List.mem_filter.mp hx).2]; all_goals (cases (l.filter Ck.open).foldl cq (some 0) <;> rfl)
end
section
noncomputable def d6 (k : Nat) : List Ck := [[], [.es 41], [.es 92, .qu 40], [.es 34], [.qu 41], [.qu 40]].getD k []
noncomputable def gi (j : Nat) : Nat := [97, 65, 98, 66, 99, 67].getD j 0
theorem dress_cks : ∀ k, k < 6 → (dressL.getD k ak).cps.toList = cks (d6 k) := by decide +kernel
theorem pool_cks : ∀ j, j < 6 → (bk j).cps.toList = [gi j] := by decide +kernel
noncomputable def dB (o d i : Nat) : List Ck := d6 ((dsOf d).getD i 0) ++ [.pl (gi ((aI o).getD i 6))]
noncomputable def ckT (o d : Nat) : Tk → List Ck
 | .ch c => [.pl c]
 | .lf i => dB o d i
theorem b9 {o : Nat} (ho : o < 720) : (aI o).length = 6 := (perm_ok ⟨o, ho⟩).1
theorem bw {o : Nat} (ho : o < 720) {i : Nat} (hi : i < 6) : (aI o).getD i 6 < 6 := by
 have h := (perm_ok ⟨o, ho⟩).2.1; have hl : i < (aI o).length := by rw [b9 ho]; exact hi
 rw [ab, ac hl]; exact Nat.blt_eq.mp (List.all_eq_true.mp h _ (List.getElem_mem hl))
theorem j5 (d : Nat) {i : Nat} (hi : i < 6) : (dsOf d).getD i 0 < 6 := by
 have h := fun a => Nat.mod_lt a (show 6 > 0 by decide)
 revert hi; generalize i = j; revert j
 exact lt6 (h _) (h _) (h _) (h _) (h _) (h _)
theorem ls_get {o d i : Nat} (ho : o < 720) (hi : i < 6) : (dh o d)[i]? = some (dressL.getD ((dsOf d).getD i 0) ak ++ bk ((aI o).getD i 6)) := by
 have hl : i < (aI o).length := by rw [b9 ho]; exact hi
 have hd : i < (dsOf d).length := hi; rw [ls_is, jl, List.getElem?_zipWith, List.getElem?_map, ac hl, ac hd]; simp only [Option.map_some, ab, ac hl, ac hd, Option.getD_some]
theorem leaf_cks {o d i : Nat} (ho : o < 720) (hi : i < 6) : ((dh o d).getD i ak).cps.toList = cks (dB o d i) := by
 rw [ab, ls_get ho hi, Option.getD_some, cj, dress_cks _ (j5 d hi), pool_cks _ (bw ho hi)]; unfold dB; rw [d7]; rfl
theorem jm {o d : Nat} (ho : o < 720) : (dh o d).length = 6 := by
 rw [ls_is, jl, List.length_zipWith, am, b9 ho]; rfl
end
section
noncomputable def Tr.lastLeaf : Tr → Nat
 | .leaf i => i
 | .node _ _ r _ => r.lastLeaf
noncomputable def sgC (b : Bool) : Nat := if b then 43 else 42
noncomputable def sgS (b : Bool) : Str := ⟨#[sgC b]⟩
noncomputable def Tr.setSg (k : Nat) : Tr → Tr
 | .leaf i => .leaf i
 | .node _ l r mid => .node (sgS (k.testBit mid)) (l.setSg k) (r.setSg k) mid
noncomputable def nodeR (l r : Tr) : Tr := .node (sgS false) l r l.lastLeaf
noncomputable def bd (st : Nat × List Tr) (size : Nat) : Nat × List Tr :=
 (st.1 / size, st.2.take (st.1 % size) ++ [nodeR (st.2.getD (st.1 % size) (.leaf 6)) (st.2.getD (st.1 % size + 1) (.leaf 6))] ++ st.2.drop (st.1 % size + 2))
noncomputable def d4 : List Tr := [.leaf 0, .leaf 1, .leaf 2, .leaf 3, .leaf 4, .leaf 5]
noncomputable def ba (g : Nat) : Tr := ([5, 4, 3, 2, 1].foldl bd (g, d4)).2.getD 0 (.leaf 6)
noncomputable def aQ (g k : Nat) : Tr := (ba g).setSg k
noncomputable def Tr.toks : Tr → List Tk
 | .leaf i => [.lf i]
 | .node sg l r _ => .ch 40 :: (l.toks ++ .ch (sg.cps.getD 0 0) :: (r.toks ++ [.ch 41]))
noncomputable def Tr.toksQ : Tr → List Tk
 | .leaf i => [.lf i]
 | .node _ l r _ => .ch 40 :: (l.toksQ ++ .ch 63 :: (r.toksQ ++ [.ch 41]))
noncomputable def Tr.io : Tr → Nat → Nat → Prop
 | .leaf i, a, b => i = a ∧ i = b
 | .node _ l r mid, a, b => l.io a mid ∧ r.io (mid + 1) b
noncomputable def Tr.ioB : Tr → Nat → Nat → Bool
 | .leaf i, a, b => Nat.beq i a && Nat.beq i b
 | .node _ l r mid, a, b => l.ioB a mid && r.ioB (mid + 1) b
theorem iN : ∀ {t : Tr} {a b : Nat}, t.ioB a b = true → t.io a b
 | .leaf i, a, b, h => by
   obtain ⟨h1, h2⟩ := Bool.and_eq_true_iff.mp h; exact ⟨Nat.eq_of_beq_eq_true h1, Nat.eq_of_beq_eq_true h2⟩
 | .node _ l r mid, a, b, h => by
   obtain ⟨h1, h2⟩ := Bool.and_eq_true_iff.mp h; exact ⟨iN h1, iN h2⟩
theorem cM : (af 120).all (fun g => (ba g).ioB 0 5) = true := by decide +kernel
theorem ap {n : Nat} {p : Nat → Bool} (h : (af n).all p = true) {i : Nat} (hi : i < n) : p i = true := List.all_eq_true.mp h i (List.mem_range.mpr hi)
theorem dF : ∀ {t : Tr} {a b : Nat}, t.io a b → a ≤ b
 | .leaf _, _, _, ⟨h1, h2⟩ => by exact a394 h1 h2
 | .node _ l r mid, _, _, ⟨h1, h2⟩ => by have := dF h1; have := dF h2; exact a393 (by assumption) this
theorem gA : ∀ {t : Tr} {a b : Nat}, t.io a b → t.nodes + a = b
 | .leaf _, _, _, ⟨h1, h2⟩ => by show 0 + _ = _; exact a392 h1 h2
 | .node _ l r mid, _, _, ⟨h1, h2⟩ => by
   have := gA h1; have := gA h2; show l.nodes + r.nodes + 1 + _ = _; exact a391 (by assumption) this
theorem eX : ∀ t : Tr, t.dep ≤ t.nodes
 | .leaf _ => Nat.le_refl _
 | .node _ l r _ => by
   have := eX l; have := eX r; show max l.dep r.dep + 1 ≤ l.nodes + r.nodes + 1; exact a390 (by assumption) this
theorem cT : ∀ t : Tr, t.size = 2 * t.nodes + 1
 | .leaf _ => rfl
 | .node _ l r _ => by
   have := cT l; have := cT r; show l.size + r.size + 1 = 2 * (l.nodes + r.nodes + 1) + 1; exact a389 (by assumption) this
theorem iO (k : Nat) {n : Nat} : ∀ {t : Tr} {a b : Nat}, t.io a b → b < n → (t.setSg k).fits n
 | .leaf i, _, _, ⟨h1, h2⟩, hb => by show i < n; exact a388 h2 hb
 | .node _ l r mid, a, b, ⟨h1, h2⟩, hb => by
   have := dF h2; refine ⟨?_, iO k h1 (a387 hb this), iO k h2 hb, by exact a387 hb this⟩; unfold sgS; rfl
noncomputable def ir : List Nat → List Tk → List Tk
 | _, [] => []
 | [], t :: r => if t = .ch 63 then [] else t :: ir [] r
 | s :: ss, t :: r => if t = .ch 63 then .ch s :: ir ss r else t :: ir (s :: ss) r
theorem splT_ne (acc l : List Tk) : iq acc l ≠ [] := by
 cases l with
 | nil => simp [iq]
 | cons t r =>
   unfold iq; split
   · simp
   exact splT_ne _ r
theorem iA : ∀ (l acc : List Tk) (ss : List Nat), ((iq acc l).getD 0 []) ++ (List.zipWith (fun c p => .ch c :: p) ss ((iq acc l).drop 1)).flatten = acc ++ ir ss l
 | [], acc, ss => by
   cases ss <;> simp [iq, ir]
 | t :: r, acc, ss => by
   unfold iq; by_cases h : t = .ch 63
   · rw [if_pos h]; cases ss with
     | nil => simp [ir, h]
     | cons s ss =>
       have ih := iA r [] ss; refine x21 (List.exists_cons_of_ne_nil (splT_ne [] r)) fun x ys e => ?_; rw [e] at ih ⊢; simp only [List.getD_cons_zero, List.drop_succ_cons, List.drop_zero, List.nil_append] at ih; simp only [List.getD_cons_zero, List.drop_succ_cons, List.drop_zero, List.zipWith_cons_cons, List.flatten_cons, List.cons_append]; rw [ih]; simp [ir, h]
   rw [if_neg h, iA r (acc ++ [t]) ss]; cases ss <;> simp [ir, h]
theorem iC {t : Tk} (h : t ≠ .ch 63) (ss : List Nat) (r : List Tk) : ir ss (t :: r) = t :: ir ss r := by
 cases ss <;> simp [ir, h]
theorem sgn_drop {k i : Nat} (hi : i < 5) : (sgn k).drop i = sgC (k.testBit i) :: (sgn k).drop (i + 1) := by
 revert hi; generalize i = j; revert j
 exact lt5 rfl rfl rfl rfl rfl
theorem gh (k : Nat) : ∀ {t : Tr} {a b : Nat} (rest : List Tk), t.io a b → b ≤ 5 → ir ((sgn k).drop a) (t.toksQ ++ rest) = (t.setSg k).toks ++ ir ((sgn k).drop b) rest
 | .leaf i, a, b, rest, ⟨h1, h2⟩, hb => by
   have : a = b := a386 h1 h2
   subst this; exact iC (by intro e; cases e) _ _
 | .node _ l r mid, a, b, rest, ⟨h1, h2⟩, hb => by
   have := dF h2; show ir _ (.ch 40 :: ((l.toksQ ++ .ch 63 :: (r.toksQ ++ [.ch 41])) ++ rest)) = (.ch 40 :: ((l.setSg k).toks ++ .ch (sgC (k.testBit mid)) :: ((r.setSg k).toks ++ [.ch 41]))) ++ _
   rw [iC (by decide), List.append_assoc, gh k _ h1 (gQ hb this), sgn_drop (show mid < 5 by exact a384 hb this)]
   rw [List.cons_append, ir, if_pos rfl, List.append_assoc, gh k _ h2 hb]; rw [List.cons_append, iC (by decide)]; simp
theorem glueT_is (l r : Tr) : glueT l.toksQ r.toksQ = (nodeR l r).toksQ := by
 show [Tk.ch 40] ++ l.toksQ ++ [.ch 63] ++ r.toksQ ++ [.ch 41] = .ch 40 :: (l.toksQ ++ .ch 63 :: (r.toksQ ++ [.ch 41]))
 simp
theorem bW (st : Nat × List (List Tk)) (tt : Nat × List Tr) (size : Nat) (h1 : st.1 = tt.1) (h2 : st.2 = tt.2.map Tr.toksQ) (h3 : tt.1 % size + 1 < tt.2.length) :
   (bD st size).1 = (bd tt size).1 ∧ (bD st size).2 = (bd tt size).2.map Tr.toksQ := by
 unfold bD bd; refine ⟨by rw [h1], ?_⟩; have hh : ∀ i, i < tt.2.length → (tt.2.map Tr.toksQ).getD i [] = (tt.2.getD i (.leaf 6)).toksQ := fun i hi => by
   rw [ab, ab, List.getElem?_map, ac hi]; rfl
 simp only [List.map_append, List.map_take, List.map_drop, ai, List.map_nil, h1, h2]; rw [hh _ (a148 h3), hh _ h3, glueT_is]
theorem bg {st : Nat × List Tr} {size : Nat} (h : st.2.length = size + 1) (h0 : 0 < size) : (bd st size).2.length = size := by
 have := Nat.mod_lt st.1 h0; unfold bd; simp [h]; exact a383 this
theorem jT (g : Nat) : (dy g leavesT).2 = ([5, 4, 3, 2, 1].foldl bd (g, d4)).2.map Tr.toksQ ∧ ([5, 4, 3, 2, 1].foldl bd (g, d4)).2.length = 1 := by
 have lt : ∀ (st : Nat × List Tr) (size : Nat), st.2.length = size + 1 → 0 < size → st.1 % size + 1 < st.2.length := fun st size h h0 => by
   have := Nat.mod_lt st.1 h0; exact a382 h this
 have l6 : ((g, d4) : Nat × List Tr).2.length = 5 + 1 := rfl; have s5 := bW (g, leavesT) (g, d4) 5 rfl rfl (lt _ 5 l6 (by decide)); have l5 := bg l6 (by decide); have s4 := bW _ _ 4 s5.1 s5.2 (lt _ 4 l5 (by decide)); have l4 := bg l5 (by decide); have s3 := bW _ _ 3 s4.1 s4.2 (lt _ 3 l4 (by decide)); have l3 := bg l4 (by decide); have s2 := bW _ _ 2 s3.1 s3.2 (lt _ 2 l3 (by decide)); have l2 := bg l3 (by decide); have s1 := bW _ _ 1 s2.1 s2.2 (lt _ 1 l2 (by decide)); exact ⟨s1.2, bg l2 (by decide)⟩
theorem iw {g : Nat} (hg : g < 120) (k : Nat) : i6 g k = (aQ g k).toks := by
 unfold i6 cR; rw [iA, List.nil_append]; obtain ⟨h1, h2⟩ := jT g; have e : (dy g leavesT).2.getD 0 [] = (ba g).toksQ := by
   rw [h1]; unfold ba; match ([5, 4, 3, 2, 1].foldl bd (g, d4)).2, h2 with
   | [x], _ => rfl
 rw [e]; have := gh k (t := ba g) [] (iN (ap cM hg)) (Nat.le_refl _); rw [List.drop_zero, List.append_nil] at this; rw [this]; have e2 : ir ((sgn k).drop 5) [] = [] := by cases (sgn k).drop 5 <;> rfl
 rw [e2, List.append_nil]; rfl
end
section
noncomputable def Ck.fine : Ck → Bool
 | .pl c => c != 34 && c != 92
 | .es c => c != 42 && c != 43
 | .qu c => c != 42 && c != 43 && c != 34 && c != 92
noncomputable def Ck.still : Ck → Bool
 | .pl c => c != 40 && c != 41 && c != 42 && c != 43
 | _ => true
theorem iQ {x : Ck} (h : x.fine = true) : x.ok := by
 cases x with
 | pl c => simpa [Ck.fine, Ck.ok] using h
 | es c => trivial
 | qu c =>
   simp [Ck.fine] at h
   exact ⟨h.1.2, h.2⟩
theorem jM {x : Ck} (h : x.still = true) (st : Option Int) : cq st x = st := by
 cases x with
 | pl c =>
   simp [Ck.still] at h
   cases st with
   | none => rfl
   | some n => simp [cq, h.1.1.1, h.1.1.2]
 | es c => rfl
 | qu c => rfl
theorem fv : ∀ {l : List Ck}, (∀ x ∈ l, x.still = true) → ∀ st, l.foldl cq st = st
 | [], _, st => rfl
 | x :: r, h, st => by
   rw [List.foldl_cons, jM (h _ (.head _))]; exact fv (fun y hy => h y (.tail _ hy)) st
theorem du : ∀ (l : List Ck) (st : Option Int), (l.filter Ck.open).foldl cq st = l.foldl cq st
 | [], st => rfl
 | .pl c :: r, st => by rw [List.filter_cons, if_pos (show Ck.open _ = true from rfl), List.foldl_cons, List.foldl_cons, du r]
 | .es c :: r, st => by rw [List.filter_cons, if_pos (show Ck.open _ = true from rfl), List.foldl_cons, List.foldl_cons, du r]
 | .qu c :: r, st => by rw [List.filter_cons, if_neg (by exact Bool.false_ne_true), List.foldl_cons, du r]; rfl
theorem gL {z : Str} {l : List Ck} (hok : ∀ x ∈ l, x.fine = true) (hz : z.cps.toList = cks l) : chk z = match l.foldl cq (some 0) with | none => false | some n => n == 0 := by
 rw [chk_cks (fun x hx => iQ (hok x hx)) hz]; unfold chkC; rw [du]; all_goals (cases l.foldl cq (some 0) <;> rfl)
noncomputable def Deep (st : Option Int) (l : List Ck) : Prop := ∀ pre c post, l = pre ++ .pl c :: post → (c = 42 ∨ c = 43) → ∃ n : Int, 1 ≤ n ∧ pre.foldl cq st = some n
theorem ez {st : Option Int} : ∀ {a b : List Ck}, Deep st a → Deep (a.foldl cq st) b → Deep st (a ++ b) := by
 intro a b ha hb pre c post e hc; rcases List.append_eq_append_iff.mp e with ⟨w, h1, h2⟩ | ⟨w, h1, h2⟩
 · refine x12 (hb w c post h2 hc) fun n hn hf => ?_; refine ⟨n, hn, ?_⟩; rw [h1, List.foldl_append]; exact hf
 cases w with
 | nil =>
   rw [List.append_nil] at h1; refine x12 (hb [] c post h2.symm hc) fun n hn hf => ?_; exact ⟨n, hn, by rw [← h1]; exact hf⟩
 | cons y w =>
   rw [List.cons_append] at h2; injection h2 with h2 h3
   subst h2; exact ha pre c w h1 hc
theorem jA {st : Option Int} {x : Ck} (h : ∀ c, x = .pl c → ¬ (c = 42 ∨ c = 43)) : Deep st [x] := by
 intro pre c post e hc; cases pre with
 | nil => injection e with e _; exact absurd hc (h c e)
 | cons y pre => injection e with _ e; simp at e
theorem deep_sign {n : Int} (hn : 1 ≤ n) (c : Nat) : Deep (some n) [.pl c] := by
 intro pre c' post e hc; cases pre with
 | nil => exact ⟨n, hn, rfl⟩
 | cons y pre => injection e with _ e; simp at e
theorem j7 : ∀ {l : List Ck} (st : Option Int), (∀ x ∈ l, x.still = true) → Deep st l := by
 intro l st h pre c post e hc; have := h (.pl c) (by rw [e]; simp); simp [Ck.still] at this
 rcases hc with rfl | rfl
 · exact absurd rfl this.1.2
 exact absurd rfl this.2
noncomputable def Tr.ck (o d : Nat) : Tr → List Ck
 | .leaf i => dB o d i
 | .node sg l r _ => [.pl 40] ++ (l.ck o d ++ ([.pl (sg.cps.getD 0 0)] ++ (r.ck o d ++ [.pl 41])))
theorem j6 : ∀ k, k < 6 → (d6 k).all (fun x => x.fine && x.still) = true := by decide +kernel
theorem pool_fine : ∀ j, j < 6 → ((Ck.pl (gi j)).fine && (Ck.pl (gi j)).still) = true := by decide +kernel
theorem dA {o d i : Nat} (ho : o < 720) (hi : i < 6) : ∀ x ∈ dB o d i, x.fine = true ∧ x.still = true := by
 intro x hx; rcases mAp hx with h | h
 · exact Bool.and_eq_true_iff.mp (List.all_eq_true.mp (j6 _ (j5 d hi)) x h)
 rw [mSg h]; exact Bool.and_eq_true_iff.mp (pool_fine _ (bw ho hi))
theorem sgC_is (b : Bool) : sgC b = 42 ∨ sgC b = 43 := by cases b <;> simp [sgC]
theorem dd (o d k : Nat) (sg : Str) (l r : Tr) (mid : Nat) : (Tr.setSg k (.node sg l r mid)).ck o d = [.pl 40] ++ ((l.setSg k).ck o d ++ ([.pl (sgC (k.testBit mid))] ++ ((r.setSg k).ck o d ++ [.pl 41]))) := rfl
theorem cK {o d : Nat} (ho : o < 720) (k : Nat) : ∀ {t : Tr} {a b : Nat}, t.io a b → b ≤ 5 → ∀ x ∈ (t.setSg k).ck o d, x.fine = true
 | .leaf i, a, b, ⟨h1, h2⟩, hb, x, hx => (dA ho (a404 h2 hb) x hx).1
 | .node sg l r mid, a, b, ⟨h1, h2⟩, hb, x, hx => by
   have := dF h2; rw [dd] at hx; simp only [List.mem_append, List.mem_singleton] at hx; rcases hx with h | h | h | h | h
   · rw [h]; rfl
   · exact cK ho k h1 (gQ hb this) x h
   · rw [h]; rcases sgC_is (k.testBit mid) with e | e <;> rw [e] <;> rfl
   · exact cK ho k h2 hb x h
   rw [h]; rfl
theorem gV (n : Int) : cq (some n) (.pl 40) = some (n + 1) := rfl
theorem jN {n : Int} (h : 0 ≤ n) : cq (some (n + 1)) (.pl 41) = some n := by
 have h1 : ¬ n + 1 - 1 < 0 := a406 h
 simp only [cq]; rw [if_neg (by decide), if_pos trivial, if_neg h1, show n + 1 - 1 = n from by exact a405]
theorem gU (n : Int) (b : Bool) : cq (some n) (.pl (sgC b)) = some n := by cases b <;> rfl
theorem cJ {o d : Nat} (ho : o < 720) (k : Nat) : ∀ {t : Tr} {a b : Nat}, t.io a b → b ≤ 5 → ∀ {n : Int}, 0 ≤ n → ((t.setSg k).ck o d).foldl cq (some n) = some n
 | .leaf i, a, b, ⟨h1, h2⟩, hb, n, hn => fv (fun x hx => (dA ho (a404 h2 hb) x hx).2) _
 | .node sg l r mid, a, b, ⟨h1, h2⟩, hb, n, hn => by
   have := dF h2; rw [dd]; simp only [List.foldl_append, List.foldl_cons, List.foldl_nil]; rw [gV, cJ ho k h1 (gQ hb this) (a401 hn), gU, cJ ho k h2 hb (a401 hn), jN hn]
theorem eB {o d : Nat} (ho : o < 720) (k : Nat) : ∀ {t : Tr} {a b : Nat}, t.io a b → b ≤ 5 → ∀ {n : Int}, 0 ≤ n → Deep (some n) ((t.setSg k).ck o d)
 | .leaf i, a, b, ⟨h1, h2⟩, hb, n, hn => j7 _ (fun x hx => (dA ho (a404 h2 hb) x hx).2)
 | .node sg l r mid, a, b, ⟨h1, h2⟩, hb, n, hn => by
   have := dF h2; rw [dd]; refine ez (jA (by intro c e; injection e with e; exact a403 e)) ?_
   rw [List.foldl_cons, List.foldl_nil, gV]; refine ez (eB ho k h1 (gQ hb this) (a401 hn)) ?_; rw [cJ ho k h1 (gQ hb this) (a401 hn)]; refine ez (deep_sign (a402 hn) _) ?_; rw [List.foldl_cons, List.foldl_nil, gU]; refine ez (eB ho k h2 hb (a401 hn)) ?_; exact jA (by intro c e; injection e with e; exact a400 e)
theorem sign_at : ∀ {l : List Ck} {q c : Nat}, (∀ x ∈ l, x.fine = true) → (cks l)[q]? = some c → (c = 42 ∨ c = 43) → ∃ pre post, l = pre ++ .pl c :: post ∧ cks pre = (cks l).take q
 | [], q, c, hf, hq, hc => by simp [cks] at hq
 | x :: r, q, c, hf, hq, hc => by
   rw [bj] at hq; by_cases hl : q < x.chars.length
   · rw [List.getElem?_append_left hl] at hq; have hx := hf _ (.head _); cases x with
     | pl c' =>
       have : q = 0 := by simp [Ck.chars] at hl; exact hl
       subst this; simp [Ck.chars] at hq
       subst hq; exact ⟨[], r, rfl, rfl⟩
     | es c' =>
       exfalso
       have : c ∈ Ck.chars (.es c') := List.mem_of_getElem? hq; simp [Ck.chars] at this
       simp [Ck.fine] at hx
       exact a399 hc this hx
     | qu c' =>
       exfalso
       have : c ∈ Ck.chars (.qu c') := List.mem_of_getElem? hq; simp [Ck.chars] at this
       simp [Ck.fine] at hx
       exact a398 hc this hx
   rw [List.getElem?_append_right (a349 hl)] at hq; refine x22 (sign_at (fun y hy => hf y (.tail _ hy)) hq hc) fun pre post h1 h2 => ?_; refine ⟨x :: pre, post, by rw [h1]; rfl, ?_⟩; rw [bj, bj, h2, List.take_append, List.take_of_length_le (l := x.chars) (a349 hl)]
theorem fO {x : Str} {c : Nat} {r : List Nat} (h : x.cps.toList = c :: r) : Txt.item x 0 = ⟨#[c]⟩ := by
 have e : x = ⟨(c :: r).toArray⟩ ++ ⟨#[]⟩ := eG (by rw [cj, h]; simp); rw [e]; exact PyProof.Rows.item_zero_left c r _
theorem item_last {x : Str} {c : Nat} {r : List Nat} (h : x.cps.toList = r ++ [c]) : Txt.item x (-1) = ⟨#[c]⟩ := by
 have e : x = ⟨r.toArray⟩ ++ ⟨([] ++ [c]).toArray⟩ := eG (by rw [cj, h]; show _ = r.toArray.toList ++ ([] ++ [c]).toArray.toList; simp)
 rw [e]; exact PyProof.Rows.item_last_right _ [] c
theorem inside_is {x : Str} {c e : Nat} {m : List Nat} (h : x.cps.toList = c :: (m ++ [e])) : (inside x).cps.toList = m := by
 have hl : x.length = m.length + 2 := by rw [bL, h]; simp
 unfold inside; have e1 : Txt.slice x (some 1) (some (-1)) = Txt.slice x (some 1) (some (-1 + x.length)) := StrLaws.sliceText_neg_hi x (some 1) (by decide) (a397 hl); rw [e1, show (-1 + (x.length : Int)) = ((m.length + 1 : Nat) : Int) from by exact a396 hl]
 have := gW (x := x) (i := 1) (j := m.length + 1) (a395) (by rw [h]; simp); have hc : ((1 : Nat) : Int) = 1 := rfl; rw [hc] at this; rw [this, h]; simp
theorem isOp_is (c : Nat) : isOp ⟨#[c]⟩ = true ↔ (c = 42 ∨ c = 43) := by
 have hq : (aa "*+").cps.toList = [42, 43] := by decide +kernel
 unfold isOp; rw [gm, Bool.not_eq_true', ← Bool.not_eq_true, List.isEmpty_iff, List.take_eq_nil_iff]; simp only [Nat.one_ne_zero, false_or]; rw [c0, hq]; simp only [List.mem_cons, List.not_mem_nil, or_false]; exact Decidable.not_not
theorem sgAt_is {x : Str} {q c : Nat} (h : x.cps.toList[q]? = some c) : sgAt x q = ⟨#[c]⟩ := by
 unfold sgAt; have : x.cps.getD q 0 = c := by
   rw [Array.getElem?_toList] at h; rw [Array.getD_eq_getD_getElem?, h]; rfl
 rw [this]
end
section
theorem iV (c : Nat) : cks [.pl c] = [c] := rfl
theorem ix {o d : Nat} (ho : o < 720) (k : Nat) : ∀ {t : Tr} {a b : Nat}, t.io a b → b ≤ 5 → ex (dh o d) (t.setSg k).toks = cks ((t.setSg k).ck o d)
 | .leaf i, a, b, ⟨h1, h2⟩, hb => by
   show ex1 (dh o d) (.lf i) ++ [] = cks (dB o d i)
   rw [List.append_nil]; exact leaf_cks ho (a404 h2 hb)
 | .node sg l r mid, a, b, ⟨h1, h2⟩, hb => by
   have := dF h2; rw [dd]; show ex (dh o d) ([.ch 40] ++ ((l.setSg k).toks ++ ([.ch (sgC (k.testBit mid))] ++ ((r.setSg k).toks ++ [.ch 41])))) = _
   simp only [fT, d7, ix ho k h1 (show mid ≤ 5 by exact gQ hb this), ix ho k h2 hb]
   rfl
noncomputable def Tr.rdT (o : Nat) : Tr → List Str
 | .leaf i => [bk ((aI o).getD i 6)]
 | .node _ l r _ => l.rdT o ++ r.rdT o
theorem iD (o : Nat) : ∀ {t : Tr} {a b : Nat}, t.io a b → (t.rdT o).length + a = b + 1
 | .leaf i, a, b, ⟨h1, h2⟩ => by show 1 + a = b + 1; exact a422 h1 h2
 | .node sg l r mid, a, b, ⟨h1, h2⟩ => by
   have := iD o h1; have := iD o h2; show (l.rdT o ++ r.rdT o).length + a = b + 1
   rw [List.length_append]; exact a421 (by assumption) this
theorem rdT_is (o : Nat) : ∀ {t : Tr} {a b : Nat}, t.io a b → t.rdT o = (List.range' a (b + 1 - a)).map fun i => bk ((aI o).getD i 6)
 | .leaf i, a, b, ⟨h1, h2⟩ => by
   have : b + 1 - a = 1 := a420 h1 h2
   rw [this, ← h1]; rfl
 | .node sg l r mid, a, b, ⟨h1, h2⟩ => by
   have := dF h1; have := dF h2; show l.rdT o ++ r.rdT o = _
   rw [rdT_is o h1, rdT_is o h2, ← List.map_append]; congr 1
   have e : b + 1 - a = (mid + 1 - a) + (b + 1 - (mid + 1)) := by exact a419 (by assumption) this
   rw [e, ← List.range'_append_1]; congr 2
   exact a418 (by assumption)
theorem em : ∀ j, j < 6 → bk j = ⟨#[gi j]⟩ := by decide +kernel
theorem jW : ∀ k, k < 6 → ∀ j, j < 6 → (match cks (d6 k ++ [.pl (gi j)]) with | [] => false | c :: _ => c != 40) = true := by decide +kernel
theorem gl : aa "(" = ⟨#[40]⟩ := by decide +kernel
theorem not_paren {c : Nat} (h : c ≠ 40) : ((⟨#[c]⟩ : Str) == aa "(") = false := by
 rw [gl]; refine beq_eq_false_iff_ne.mpr fun e => h ?_; injection e with e
 have := congrArg Array.toList e; injection this
theorem dU {o d : Nat} (ho : o < 720) (k : Nat) : ∀ {t : Tr} {a b : Nat}, t.io a b → b ≤ 5 → ∀ {x : Str} {rd : List Str}, x.cps.toList = cks ((t.setSg k).ck o d) → rd.length = a → Parse x rd (t.setSg k) (rd ++ t.rdT o)
 | .leaf i, a, b, ⟨h1, h2⟩, hb, x, rd, hx, hr => by
   have hi : i < 6 := a404 h2 hb
   have hx : x.cps.toList = cks (dB o d i) := hx; have hf := jW _ (j5 d hi) _ (bw ho hi); have hok := fun y hy => iQ (dA (d := d) ho hi y hy).1; have hs := eF hok hx; unfold dB at hs hx; rw [List.filter_append, d7] at hs; have hs : (bN x).cps.toList = _ ++ [gi ((aI o).getD i 6)] := hs; rw [← hx] at hf; have e : Txt.item (bN x) (-1) = bk ((aI o).getD i 6) := by rw [item_last hs, em _ (bw ho hi)]
   have er : i = rd.length := a417 h1 hr
   show Parse x rd (.leaf i) (rd ++ [bk ((aI o).getD i 6)])
   rw [← e, er]; match hh : x.cps.toList, hf with
   | c :: m, hf =>
     refine .leaf (by rw [bL, hh]; simp) (by rw [bL, hs]; simp) ?_; rw [fO hh]; exact not_paren (bne_iff_ne.mp hf)
 | .node sg l r mid, a, b, ⟨h1, h2⟩, hb, x, rd, hx, hr => by
   have hm := dF h2; have hm1 := dF h1; rw [dd] at hx; generalize hL : (l.setSg k).ck o d = L at hx; generalize hRr : (r.setSg k).ck o d = R at hx; have hLf : ∀ y ∈ L, y.fine = true := by rw [← hL]; exact cK ho k h1 (gQ hb hm)
   have hx' : x.cps.toList = 40 :: ((cks L ++ (sgC (k.testBit mid) :: cks R)) ++ [41]) := by
     rw [hx]; simp only [d7, iV]; simp
   have hin := inside_is hx'; have hlen : (inside x).length = (cks L).length + ((cks R).length + 1) := by rw [bL, hin]; simp
   have hsg : (inside x).cps.toList[(cks L).length]? = some (sgC (k.testBit mid)) := by
     rw [hin, List.getElem?_append_right (Nat.le_refl _), Nat.sub_self]; rfl
   have hsgS : sgAt (inside x) (cks L).length = sgS (k.testBit mid) := sgAt_is hsg; have hpl : (Txt.slice (inside x) none (some ((cks L).length : Int))).cps.toList = cks L := by
     rw [i9 (by rw [← bL, hlen]; exact a327), hin, List.take_left]
   have hpr : (Txt.slice (inside x) (some (((cks L).length : Int) + 1)) none).cps.toList = cks R := by
     have := fE (x := inside x) (i := (cks L).length + 1) (by rw [← bL, hlen]; exact a416); rw [show (((cks L).length + 1 : Nat) : Int) = ((cks L).length : Int) + 1 from by exact a415] at this
     rw [this, hin, List.drop_append, List.drop_eq_nil_of_le (a414), show (cks L).length + 1 - (cks L).length = 1 from by exact a413]; rfl
   have hl := dU (d := d) ho k h1 (gQ hb hm) (rd := rd) (by rw [hpl, hL]) hr; have hrl : (rd ++ l.rdT o).length = mid + 1 := by
     have := iD o h1; rw [List.length_append]; exact a412 hr this
   have hr2 := dU (d := d) ho k h2 hb (rd := rd ++ l.rdT o) (by rw [hpr, hRr]) hrl; show Parse x rd (.node (sgS (k.testBit mid)) (l.setSg k) (r.setSg k) mid) (rd ++ (l.rdT o ++ r.rdT o))
   rw [← List.append_assoc, ← hsgS, show mid = (rd ++ l.rdT o).length - 1 from by exact a411 hrl]
   refine .node (cks L).length (by rw [bL, hx']; simp) ?_ (a410 hlen) ?_ ?_ ?_ hl hr2 (a258 hrl)
   · rw [fO hx', gl]; exact beq_self_eq_true _
   · intro q hq hop; have hq1 : q < (cks L).length := hq; have hc : (cks L)[q]? = some ((cks L)[q]) := ac hq1; have hc2 : (inside x).cps.toList[q]? = some ((cks L)[q]) := by rw [hin, List.getElem?_append_left hq1]; exact hc
     rw [sgAt_is hc2, isOp_is] at hop; refine x22 (sign_at hLf hc hop) fun pre post e1 e2 => ?_; refine x12 ((hL ▸ eB (d := d) ho k h1 (gQ hb hm) (Int.le_refl 0)) pre _ post e1 hop) fun n hn hfd => ?_; have hs : (Txt.slice (inside x) none (some (q : Int))).cps.toList = cks pre := by
       rw [i9 (by rw [← bL, hlen]; exact a409 hq), hin, e2, List.take_append_of_le_length (a408 hq)]
     rw [gL (fun y hy => hLf y (by rw [e1]; exact List.mem_append_left _ hy)) hs, hfd]; show (n == 0) = false
     exact beq_eq_false_iff_ne.mpr (a407 hn)
   · rw [hsgS, sgS, isOp_is]; exact sgC_is _
   rw [gL hLf hpl, ← hL, cJ ho k h1 (gQ hb hm) (Int.le_refl 0)]; rfl
end
section
noncomputable def fq (k j : Nat) : Str := dressL.getD k ak ++ bk j
theorem ls_at {o d i : Nat} (ho : o < 720) (hi : i < 6) : (dh o d)[i]? = some (fq ((dsOf d).getD i 0) ((aI o).getD i 6)) := ls_get ho hi
theorem ls_mem {o d : Nat} (ho : o < 720) {P : Str → Prop} (h : ∀ k, k < 6 → ∀ j, j < 6 → P (fq k j)) : ∀ y ∈ dh o d, P y := by
 intro y hy; obtain ⟨i, hi, rfl⟩ := List.mem_iff_getElem.mp hy; have hi' : i < 6 := by rw [jm ho] at hi; exact hi
 have := ls_at (d := d) ho hi'; rw [ac hi] at this; injection this with this
 rw [this]; exact h _ (j5 d hi') _ (bw ho hi')
noncomputable def cY (o : Nat) : List Str := (aI o).map bk
theorem eb {o : Nat} (ho : o < 720) : (cY o).length = 6 := by unfold cY; rw [am, b9 ho]
theorem list6 {l : List Nat} (h : l.length = 6) : (List.range' 0 6).map (fun i => l.getD i 6) = l :=
 len6 (P := fun l => (List.range' 0 6).map (fun i => l.getD i 6) = l) (fun kq kq kq kq kq kq => rfl) l h
theorem tree_rd {g o : Nat} (hg : g < 120) (ho : o < 720) : (ba g).rdT o = cY o := by
 rw [rdT_is o (iN (ap cM hg))]; unfold cY; have := congrArg (List.map bk) (list6 (b9 ho)); rw [List.map_map] at this; exact this
theorem text_is {o g d k : Nat} (ho : o < 720) (hg : g < 120) (hq : ∀ i, (63 : Nat) ∉ ((dh o d).getD i ak).cps.toList) : (aR o g d k).cps.toList = cks ((aQ g k).ck o d) := by
 rw [text_ex (jm ho) hq, iw hg]; exact ix ho k (iN (ap cM hg)) (Nat.le_refl _)
theorem leaf_noq : ∀ k, k < 6 → ∀ j, j < 6 → (fq k j).cps.toList.contains 63 = false := by decide +kernel
theorem ls_noq {o d : Nat} (ho : o < 720) (i : Nat) : (63 : Nat) ∉ ((dh o d).getD i ak).cps.toList := by
 rw [ab]; cases h : (dh o d)[i]? with
 | none => exact fun e => by cases e
 | some y =>
   have := ls_mem (d := d) ho (P := fun y => y.cps.toList.contains 63 = false) leaf_noq y (List.mem_of_getElem? h); intro e; have h2 := List.contains_iff_mem.mpr e; rw [Option.getD_some, this] at h2; cases h2
theorem ek {o g d : Nat} (ho : o < 720) (hg : g < 120) (k : Nat) : (aR o g d k).cps.toList = cks ((aQ g k).ck o d) := text_is ho hg (ls_noq ho)
theorem f_parse {o g d : Nat} (ho : o < 720) (hg : g < 120) (k : Nat) : Parse (aR o g d k) [] (aQ g k) (cY o) := by
 have := dU (d := d) ho k (iN (ap cM hg)) (Nat.le_refl _) (ek ho hg k) (rd := []) rfl; rw [tree_rd hg ho] at this; exact this
theorem iL : ∀ k, k < 6 → ∀ j, j < 6 → (cks (d6 k ++ [.pl (gi j)])).length ≤ 10 := by decide +kernel
theorem ck_len {o d : Nat} (ho : o < 720) (k : Nat) : ∀ {t : Tr} {a b : Nat}, t.io a b → b ≤ 5 → (cks ((t.setSg k).ck o d)).length ≤ 10 * t.size
 | .leaf i, a, b, ⟨h1, h2⟩, hb => iL _ (j5 d (a404 h2 hb)) _ (bw ho (a404 h2 hb))
 | .node sg l r mid, a, b, ⟨h1, h2⟩, hb => by
   have := dF h2; have x1 := ck_len (d := d) ho k h1 (show mid ≤ 5 by exact gQ hb this)
   have x2 := ck_len (d := d) ho k h2 hb; rw [dd]; simp only [d7, List.length_append, iV, List.length_singleton]; show _ ≤ 10 * (l.size + r.size + 1)
   exact a426 x1 x2
theorem bO {g : Nat} (hg : g < 120) : (ba g).io 0 5 := iN (ap cM hg)
theorem eL {g : Nat} (hg : g < 120) : (ba g).nodes = 5 := gA (bO hg)
theorem eN (k : Nat) : ∀ t : Tr, (t.setSg k).nodes = t.nodes
 | .leaf _ => rfl
 | .node _ l r _ => by
   show (l.setSg k).nodes + (r.setSg k).nodes + 1 = l.nodes + r.nodes + 1
   rw [eN k l, eN k r]
theorem iR {g : Nat} (hg : g < 120) (k : Nat) : (aQ g k).nodes = 5 := by unfold aQ; rw [eN, eL hg]
theorem f_size {g : Nat} (hg : g < 120) (k : Nat) : (aQ g k).size = 11 := by rw [cT, iR hg]
theorem f_dep {g : Nat} (hg : g < 120) (k : Nat) : (aQ g k).dep ≤ 6 := by have := eX (aQ g k); rw [iR hg] at this; exact a425 this
theorem f_fits {g : Nat} (hg : g < 120) (k : Nat) : (aQ g k).fits 6 := iO k (bO hg) (by decide)
theorem f_tlen {o g d : Nat} (ho : o < 720) (hg : g < 120) (k : Nat) : (aR o g d k).length ≤ 1000 := by
 have := ck_len (d := d) ho k (bO hg) (Nat.le_refl _); have h2 : (ba g).size = 11 := by rw [cT, eL hg]
 rw [bL, ek ho hg]; unfold aQ; exact a424 this h2
theorem pool_mem : ∀ j, j < 6 → bk j ∈ poolL := by decide +kernel
theorem rd_mem {o : Nat} (ho : o < 720) {P : Str → Prop} (h : ∀ j, j < 6 → P (bk j)) : ∀ y ∈ cY o, P y := by
 intro y hy; obtain ⟨j, hj, rfl⟩ := mMa hy; obtain ⟨i, hi, rfl⟩ := List.mem_iff_getElem.mp hj; have hi' : i < 6 := by rw [b9 ho] at hi; exact hi
 have := bw ho hi'; rw [ab, ac hi] at this; exact h _ this
theorem f_so (w : World) {o : Nat} (ho : o < 720) : ∀ y ∈ cY o, aG w true y := rd_mem ho fun j hj => so_pool w _ (pool_mem j hj)
theorem leaf_last {k j : Nat} (hj : j < 6) : Txt.item (fq k j) (-1) = bk j := by
 unfold fq; rw [em j hj]; exact PyProof.Rows.item_last_right1 _ _
theorem f_last {o d : Nat} (ho : o < 720) : cY o = (dh o d).map fun y => Txt.item y (-1) := by
 refine List.ext_getElem? fun i => ?_; by_cases hi : i < 6
 · have hl : i < (aI o).length := by rw [b9 ho]; exact hi
   rw [List.getElem?_map, ls_at ho hi, Option.map_some, leaf_last (bw ho hi)]; unfold cY; rw [List.getElem?_map, ac hl, Option.map_some, ab, ac hl, Option.getD_some]
 rw [List.getElem?_eq_none (by rw [eb ho]; exact a423 hi), List.getElem?_eq_none (by rw [am, jm ho]; exact a423 hi)]
theorem leaf_lens : ∀ k, k < 6 → ∀ j, j < 6 → 1 ≤ (fq k j).length ∧ (fq k j).length ≤ 100 := by decide +kernel
theorem jX : ∀ k, k < 6 → ∀ j, j < 6 → (Txt.replace (fq k j) (aa "\"(\"") (aa "")).length ≤ 100 ∧ (bare (fq k j)).length ≤ 100 := by decide +kernel
theorem leaf_bare : ∀ k, k < 6 → ∀ j, j < 6 → (bare (fq k j)).cps.toList = cks ((d6 k ++ [Ck.pl (gi j)]).filter Ck.open) := by decide +kernel
theorem dP {o d : Nat} (ho : o < 720) (k : Nat) : ∀ {t : Tr} {a b : Nat}, t.io a b → b ≤ 5 → (bM ((dh o d).map bare) (t.setSg k)).cps.toList = cks (((t.setSg k).ck o d).filter Ck.open)
 | .leaf i, a, b, ⟨h1, h2⟩, hb => by
   have hi : i < 6 := a404 h2 hb
   show (((dh o d).map bare).getD i ak).cps.toList = cks ((dB o d i).filter Ck.open)
   rw [ab, List.getElem?_map, ls_at ho hi]; exact leaf_bare _ (j5 d hi) _ (bw ho hi)
 | .node sg l r mid, a, b, ⟨h1, h2⟩, hb => by
   have := dF h2; have x1 := dP (d := d) ho k h1 (show mid ≤ 5 by exact gQ hb this)
   have x2 := dP (d := d) ho k h2 hb; rw [dd]; show (aa "(" ++ bM ((dh o d).map bare) (l.setSg k) ++ sgS (k.testBit mid) ++ bM ((dh o d).map bare) (r.setSg k) ++ aa ")").cps.toList = _
   have p2 : (aa ")").cps.toList = [41] := by decide +kernel
   have e : ∀ c, [Ck.pl c].filter Ck.open = [Ck.pl c] := fun c => rfl; simp only [cj, x1, x2, List.filter_append, d7, e, iV, p2, gl]; show ([40] ++ _ ++ [sgC (k.testBit mid)] ++ _) ++ [41] = _
   simp
theorem f_wr {o g d : Nat} (ho : o < 720) (hg : g < 120) (k : Nat) : bN (aR o g d k) = bM ((dh o d).map bare) (aQ g k) := by
 refine eG ?_; rw [eF (fun y hy => iQ (cK (d := d) ho k (bO hg) (Nat.le_refl _) y hy)) (ek ho hg k)]; exact (dP ho k (bO hg) (Nat.le_refl _)).symm
theorem f_chk {o g d : Nat} (ho : o < 720) (hg : g < 120) (k : Nat) : chk (aR o g d k) = true := by
 rw [gL (cK (d := d) ho k (bO hg) (Nat.le_refl _)) (ek ho hg k)]; rw [cJ ho k (bO hg) (Nat.le_refl _) (Int.le_refl 0)]; rfl
end
section
inductive BT where
 | lf (i : Nat)
 | nd (mid : Nat) (l r : BT)
 deriving Inhabited
noncomputable def Tr.toB : Tr → BT
 | .leaf i => .lf i
 | .node _ l r mid => .nd mid l.toB r.toB
noncomputable def BT.toTr (k : Nat) : BT → Tr
 | .lf i => .leaf i
 | .nd mid l r => .node (sgS (k.testBit mid)) (l.toTr k) (r.toTr k) mid
theorem ej (k : Nat) : ∀ t : Tr, t.toB.toTr k = t.setSg k
 | .leaf _ => rfl
 | .node _ l r mid => by
   show Tr.node _ (l.toB.toTr k) (r.toB.toTr k) mid = .node _ (l.setSg k) (r.setSg k) mid
   rw [ej k l, ej k r]
noncomputable def bp (k i : Nat) : Bool := Nat.beq (Nat.land (Nat.shiftRight k i) 1) 1
theorem aP (k i : Nat) : bp k i = k.testBit i := by
 have e : Nat.land (Nat.shiftRight k i) 1 = (k >>> i) % 2 := Nat.and_one_is_mod _; unfold bp Nat.testBit; rw [e, Nat.one_and_eq_mod_two]; rcases Nat.mod_two_eq_zero_or_one (k >>> i) with h | h <;> rw [h] <;> rfl
noncomputable def BT.ms : BT → Nat
 | .lf i => Nat.shiftLeft 1 i
 | .nd _ l r => Nat.lor l.ms r.ms
noncomputable def mskL : List BT → Nat
 | [] => 0
 | t :: r => Nat.lor t.ms (mskL r)
noncomputable def closedT : Nat := 9745016608018303582909810704535779829920048987438408311223746709269325784400050255102055737732509982894666435545130138854494872309924366828142226459499451759219703439401578480067840195593749480544224999941572636489808721824336827179117759310341188025094351114903998501420375101029778227199
noncomputable def baseT : Nat := 244746713862359630969433919284979259986739738776154813750109744654410630707442443518597205919415485655712092871706135520119223279071862156847102602281975808
noncomputable def goodM (S : Nat) : Nat := Nat.land (Nat.shiftRight closedT (Nat.mul 15 S)) 32767
noncomputable def im : List BT → Nat
 | [.lf i, .lf j] => Nat.land (Nat.shiftRight baseT (Nat.mul 15 (Nat.add (Nat.mul 6 i) j))) 32767
 | _ => 0
noncomputable def bm (k : Nat) : List BT → Option (List BT)
 | [] => none
 | .lf i :: r => match bm k r with
   | none => none
   | some r' => some (.lf i :: r')
 | .nd mid a b :: r => match bp k mid with
   | true => some (a :: b :: r)
   | false => match bm k r with
     | none => none
     | some r' => some (.nd mid a b :: r')
noncomputable def andM : Nat → Nat → Nat
 | 0, _ => 0
 | x + 1, y => Nat.land (x + 1) y
noncomputable def eJ (g : List BT → List BT → Nat) : List BT → List BT → List BT → Nat
 | [], a, b => g a b
 | x :: r, a, b => Nat.lor (eJ g r (a ++ [x]) b) (eJ g r a (b ++ [x]))
noncomputable def fB (g : List BT → List BT → Nat) : List BT → List BT → Nat
 | [], a => g a []
 | x :: r, a => Nat.lor (g a (x :: r)) (fB g r (a ++ [x]))
noncomputable def tryM (f : List BT → Nat) (l r : BT) (a b : List BT) : Nat := andM (goodM (mskL (r :: a))) (andM (f (r :: a)) (f (b ++ [l])))
noncomputable def jI (rg : Bool) (f : List BT → Nat) : List BT → List BT → Nat
 | _, [] => 0
 | pre, .lf i :: post => jI rg f (pre ++ [.lf i]) post
 | pre, .nd mid l r :: post => Nat.lor (match rg with | true => fB (tryM f l r) (post ++ pre) [] | false => eJ (tryM f l r) (post ++ pre) [] []) (jI rg f (pre ++ [.nd mid l r]) post)
noncomputable def prvM (k : Nat) (rg : Bool) : Nat → List BT → Nat
 | 0, ts => im ts
 | n + 1, ts => match bm k ts with
   | some ts' => prvM k rg n ts'
   | none => Nat.lor (jI rg (prvM k rg n) [] ts) (im ts)
noncomputable def mateT : List (List Nat) := [[1, 0, 3, 2, 5, 4], [1, 0, 4, 5, 2, 3], [1, 0, 5, 4, 3, 2], [2, 3, 0, 1, 5, 4], [2, 4, 0, 5, 1, 3], [2, 5, 0, 4, 3, 1], [3, 2, 1, 0, 5, 4], [3, 4, 5, 0, 1, 2], [3, 5, 4, 0, 2, 1], [4, 2, 1, 5, 0, 3], [4, 3, 5, 1, 0, 2], [4, 5, 3, 2, 0, 1], [5, 2, 1, 4, 3, 0], [5, 3, 4, 1, 2, 0], [5, 4, 3, 2, 1, 0]]
noncomputable def mt (u i : Nat) : Nat := (mateT.getD u []).getD i 6
theorem closed_is : (af 64).all (fun S => (af 15).all fun u => bp (goodM S) u == (af 6).all fun i => !bp S i || bp S (mt u i)) = true := by decide +kernel
theorem base_is : (af 6).all (fun i => (af 6).all fun j => (af 15).all fun u => bp (im [.lf i, .lf j]) u == Nat.beq i (mt u j)) = true := by decide +kernel
theorem mt_lt : (af 15).all (fun u => (af 6).all fun i => Nat.blt (mt u i) 6) = true := by decide +kernel
end
section
theorem d0 (x y i : Nat) : (Nat.lor x y).testBit i = (x.testBit i || y.testBit i) := Nat.testBit_or x y i
theorem cB (x y i : Nat) : (Nat.land x y).testBit i = (x.testBit i && y.testBit i) := Nat.testBit_and x y i
theorem jE (x y i : Nat) : (andM x y).testBit i = (x.testBit i && y.testBit i) := by
 cases x with
 | zero => rw [Nat.zero_testBit]; exact Nat.zero_testBit i
 | succ x => exact cB (x + 1) y i
noncomputable def BT.lv : BT → List Nat
 | .lf i => [i]
 | .nd _ l r => l.lv ++ r.lv
noncomputable def lvL (ts : List BT) : List Nat := ts.flatMap BT.lv
theorem ms_bit (i : Nat) : ∀ t : BT, t.ms.testBit i = true ↔ i ∈ t.lv
 | .lf j => by
   show (1 <<< j).testBit i = true ↔ i ∈ [j]
   rw [Nat.one_shiftLeft, Nat.testBit_two_pow, decide_eq_true_iff, List.mem_singleton]; exact ⟨fun h => h.symm, fun h => h.symm⟩
 | .nd _ l r => by
   show (Nat.lor l.ms r.ms).testBit i = true ↔ i ∈ l.lv ++ r.lv
   rw [d0, Bool.or_eq_true, ms_bit i l, ms_bit i r, List.mem_append]
theorem dY (i : Nat) : ∀ ts : List BT, (mskL ts).testBit i = true ↔ i ∈ lvL ts
 | [] => by
   show (0 : Nat).testBit i = true ↔ _
   rw [Nat.zero_testBit]; simp [lvL]
 | t :: r => by
   show (Nat.lor t.ms (mskL r)).testBit i = true ↔ _
   rw [d0, Bool.or_eq_true, ms_bit i t, dY i r]; simp [lvL]
theorem msk_lt {ts : List BT} (h : ∀ i ∈ lvL ts, i < 6) : mskL ts < 64 := by
 refine Nat.lt_pow_two_of_testBit (n := 6) _ fun i hi => ?_; rw [← Bool.not_eq_true, dY]; intro hm; have := h i hm; exact a433 hi this
noncomputable def Tie (rd : List Str) (u : Nat) : Prop := ∀ i, i < 6 → ∀ j, j < 6 → (rd.getD j ak == Txt.swapcase (rd.getD i ak)) = Nat.beq j (mt u i)
theorem lets_B (rd : List Str) (k : Nat) : ∀ t : BT, (t.toTr k).lets rd = t.lv.map fun i => rd.getD i ak
 | .lf i => rfl
 | .nd mid l r => by
   show (l.toTr k).lets rd ++ (r.toTr k).lets rd = (l.lv ++ r.lv).map _
   rw [lets_B rd k l, lets_B rd k r, List.map_append]
theorem hY (rd : List Str) (k : Nat) : ∀ ts : List BT, letters rd (ts.map (BT.toTr k)) = (lvL ts).map fun i => rd.getD i ak
 | [] => rfl
 | t :: r => by
   have := hY rd k r; unfold letters lvL at *
   rw [ai, List.flatMap_cons, List.flatMap_cons, List.map_append, this, lets_B]
theorem mt_six {u i : Nat} (hu : u < 15) (hi : i < 6) : mt u i < 6 := Nat.blt_eq.mp (ap (ap mt_lt hu) hi)
theorem good_bit {rd : List Str} {u : Nat} (hu : u < 15) (T : Tie rd u) (k : Nat) {ts : List BT} (h : ∀ i ∈ lvL ts, i < 6) : (goodM (mskL ts)).testBit u = ft rd (ts.map (BT.toTr k)) := by
 have hS := msk_lt h; have hc := ap (ap closed_is hS) hu; rw [beq_iff_eq, aP] at hc; rw [hc]; unfold ft; rw [hY, Bool.eq_iff_iff, List.all_eq_true, List.all_eq_true]; constructor
 · intro hh x hx; obtain ⟨i, hi, rfl⟩ := mMa hx; have hi6 := h i hi; have := hh i (List.mem_range.mpr hi6); rw [aP, aP, (dY i ts).mpr hi] at this; have hm := (dY _ ts).mp (by simpa using this); refine List.any_eq_true.mpr ⟨_, List.mem_map.mpr ⟨_, hm, rfl⟩, ?_⟩; rw [T i hi6 _ (h _ hm)]; exact Nat.beq_refl _
 intro hh i hi; have hi6 := List.mem_range.mp hi; rw [aP, aP]; by_cases hb : (mskL ts).testBit i = true
 · have hi' := (dY i ts).mp hb; refine x12 (List.any_eq_true.mp (hh _ (List.mem_map.mpr ⟨i, hi', rfl⟩))) fun y hy hye => ?_; obtain ⟨j, hj, rfl⟩ := mMa hy; rw [T i hi6 j (h j hj)] at hye; rw [hb, ← Nat.eq_of_beq_eq_true hye, (dY j ts).mpr hj]; rfl
 rw [Bool.not_eq_true] at hb; rw [hb]; rfl
theorem jD {rd : List Str} {u : Nat} (hu : u < 15) (T : Tie rd u) (k : Nat) {ts : List BT} (h : ∀ i ∈ lvL ts, i < 6) : (im ts).testBit u = ei rd (ts.map (BT.toTr k)) := by
 match ts, h with
 | [], _ => exact Nat.zero_testBit u
 | [.lf i], _ => exact Nat.zero_testBit u
 | [.nd _ _ _], _ => exact Nat.zero_testBit u
 | [.lf i, .nd _ _ _], _ => exact Nat.zero_testBit u
 | [.nd _ _ _, .lf _], _ => exact Nat.zero_testBit u
 | [.nd _ _ _, .nd _ _ _], _ => exact Nat.zero_testBit u
 | a :: b :: c :: r, _ =>
   have e1 : im (a :: b :: c :: r) = 0 := by unfold im; cases a <;> cases b <;> rfl
   have e2 : ei rd ((a :: b :: c :: r).map (BT.toTr k)) = false := by
     show ei rd (a.toTr k :: b.toTr k :: c.toTr k :: r.map (BT.toTr k)) = false
     unfold ei; cases a <;> cases b <;> rfl
   rw [e1, e2]; exact Nat.zero_testBit u
 | [.lf i, .lf j], h =>
   have hi : i < 6 := h i (by simp [lvL, BT.lv]); have hj : j < 6 := h j (by simp [lvL, BT.lv]); have hb := ap (ap (ap base_is hi) hj) hu; rw [beq_iff_eq, aP] at hb; rw [hb]; show _ = (rd.getD i ak == Txt.swapcase (rd.getD j ak))
   rw [T j hj i hi]
noncomputable def pk {α : Type} : List α → Nat → Bool → List α
 | [], _, _ => []
 | x :: r, ch, b => if (ch.testBit 0 == b) = true then x :: pk r (ch / 2) b else pk r (ch / 2) b
theorem eV : ∀ (rest : List Tr) (ch : Nat) (b : Bool), b6 rest ch b = pk rest ch b
 | [], ch, b => rfl
 | x :: r, ch, b => by
   have ih := eV r (ch / 2) b; unfold b6 at *
   rw [List.length_cons, List.range_succ_eq_map, List.filter_cons, List.filter_map]; have e : ((fun j => ch.testBit j == b) ∘ Nat.succ) = fun j => (ch / 2).testBit j == b := by
     funext j
     show (ch.testBit (j + 1) == b) = _
     rw [Nat.testBit_succ]
   rw [e]; unfold pk; split
   · rw [ai, List.map_map, ← ih]; rfl
   rw [List.map_map, ← ih]; rfl
theorem jc {α β : Type} (f : α → β) : ∀ (l : List α) (ch : Nat) (b : Bool), pk (l.map f) ch b = (pk l ch b).map f
 | [], _, _ => rfl
 | x :: r, ch, b => by
   rw [ai]; unfold pk; split
   · rw [ai, jc f r]
   rw [jc f r]
theorem pk_zero {α : Type} : ∀ l : List α, pk l 0 true = [] ∧ pk l 0 false = l
 | [] => ⟨rfl, rfl⟩
 | x :: r => by
   have := pk_zero r; refine ⟨?_, ?_⟩
   · unfold pk; rw [if_neg (by decide)]; exact this.1
   unfold pk; rw [if_pos (by decide)]; exact congrArg _ this.2
theorem pk_pow {α : Type} : ∀ (l : List α) (s : Nat), s ≤ l.length → pk l (2 ^ s - 1) true = l.take s ∧ pk l (2 ^ s - 1) false = l.drop s
 | l, 0, _ => pk_zero l
 | [], s + 1, h => by simp at h
 | x :: r, s + 1, h => by
   have ih := pk_pow r s (by simpa using h); have h0 : (2 ^ (s + 1) - 1).testBit 0 = true := by rw [Nat.testBit_two_pow_sub_one]; simp
   have h1 : (2 ^ (s + 1) - 1) / 2 = 2 ^ s - 1 := by rw [Nat.pow_succ]; exact a432
   refine ⟨?_, ?_⟩
   · unfold pk; rw [h0, h1, if_pos (by rfl), ih.1]; rfl
   unfold pk; rw [h0, h1, if_neg (by decide), ih.2]; rfl
theorem dQ (u : Nat) (g : List BT → List BT → Nat) : ∀ (rest a b : List BT), (eJ g rest a b).testBit u = true ↔ ∃ ch, ch < 2 ^ rest.length ∧ (g (a ++ pk rest ch true) (b ++ pk rest ch false)).testBit u = true
 | [], a, b => by
   show (g a b).testBit u = true ↔ _
   constructor
   · intro h; exact ⟨0, by simp, by simpa [pk] using h⟩
   rintro ⟨ch, _, h⟩; simpa [pk] using h
 | x :: r, a, b => by
   show (Nat.lor _ _).testBit u = true ↔ _
   rw [d0, Bool.or_eq_true, dQ u g r, dQ u g r]; constructor
   · rintro (⟨ch, h1, h2⟩ | ⟨ch, h1, h2⟩)
     · refine ⟨2 * ch + 1, by rw [List.length_cons, Nat.pow_succ]; exact a431 h1, ?_⟩; have t0 : (2 * ch + 1).testBit 0 = true := by simp
       have td : (2 * ch + 1) / 2 = ch := a430
       unfold pk; rw [t0, td, if_pos (by rfl), if_neg (by decide)]; simpa using h2
     refine ⟨2 * ch, by rw [List.length_cons, Nat.pow_succ]; exact a429 h1, ?_⟩; have t0 : (2 * ch).testBit 0 = false := by simp
     have td : (2 * ch) / 2 = ch := a428
     unfold pk; rw [t0, td, if_neg (by decide), if_pos (by rfl)]; simpa using h2
   rintro ⟨ch, h1, h2⟩; rw [List.length_cons, Nat.pow_succ] at h1; unfold pk at h2; cases t0 : ch.testBit 0 with
   | true =>
     rw [t0, if_pos (by rfl), if_neg (by decide)] at h2; exact .inl ⟨ch / 2, by exact a427 h1, by simpa using h2⟩
   | false =>
     rw [t0, if_neg (by decide), if_pos (by rfl)] at h2; exact .inr ⟨ch / 2, by exact a427 h1, by simpa using h2⟩
theorem fz (u : Nat) (g : List BT → List BT → Nat) : ∀ (rest a : List BT), (fB g rest a).testBit u = true ↔ ∃ s, s ≤ rest.length ∧ (g (a ++ rest.take s) (rest.drop s)).testBit u = true
 | [], a => by
   show (g a []).testBit u = true ↔ _
   constructor
   · intro h; exact ⟨0, by simp, by simpa using h⟩
   rintro ⟨s, _, h⟩; simpa using h
 | x :: r, a => by
   show (Nat.lor _ _).testBit u = true ↔ _
   rw [d0, Bool.or_eq_true, fz u g r]; constructor
   · rintro (h | ⟨s, h1, h2⟩)
     · exact ⟨0, by simp, by simpa using h⟩
     exact ⟨s + 1, by simp; exact h1, by simpa using h2⟩
   rintro ⟨s, h1, h2⟩; cases s with
   | zero => exact .inl (by simpa using h2)
   | succ s => exact .inr ⟨s, by simpa using h1, by simpa using h2⟩
theorem plus_is (b : Bool) : (sgS b == aa "+") = b := by cases b <;> decide +kernel
theorem db (k : Nat) : ∀ ts : List BT, bm k ts = none → (ts.map (BT.toTr k)).findIdx? Tr.isPlus = none
 | [], _ => rfl
 | .lf i :: r, h => by
   have ih := db k r; unfold bm at h; cases hr : bm k r with
   | some r' => rw [hr] at h; cases h
   | none =>
     rw [ai, List.findIdx?_cons, if_neg (by exact Bool.false_ne_true), ih hr]; rfl
 | .nd mid a b :: r, h => by
   have ih := db k r; unfold bm at h; cases hb : bp k mid with
   | true => rw [hb] at h; cases h
   | false =>
     rw [hb] at h; cases hr : bm k r with
     | some r' => rw [hr] at h; cases h
     | none =>
       have : Tr.isPlus ((BT.nd mid a b).toTr k) = false := by
         show (sgS (k.testBit mid) == aa "+") = false
         rw [plus_is, ← aP, hb]
       rw [ai, List.findIdx?_cons, this, if_neg Bool.false_ne_true, ih hr]; rfl
theorem da (k : Nat) : ∀ {ts ts' : List BT}, bm k ts = some ts' → (∃ x, (ts.map (BT.toTr k)).findIdx? Tr.isPlus = some x ∧ (ts.map (BT.toTr k)).take x ++ ((ts.map (BT.toTr k)).getD x default).kids ++ (ts.map (BT.toTr k)).drop (x + 1) = ts'.map (BT.toTr k)) ∧ lvL ts' = lvL ts
 | .lf i :: r, ts', h => by
   unfold bm at h; cases hr : bm k r with
   | none => rw [hr] at h; cases h
   | some r' =>
     rw [hr] at h; cases h
     obtain ⟨⟨x, h1, h2⟩, h3⟩ := da k hr; refine ⟨⟨x + 1, ?_, ?_⟩, ?_⟩
     · rw [ai, List.findIdx?_cons, if_neg (by exact Bool.false_ne_true), h1]; rfl
     · simp only [ai, List.take_succ_cons, List.drop_succ_cons, List.getD_cons_succ, List.cons_append]; rw [h2]
     show _ ++ lvL r' = _ ++ lvL r
     rw [h3]
 | .nd mid a b :: r, ts', h => by
   unfold bm at h; have hp : Tr.isPlus ((BT.nd mid a b).toTr k) = bp k mid := by
     show (sgS (k.testBit mid) == aa "+") = _
     rw [plus_is, ← aP]
   cases hb : bp k mid with
   | true =>
     rw [hb] at h; cases h
     refine ⟨⟨0, ?_, rfl⟩, ?_⟩
     · rw [ai, List.findIdx?_cons, hp, hb]; rfl
     simp [lvL, BT.lv]
   | false =>
     rw [hb] at h; cases hr : bm k r with
     | none => rw [hr] at h; cases h
     | some r' =>
       rw [hr] at h; cases h
       obtain ⟨⟨x, h1, h2⟩, h3⟩ := da k hr; refine ⟨⟨x + 1, ?_, ?_⟩, ?_⟩
       · rw [ai, List.findIdx?_cons, hp, hb, if_neg Bool.false_ne_true, h1]; rfl
       · simp only [ai, List.take_succ_cons, List.drop_succ_cons, List.getD_cons_succ, List.cons_append]; rw [h2]
       show _ ++ lvL r' = _ ++ lvL r
       rw [h3]
end
section
noncomputable def six (ts : List BT) : Prop := ∀ i ∈ lvL ts, i < 6
theorem lvL_app (a b : List BT) : lvL (a ++ b) = lvL a ++ lvL b := by unfold lvL; rw [List.flatMap_append]
theorem six_app {a b : List BT} : six (a ++ b) ↔ six a ∧ six b := by
 unfold six; rw [lvL_app]; constructor
 · exact fun h => ⟨fun i hi => h i (List.mem_append_left _ hi), fun i hi => h i (List.mem_append_right _ hi)⟩
 rintro ⟨h1, h2⟩ i hi; rcases mAp hi with h | h
 · exact h1 i h
 exact h2 i h
theorem six_cons {a : BT} {b : List BT} : six (a :: b) ↔ six [a] ∧ six b := six_app (a := [a])
theorem six_nd {mid : Nat} {l r : BT} : six [.nd mid l r] ↔ six [l] ∧ six [r] := by
 have e : lvL [.nd mid l r] = lvL ([l] ++ [r]) := by simp [lvL, BT.lv]
 rw [← six_app]; unfold six; rw [e]
theorem six_sub {a b : List BT} (h : ∀ t ∈ a, t ∈ b) (hb : six b) : six a := by
 intro i hi; refine x12 (List.mem_flatMap.mp hi) fun t ht hit => ?_; exact hb i (List.mem_flatMap.mpr ⟨t, h t ht, hit⟩)
theorem jb {α : Type} : ∀ {l : List α} {ch : Nat} {b : Bool} {x : α}, x ∈ pk l ch b → x ∈ l
 | [], _, _, _, h => by cases h
 | y :: r, ch, b, x, h => by
   unfold pk at h; split at h
   · rcases mCo h with rfl | h
     · exact .head _
     exact .tail _ (jb h)
   exact .tail _ (jb h)
section
variable (rd : List Str) (rg : Bool) (F : List Tr → Bool)
noncomputable def body (L : List Tr) (x : Nat) : Bool := match L.getD x default with
 | .leaf _ => false
 | .node _ l r _ => (aL rg (L.length - 1)).any fun ch => ft rd (r :: b6 (L.drop (x + 1) ++ L.take x) ch true) && F (r :: b6 (L.drop (x + 1) ++ L.take x) ch true) && F (b6 (L.drop (x + 1) ++ L.take x) ch false ++ [l])
end
theorem i5 (p : Nat → Bool) (n : Nat) : (aL true n).any p = true ↔ ∃ s, s ≤ n ∧ p (2 ^ s - 1) = true := by
 unfold aL; rw [if_pos rfl, List.any_map, List.any_eq_true]; constructor
 · rintro ⟨s, h1, h2⟩; exact ⟨s, by have := List.mem_range.mp h1; exact a436 this, h2⟩
 rintro ⟨s, h1, h2⟩; exact ⟨s, List.mem_range.mpr (a435 h1), h2⟩
theorem ip (p : Nat → Bool) (n : Nat) : (aL false n).any p = true ↔ ∃ ch, ch < 2 ^ n ∧ p ch = true := by
 unfold aL; rw [if_neg Bool.false_ne_true, List.any_eq_true]; constructor
 · rintro ⟨s, h1, h2⟩; exact ⟨s, List.mem_range.mp h1, h2⟩
 rintro ⟨s, h1, h2⟩; exact ⟨s, List.mem_range.mpr h1, h2⟩
section
variable {rd : List Str} {u : Nat} (hu : u < 15) (T : Tie rd u) (k : Nat) (rg : Bool) {f : List BT → Nat} {F : List Tr → Bool} (hf : ∀ ts, six ts → (f ts).testBit u = F (ts.map (BT.toTr k)))
include hu T hf
theorem try_bit {l r : BT} {a b : List BT} (h1 : six (r :: a)) (h2 : six (b ++ [l])) :
   (tryM f l r a b).testBit u = (ft rd ((r :: a).map (BT.toTr k)) && F ((r :: a).map (BT.toTr k)) && F ((b ++ [l]).map (BT.toTr k))) := by
 unfold tryM; rw [jE, jE, good_bit hu T k h1, hf _ h1, hf _ h2, Bool.and_assoc]
theorem split_bit {l r : BT} {rest : List BT} (hl : six [l]) (hr : six [r]) (hrest : six rest) :
   (match rg with | true => fB (tryM f l r) rest [] | false => eJ (tryM f l r) rest [] []).testBit u =
     ((aL rg rest.length).any fun ch => ft rd (r.toTr k :: b6 (rest.map (BT.toTr k)) ch true) && F (r.toTr k :: b6 (rest.map (BT.toTr k)) ch true) && F (b6 (rest.map (BT.toTr k)) ch false ++ [l.toTr k])) := by
 have hsub : ∀ {a : List BT}, (∀ t ∈ a, t ∈ rest) → six (r :: a) ∧ six (a ++ [l]) := fun h => ⟨six_cons.mpr ⟨hr, six_sub h hrest⟩, six_app.mpr ⟨six_sub h hrest, hl⟩⟩; rw [Bool.eq_iff_iff]; cases rg with
 | true =>
   rw [i5]; show (fB (tryM f l r) rest []).testBit u = true ↔ _
   rw [fz]; refine exists_congr fun s => and_congr_right fun hs => ?_; have hp := pk_pow (rest.map (BT.toTr k)) s (by rw [am]; exact hs); rw [eV, eV, hp.1, hp.2, ← List.map_take, ← List.map_drop]; rw [List.nil_append, try_bit hu T k hf (hsub fun t ht => List.mem_of_mem_take ht).1 (hsub fun t ht => List.mem_of_mem_drop ht).2]; rw [ai, List.map_append]; rfl
 | false =>
   rw [ip]; show (eJ (tryM f l r) rest [] []).testBit u = true ↔ _
   rw [dQ]; refine exists_congr fun s => and_congr_right fun hs => ?_; rw [eV, eV, jc, jc]; rw [List.nil_append, List.nil_append, try_bit hu T k hf (hsub fun t ht => jb ht).1 (hsub fun t ht => jb ht).2]; rw [ai, List.map_append]; rfl
theorem i7 : ∀ (ts pre : List BT), six (pre ++ ts) → (jI rg f pre ts).testBit u = (af ts.length).any fun y => body rd rg F ((pre ++ ts).map (BT.toTr k)) (pre.length + y)
 | [], pre, h => Nat.zero_testBit u
 | x :: post, pre, h => by
   have ih := i7 post (pre ++ [x]) (by rw [List.append_assoc]; exact h); have hx := six_cons.mp (six_app.mp h).2; rw [List.append_assoc, List.length_append, List.length_singleton] at ih; rw [List.length_cons, List.range_succ_eq_map, List.any_cons, List.any_map]; have e : ((fun y => body rd rg F ((pre ++ x :: post).map (BT.toTr k)) (pre.length + y)) ∘ Nat.succ) = fun y => body rd rg F ((pre ++ ([x] ++ post)).map (BT.toTr k)) (pre.length + 1 + y) := by
     funext y
     show body _ _ _ _ (pre.length + (y + 1)) = _
     rw [show pre.length + (y + 1) = pre.length + 1 + y from by exact a90]; rfl
   rw [e, ← ih, Nat.add_zero]; have hget : ((pre ++ x :: post).map (BT.toTr k)).getD pre.length default = x.toTr k := by
     rw [ab, List.getElem?_map, List.getElem?_append_right (Nat.le_refl _), Nat.sub_self]; rfl
   cases x with
   | lf i =>
     have : body rd rg F ((pre ++ BT.lf i :: post).map (BT.toTr k)) pre.length = false := by
       unfold body; rw [hget]; rfl
     rw [this, Bool.false_or]; rfl
   | nd mid l r =>
     have hlr := six_nd.mp hx.1; have hrest : six (post ++ pre) := six_app.mpr ⟨hx.2, (six_app.mp h).1⟩; have hd : ((pre ++ BT.nd mid l r :: post).map (BT.toTr k)).drop (pre.length + 1) ++ ((pre ++ BT.nd mid l r :: post).map (BT.toTr k)).take pre.length = (post ++ pre).map (BT.toTr k) := by
       rw [List.map_append, List.map_append, ai, List.take_left' (by rw [am]), List.drop_append, List.drop_eq_nil_of_le (by rw [am]; exact a414), am, show pre.length + 1 - pre.length = 1 from by exact a413]; rfl
     have hlen : ((pre ++ BT.nd mid l r :: post).map (BT.toTr k)).length - 1 = (post ++ pre).length := by simp; exact a434
     have : body rd rg F ((pre ++ BT.nd mid l r :: post).map (BT.toTr k)) pre.length = (match rg with | true => fB (tryM f l r) (post ++ pre) [] | false => eJ (tryM f l r) (post ++ pre) [] []).testBit u := by
       rw [split_bit hu T k rg hf hlr.1 hlr.2 hrest]; unfold body; rw [hget, hd, hlen]; rfl
     rw [this]; exact d0 _ _ _
end
theorem iE {rd : List Str} {u : Nat} (hu : u < 15) (T : Tie rd u) (k : Nat) (rg : Bool) : ∀ (n : Nat) (ts : List BT), six ts → (prvM k rg n ts).testBit u = prv rd rg n (ts.map (BT.toTr k))
 | 0, ts, h => jD hu T k h
 | n + 1, ts, h => by
   have ih := iE hu T k rg n; show (match bm k ts with | some ts' => prvM k rg n ts' | none => Nat.lor (jI rg (prvM k rg n) [] ts) (im ts)).testBit u = cz rd rg (prv rd rg n) (ts.map (BT.toTr k))
   unfold cz; cases he : bm k ts with
   | some ts' =>
     obtain ⟨⟨x, h1, h2⟩, h3⟩ := da k he; rw [h1]; show (prvM k rg n ts').testBit u = prv rd rg n _
     rw [h2]; exact ih ts' (by unfold six; rw [h3]; exact h)
   | none =>
     rw [db k ts he]; show (Nat.lor (jI rg (prvM k rg n) [] ts) (im ts)).testBit u = _
     rw [d0, jD hu T k h, i7 hu T k rg ih ts [] h, am]; congr 2
     funext y
     show body rd rg (prv rd rg n) (ts.map (BT.toTr k)) (0 + y) = _
     rw [Nat.zero_add]; unfold body; rw [am]; all_goals rfl
end
section
noncomputable abbrev IP := Int × Int
noncomputable def rl (ms : List Int) (p : IP) : List Int := ms.map fun k => if k == ms.getD p.1.toNat 0 then ms.getD p.2.toNat 0 else k
noncomputable def cnt (ms : List Int) : Nat := ((ay 11).filter fun c => ms.contains c).length
noncomputable def tin (p : IP) : Prop := p.1.toNat < 11 ∧ p.2.toNat < 11
noncomputable def Ms (ms : List Int) : Prop := ms.length = 11 ∧ ∀ c ∈ ms, c ∈ ay 11
theorem getD_mapI {ms : List Int} {f : Int → Int} {i : Nat} (h : i < ms.length) : (ms.map f).getD i 0 = f (ms.getD i 0) := by
 rw [ab, ab, List.getElem?_map, ac h]; rfl
theorem rl_ms {ms : List Int} {p : IP} (h : Ms ms) (hp : tin p) : Ms (rl ms p) := by
 refine ⟨by unfold rl; rw [am, h.1], fun c hc => ?_⟩; obtain ⟨k, hk, rfl⟩ := mMa hc; show (if k == ms.getD p.1.toNat 0 then ms.getD p.2.toNat 0 else k) ∈ _
 split
 · exact h.2 _ (bI (by rw [h.1]; exact hp.2))
 exact h.2 _ hk
theorem fH {ms : List Int} {p : IP} (h : Ms ms) {u : Nat} (hu : u < 11) : (rl ms p).getD u 0 = if ms.getD u 0 == ms.getD p.1.toNat 0 then ms.getD p.2.toNat 0 else ms.getD u 0 := by
 unfold rl; rw [getD_mapI (by rw [h.1]; exact hu)]
theorem rl_same {ms : List Int} {p : IP} (e : ms.getD p.1.toNat 0 = ms.getD p.2.toNat 0) : rl ms p = ms := by
 unfold rl; rw [List.map_congr_left (g := id) (fun k kq => ?_), List.map_id]; rw [e]; split
 · rename_i h; exact (eq_of_beq h).symm
 rfl
theorem range_nodup : (ay 11).Nodup := by decide +kernel
theorem cnt_rl {ms : List Int} {p : IP} (h : Ms ms) (hp : tin p) (ne : ms.getD p.1.toNat 0 ≠ ms.getD p.2.toNat 0) : cnt (rl ms p) + 1 = cnt ms := by
 have ha : ms.getD p.1.toNat 0 ∈ ms := bI (by rw [h.1]; exact hp.1); have hb : ms.getD p.2.toNat 0 ∈ ms := bI (by rw [h.1]; exact hp.2); have hm : ∀ c, c ∈ rl ms p ↔ c ∈ ms ∧ c ≠ ms.getD p.1.toNat 0 := by
   intro c; unfold rl; rw [List.mem_map]; constructor
   · rintro ⟨k, hk, rfl⟩; split
     · exact ⟨hb, fun e => ne e.symm⟩
     rename_i hne
     exact ⟨hk, fun e => hne (by rw [e]; exact beq_self_eq_true _)⟩
   rintro ⟨h1, h2⟩; exact ⟨c, h1, if_neg (fun e => h2 (eq_of_beq e))⟩
 have e : ((ay 11).filter fun c => (rl ms p).contains c) = (((ay 11).filter fun c => ms.contains c).erase (ms.getD p.1.toNat 0)) := by
   rw [List.Nodup.erase_eq_filter (List.Pairwise.filter _ range_nodup), List.filter_filter]; refine List.filter_congr fun c kq => ?_; rw [Bool.eq_iff_iff, List.contains_iff_mem, hm c, Bool.and_eq_true, List.contains_iff_mem, bne_iff_ne]; exact and_comm
 have hin : ms.getD p.1.toNat 0 ∈ (ay 11).filter fun c => ms.contains c := List.mem_filter.mpr ⟨h.2 _ ha, List.contains_iff_mem.mpr ha⟩; unfold cnt; rw [e, List.length_erase_of_mem hin]; have := List.length_pos_of_mem hin; exact a441 this
noncomputable def fin (ms : List Int) (ps : List IP) : List Int := ps.foldl rl ms
theorem ostep_is (ms : List Int) (p : IP) : c5 (some ms) p = if ms.getD p.1.toNat 0 == ms.getD p.2.toNat 0 then none else some (rl ms p) := rfl
theorem fin_ms : ∀ {ps : List IP} {ms : List Int}, Ms ms → (∀ p ∈ ps, tin p) → Ms (fin ms ps)
 | [], ms, h, _ => h
 | p :: r, ms, h, hp => fin_ms (ps := r) (rl_ms h (hp _ (.head _))) fun q hq => hp q (.tail _ hq)
theorem jy : ∀ {ps : List IP} {ms : List Int}, Ms ms → (∀ p ∈ ps, tin p) → ∀ {u v : Nat}, u < 11 → v < 11 → ms.getD u 0 = ms.getD v 0 → (fin ms ps).getD u 0 = (fin ms ps).getD v 0
 | [], ms, h, _, u, v, hu, hv, e => e
 | p :: r, ms, h, hp, u, v, hu, hv, e => by
   refine jy (ps := r) (rl_ms h (hp _ (.head _))) (fun q hq => hp q (.tail _ hq)) hu hv ?_; rw [fH h hu, fH h hv, e]
theorem jx : ∀ {ps : List IP} {ms : List Int}, Ms ms → (∀ p ∈ ps, tin p) → ∀ p ∈ ps, (fin ms ps).getD p.1.toNat 0 = (fin ms ps).getD p.2.toNat 0
 | q :: r, ms, h, hp, p, hm => by
   have hq := hp _ (.head _); have h' := rl_ms h hq; have hr : ∀ p ∈ r, tin p := fun q hq => hp q (.tail _ hq); rcases mCo hm with rfl | hm
   · refine jy (ps := r) h' hr hq.1 hq.2 ?_; rw [fH h hq.1, fH h hq.2, if_pos (beq_self_eq_true _)]; split <;> rfl
   exact jx (ps := r) h' hr p hm
theorem fR {S : Nat → Bool} : ∀ {ps : List IP} {ms : List Int}, Ms ms → (∀ p ∈ ps, tin p) → (∀ p ∈ ps, S p.1.toNat = S p.2.toNat) → (∀ u v, u < 11 → v < 11 → ms.getD u 0 = ms.getD v 0 → S u = S v) → ∀ u v, u < 11 → v < 11 → (fin ms ps).getD u 0 = (fin ms ps).getD v 0 → S u = S v
 | [], ms, h, _, _, hS => hS
 | p :: r, ms, h, hp, hc, hS => by
   have hq := hp _ (.head _); refine fR (ps := r) (rl_ms h hq) (fun q hq => hp q (.tail _ hq)) (fun q hq => hc q (.tail _ hq)) ?_; intro u v hu hv e; have hpp := hc _ (.head _); rw [fH h hu, fH h hv] at e; split at e
   · rename_i h1
     have s1 := hS u _ hu hq.1 (eq_of_beq h1); split at e
     · rename_i h2
       rw [s1, hS v _ hv hq.1 (eq_of_beq h2)]
     rw [s1, hpp, hS _ v hq.2 hv e]
   split at e
   · rename_i h2
     rw [hS u _ hu hq.2 e, ← hpp, hS v _ hv hq.1 (eq_of_beq h2)]
   exact hS u v hu hv e
theorem jv : ∀ {ps : List IP} {ms : List Int}, Ms ms → (∀ p ∈ ps, tin p) → ((∃ m', ps.foldl c5 (some ms) = some m') ∧ cnt (fin ms ps) + ps.length = cnt ms) ∨ (ps.foldl c5 (some ms) = none ∧ cnt ms + 1 ≤ cnt (fin ms ps) + ps.length)
 | [], ms, h, _ => .inl ⟨⟨ms, rfl⟩, rfl⟩
 | p :: r, ms, h, hp => by
   have hq := hp _ (.head _); have hr : ∀ p ∈ r, tin p := fun q hq => hp q (.tail _ hq); have ih := jv (ps := r) (rl_ms h hq) hr; rw [List.foldl_cons, ostep_is, List.length_cons]; show (_ ∧ cnt (fin (rl ms p) r) + _ = _) ∨ (_ ∧ _ ≤ cnt (fin (rl ms p) r) + _)
   by_cases e : ms.getD p.1.toNat 0 = ms.getD p.2.toNat 0
   · right
     rw [if_pos (by rw [e]; exact beq_self_eq_true _), dW]; refine ⟨rfl, ?_⟩; rw [rl_same e] at ih ⊢; rcases ih with ⟨_, h2⟩ | ⟨_, h2⟩ <;> (first | lia | omega)
   rw [if_neg (fun x => e (eq_of_beq x))]; have := cnt_rl h hq e; rcases ih with ⟨h1, h2⟩ | ⟨h1, h2⟩
   · exact .inl ⟨h1, by exact a440 this h2⟩
   exact .inr ⟨h1, by exact a439 this h2⟩
theorem ms0 : Ms (ay 11) := ⟨by decide +kernel, fun c hc => hc⟩
theorem ms0_inj : ∀ u, u < 11 → ∀ v, v < 11 → (ay 11).getD u 0 = (ay 11).getD v 0 → u = v := by decide +kernel
theorem cnt0 : cnt (ay 11) = 11 := by decide +kernel
noncomputable def Conn (ps : List IP) : Prop := ∀ S : Nat → Bool, (∀ p ∈ ps, S p.1.toNat = S p.2.toNat) → ∀ u v, u < 11 → v < 11 → S u = S v
theorem hH {ps : List IP} (h : ∀ p ∈ ps, tin p) : bC ps = true ↔ ps.length = 10 ∧ Conn ps := by
 have hf := jv ms0 h; rw [cnt0] at hf; have hms := fin_ms ms0 h; have e : bC ps = match ps.foldl c5 (some (ay 11)) with | none => false | some _ => ps.length == 10 := rfl
 constructor
 · intro ht; rw [e] at ht; rcases hf with ⟨⟨m', h1⟩, h2⟩ | ⟨h1, _⟩
   · rw [h1] at ht; have h10 : ps.length = 10 := eq_of_beq ht; refine ⟨h10, fun S hS u v hu hv => ?_⟩; refine fR ms0 h hS (fun u v hu hv e => by rw [ms0_inj u hu v hv e]) u v hu hv ?_; have h1 : cnt (fin (ay 11) ps) = 1 := a438 h2 h10
     unfold cnt at h1; obtain ⟨c, hc⟩ := List.length_eq_one_iff.mp h1; have hone : ∀ u, u < 11 → (fin (ay 11) ps).getD u 0 = c := fun u hu => by
       have hm := bI (zs := fin (ay 11) ps) (j := u) (d := 0) (by rw [hms.1]; exact hu); have : (fin (ay 11) ps).getD u 0 ∈ ((ay 11).filter fun c => (fin (ay 11) ps).contains c) := List.mem_filter.mpr ⟨hms.2 _ hm, List.contains_iff_mem.mpr hm⟩; rw [hc] at this; exact mSg this
     rw [hone u hu, hone v hv]
   rw [h1] at ht; cases ht
 rintro ⟨h10, hc⟩; rw [e]; rcases hf with ⟨⟨m', h1⟩, _⟩ | ⟨_, h2⟩
 · rw [h1]; show (ps.length == 10) = true
   rw [h10]; rfl
 exfalso
 have hcon : ∀ u v, u < 11 → v < 11 → (fin (ay 11) ps).getD u 0 = (fin (ay 11) ps).getD v 0 := fun u v hu hv => by
   have := hc (fun w => (fin (ay 11) ps).getD w 0 == (fin (ay 11) ps).getD u 0) (fun p hp => by
     show (_ == _) = (_ == _)
     rw [jx ms0 h p hp]) u v hu hv
   have this : ((fin (ay 11) ps).getD u 0 == (fin (ay 11) ps).getD u 0) = ((fin (ay 11) ps).getD v 0 == (fin (ay 11) ps).getD u 0) := this; rw [beq_self_eq_true] at this; exact (eq_of_beq this.symm).symm
 have h3 : 2 ≤ ((ay 11).filter fun c => (fin (ay 11) ps).contains c).length := by
   have : cnt (fin (ay 11) ps) = ((ay 11).filter fun c => (fin (ay 11) ps).contains c).length := rfl; exact a437 h10 h2 this
 have hnd := range_nodup.filter fun c => (fin (ay 11) ps).contains c; have hmem : ∀ c ∈ ((ay 11).filter fun c => (fin (ay 11) ps).contains c), c = (fin (ay 11) ps).getD 0 0 := fun c hcm => by
   have := List.contains_iff_mem.mp (List.mem_filter.mp hcm).2; obtain ⟨i, hi, rfl⟩ := List.mem_iff_getElem.mp this; have hi' : i < 11 := by rw [hms.1] at hi; exact hi
   rw [← hcon i 0 hi' (by decide), ab, ac hi]; rfl
 match hl : ((ay 11).filter fun c => (fin (ay 11) ps).contains c), h3, hnd, hmem with
 | a :: b :: r, _, hnd, hmem =>
   have h1 := hmem a (.head _); have h2 := hmem b (.tail _ (.head _)); have := (List.nodup_cons.mp hnd).1; exact this (by rw [h1, ← h2]; exact .head _)
 | [a], h3, _, _ => simp at h3
 | [], h3, _, _ => simp at h3
end
section
noncomputable def BT.io : BT → Nat → Nat → Prop
 | .lf i, a, b => i = a ∧ i = b
 | .nd mid l r, a, b => l.io a mid ∧ r.io (mid + 1) b
theorem jr : ∀ {t : Tr} {a b : Nat}, t.io a b → t.toB.io a b
 | .leaf _, _, _, h => h
 | .node _ l r _, _, _, ⟨h1, h2⟩ => ⟨jr h1, jr h2⟩
theorem cg : ∀ {t : BT} {a b : Nat}, t.io a b → a ≤ b
 | .lf _, _, _, ⟨h1, h2⟩ => by exact a394 h1 h2
 | .nd mid l r, _, _, ⟨h1, h2⟩ => by have := cg h1; have := cg h2; exact a393 (by assumption) this
noncomputable def rep (k sub : Nat) : BT → Nat
 | .lf i => i
 | .nd mid l r => match bp k mid with
   | false => rep k sub l
   | true => match bp sub mid with
     | true => rep k sub r
     | false => rep k sub l
noncomputable def eqs (k sub : Nat) : BT → List (Nat × Nat)
 | .lf _ => []
 | .nd mid l r => (match bp k mid with | true => [] | false => [(rep k sub l, rep k sub r)]) ++ (eqs k sub l ++ eqs k sub r)
theorem eR (k sub : Nat) : ∀ {t : BT} {a b : Nat}, t.io a b → rep k sub t ≤ b
 | .lf _, _, _, ⟨h1, h2⟩ => by show _ ≤ _; unfold rep; exact a334 h2
 | .nd mid l r, _, _, ⟨h1, h2⟩ => by
   have := eR k sub h1; have := eR k sub h2; have := cg h2; unfold rep; split
   · exact a393 (by assumption) this
   split <;> (first | lia | omega)
theorem eqs_lt (k sub : Nat) : ∀ {t : BT} {a b : Nat}, t.io a b → ∀ e ∈ eqs k sub t, e.1 ≤ b ∧ e.2 ≤ b
 | .lf _, _, _, _, e, he => by cases he
 | .nd mid l r, _, _, ⟨h1, h2⟩, e, he => by
   have := cg h2; have r1 := eR k sub h1; have r2 := eR k sub h2; unfold eqs at he; rcases mAp he with h | h
   · split at h
     · cases h
     rw [mSg h]; exact ⟨by show _ ≤ _; exact a464 this r1, by show _ ≤ _; exact r2⟩
   rcases mAp h with h | h
   · have := eqs_lt k sub h1 e h; exact a463 (by assumption) this
   exact eqs_lt k sub h2 e h
theorem star_is (b : Bool) : sgS b = aa "*" ↔ b = false := by cases b <;> decide +kernel
noncomputable def fL (k sub mid : Nat) (l r : Int) : List IP := match bp k mid with
 | false => [(6 + (mid : Int), l), (6 + (mid : Int), r)]
 | true => match bp sub mid with
   | true => [(6 + (mid : Int), r)]
   | false => [(6 + (mid : Int), l)]
section
variable {ch : List Int} {sub : Nat} (hch : ∀ mid : Nat, mid < 5 → ch.any (fun x => x == (mid : Int)) = bp sub mid) (k : Nat)
include hch
theorem eC {mid : Nat} (hm : mid < 5) (l r : BT) : ties ch ((BT.nd mid l r).toTr k) = fL k sub mid (l.toTr k).endOf (r.toTr k).endOf ++ (ties ch (l.toTr k) ++ ties ch (r.toTr k)) := by
 show (Tr.ends ch (.node (sgS (k.testBit mid)) (l.toTr k) (r.toTr k) mid)).map (fun e => ((6 + mid : Int), e)) ++ ties ch (l.toTr k) ++ ties ch (r.toTr k) = _
 rw [List.append_assoc]; congr 1
 unfold Tr.ends fL; dsimp only
 rw [hch mid hm, ← aP]; cases hb : bp k mid with
 | false => rw [if_pos ((star_is _).mpr rfl)]; rfl
 | true =>
   rw [if_neg (fun e => by have := (star_is _).mp e; cases this)]
   cases bp sub mid <;> rfl
theorem eD : ∀ {t : BT} {a b : Nat}, t.io a b → b ≤ 5 → (ties ch (t.toTr k)).length + a = b + ((List.range' a (b - a)).filter fun m => !bp k m).length
 | .lf _, a, b, ⟨h1, h2⟩, hb => by
   have : b - a = 0 := a462 h1 h2
   rw [this]; show 0 + a = b + 0
   exact a461 h1 h2
 | .nd mid l r, a, b, ⟨h1, h2⟩, hb => by
   have l1 := cg h1; have l2 := cg h2; have i1 := eD h1 (show mid ≤ 5 by exact gQ hb l2)
   have i2 := eD h2 hb; have e : List.range' a (b - a) = List.range' a (mid - a) ++ (mid :: List.range' (mid + 1) (b - (mid + 1))) := by
     rw [show b - a = (mid - a) + ((b - (mid + 1)) + 1) from by exact a460 l1 l2, ← List.range'_append_1, show a + (mid - a) = mid from by exact a459 l1]
     rfl
   rw [eC hch k (a384 hb l2), e, List.filter_append, List.filter_cons]; simp only [List.length_append]; unfold fL; cases hb : bp k mid with
   | false =>
     rw [if_pos (by rfl)]; simp only [List.length_cons, List.length_nil]; exact a458 i1 i2
   | true =>
     rw [if_neg (by decide)]; cases bp sub mid <;> simp only [List.length_cons, List.length_nil] <;> exact a457 i1 i2
omit hch in
theorem end_lt : ∀ {t : BT} {a b : Nat}, t.io a b → b ≤ 5 → 0 ≤ (t.toTr k).endOf ∧ (t.toTr k).endOf < 11
 | .lf i, a, b, ⟨h1, h2⟩, hb => by show 0 ≤ (i : Int) ∧ (i : Int) < 11; exact a456 h2 hb
 | .nd mid l r, a, b, ⟨h1, h2⟩, hb => by
   have := cg h2; show 0 ≤ 6 + (mid : Int) ∧ 6 + (mid : Int) < 11; exact a455 hb this
theorem fZ : ∀ {t : BT} {a b : Nat}, t.io a b → b ≤ 5 → ∀ p ∈ ties ch (t.toTr k), 0 ≤ p.1 ∧ p.1 < 11 ∧ 0 ≤ p.2 ∧ p.2 < 11
 | .lf _, _, _, _, _, p, hp => by cases hp
 | .nd mid l r, a, b, ⟨h1, h2⟩, hb, p, hp => by
   have l2 := cg h2; rw [eC hch k (a384 hb l2)] at hp; have e1 := end_lt k h1 (gQ hb l2); have e2 := end_lt k h2 hb; rcases mAp hp with h | h
   · unfold fL at h; split at h
     · rcases mCo h with rfl | h
       · exact ⟨by show 0 ≤ 6 + (mid : Int); exact a454, by show 6 + (mid : Int) < 11; exact a453 hb l2, e1⟩
       rw [mSg h]; exact ⟨by show 0 ≤ 6 + (mid : Int); exact a454, by show 6 + (mid : Int) < 11; exact a453 hb l2, e2⟩
     split at h
     · rw [mSg h]; exact ⟨by show 0 ≤ 6 + (mid : Int); exact a454, by show 6 + (mid : Int) < 11; exact a453 hb l2, e2⟩
     rw [mSg h]; exact ⟨by show 0 ≤ 6 + (mid : Int); exact a454, by show 6 + (mid : Int) < 11; exact a453 hb l2, e1⟩
   rcases mAp h with h | h
   · exact fZ h1 (gQ hb l2) p h
   exact fZ h2 hb p h
noncomputable def TOk (S : Nat → Bool) (ps : List IP) : Prop := ∀ p ∈ ps, S p.1.toNat = S p.2.toNat
omit hch in
theorem ok_app {S : Nat → Bool} {a b : List IP} : TOk S (a ++ b) ↔ TOk S a ∧ TOk S b :=
 ⟨fun h => ⟨fun p hp => h p (List.mem_append_left _ hp), fun p hp => h p (List.mem_append_right _ hp)⟩, fun h p hp => (mAp hp).elim (h.1 p) (h.2 p)⟩
omit hch in
theorem dv (mid : Nat) : (6 + (mid : Int)).toNat = 6 + mid := a452
omit hch in
theorem hO {S : Nat → Bool} {mid : Nat} {l r : Int} : TOk S (fL k sub mid l r) ↔ (match bp k mid with | false => S (6 + mid) = S l.toNat ∧ S (6 + mid) = S r.toNat | true => match bp sub mid with | true => S (6 + mid) = S r.toNat | false => S (6 + mid) = S l.toNat) := by
 unfold TOk fL; cases bp k mid with
 | false =>
   simp only [List.mem_cons, List.not_mem_nil, or_false, forall_eq_or_imp, forall_eq, dv]
 | true =>
   cases bp sub mid <;> simp only [List.mem_cons, List.not_mem_nil, or_false, forall_eq, dv]
noncomputable def km (s : Nat → Bool) (es : List (Nat × Nat)) : Prop := ∀ e ∈ es, s e.1 = s e.2
omit hch in
theorem eqok_app {s : Nat → Bool} {a b : List (Nat × Nat)} : km s (a ++ b) ↔ km s a ∧ km s b :=
 ⟨fun h => ⟨fun p hp => h p (List.mem_append_left _ hp), fun p hp => h p (List.mem_append_right _ hp)⟩, fun h p hp => (mAp hp).elim (h.1 p) (h.2 p)⟩
theorem up_A {S : Nat → Bool} : ∀ {t : BT} {a b : Nat}, t.io a b → b ≤ 5 → TOk S (ties ch (t.toTr k)) → S (t.toTr k).endOf.toNat = S (rep k sub t) ∧ km S (eqs k sub t)
 | .lf i, a, b, _, _, h => ⟨rfl, fun e he => by cases he⟩
 | .nd mid l r, a, b, ⟨h1, h2⟩, hb, h => by
   have l2 := cg h2; rw [eC hch k (a384 hb l2), ok_app, ok_app, hO] at h; refine x03 h fun h0 hl hr => ?_; obtain ⟨a1, a2⟩ := up_A h1 (gQ hb l2) hl; obtain ⟨b1, b2⟩ := up_A h2 hb hr; have e0 : ((BT.nd mid l r).toTr k).endOf.toNat = 6 + mid := dv mid; rw [e0]; unfold rep eqs; rw [eqok_app, eqok_app]; cases hbk : bp k mid with
   | false =>
     rw [hbk] at h0; obtain ⟨x, y⟩ := h0; refine ⟨by rw [x, a1], fun e he => ?_, a2, b2⟩; rw [mSg he]; show S (rep k sub l) = S (rep k sub r)
     rw [← a1, ← b1, ← x, ← y]
   | true =>
     rw [hbk] at h0; refine ⟨?_, fun e he => (by cases he), a2, b2⟩
     cases hbs : bp sub mid with
     | true => rw [hbs] at h0; show _ = S (rep k sub r); rw [← b1]; exact h0
     | false => rw [hbs] at h0; show _ = S (rep k sub l); rw [← a1]; exact h0
theorem up_all {S : Nat → Bool} {c : Bool} (hc : ∀ i, i < 6 → S i = c) : ∀ {t : BT} {a b : Nat}, t.io a b → b ≤ 5 → TOk S (ties ch (t.toTr k)) → ∀ m, a ≤ m → m < b → S (6 + m) = c
 | .lf i, a, b, ⟨h1, h2⟩, _, h, m, hm1, hm2 => by (first | lia | omega)
 | .nd mid l r, a, b, ⟨h1, h2⟩, hb, h, m, hm1, hm2 => by
   have l2 := cg h2; have hA := (up_A hch k (t := .nd mid l r) ⟨h1, h2⟩ hb h).1; have e0 : ((BT.nd mid l r).toTr k).endOf.toNat = 6 + mid := dv mid; rw [e0] at hA; have hlt := eR k sub (t := .nd mid l r) ⟨h1, h2⟩; rw [eC hch k (a384 hb l2), ok_app, ok_app] at h; rcases Nat.lt_trichotomy m mid with q | q | q
   · exact up_all hc h1 (gQ hb l2) h.2.1 m hm1 q
   · rw [q, hA]; exact hc _ (a451 hb hlt)
   exact up_all hc h2 hb h.2.2 m (by exact q) hm2
end
noncomputable def eS (k sub : Nat) : BT → Nat → Nat
 | .lf i, _ => i
 | .nd mid l r, m => if m = mid then rep k sub (.nd mid l r) else if m < mid then eS k sub l m else eS k sub r m
section
variable {ch : List Int} {sub : Nat} (hch : ∀ mid : Nat, mid < 5 → ch.any (fun x => x == (mid : Int)) = bp sub mid) (k : Nat)
include hch
theorem down_B {S s : Nat → Bool} (hs : ∀ i, i < 6 → S i = s i) : ∀ {t : BT} {a b : Nat}, t.io a b → b ≤ 5 → (∀ m, a ≤ m → m < b → S (6 + m) = s (eS k sub t m)) → km s (eqs k sub t) → TOk S (ties ch (t.toTr k)) ∧ S (t.toTr k).endOf.toNat = s (rep k sub t)
 | .lf i, a, b, ⟨h1, h2⟩, hb, _, _ => ⟨fun p hp => (by cases hp), hs i (a404 h2 hb)⟩
 | .nd mid l r, a, b, ⟨h1, h2⟩, hb, hm, he => by
   have l1 := cg h1; have l2 := cg h2; have he0 := he; unfold eqs at he; rw [eqok_app, eqok_app] at he; obtain ⟨x1, x2⟩ := down_B hs h1 (gQ hb l2) (fun m q1 q2 => by
     have := hm m q1 (a450 l2 q2); unfold eS at this; rw [if_neg (a25 q2), if_pos q2] at this; exact this) he.2.1
   obtain ⟨y1, y2⟩ := down_B hs h2 hb (fun m q1 q2 => by
     have := hm m (a393 l1 q1) q2; unfold eS at this; rw [if_neg (a449 q1), if_neg (a448 q1)] at this; exact this) he.2.2
   have z := hm mid l1 (by exact l2); unfold eS at z; rw [if_pos rfl] at z; have e0 : ((BT.nd mid l r).toTr k).endOf.toNat = 6 + mid := dv mid; refine ⟨?_, by rw [e0]; exact z⟩; rw [eC hch k (a384 hb l2), ok_app, ok_app, hO]; refine ⟨?_, x1, y1⟩; unfold rep at z; have h0 := he.1; cases hbk : bp k mid with
   | false =>
     rw [hbk] at z h0; have z : S (6 + mid) = s (rep k sub l) := z; have q : s (rep k sub l) = s (rep k sub r) := h0 (rep k sub l, rep k sub r) (List.mem_singleton.mpr rfl); exact ⟨by rw [z, x2], by rw [z, y2, q]⟩
   | true =>
     rw [hbk] at z; cases hbs : bp sub mid with
     | true =>
       rw [hbs] at z; have z : S (6 + mid) = s (rep k sub r) := z; show S (6 + mid) = S (r.toTr k).endOf.toNat
       rw [z, y2]
     | false =>
       rw [hbs] at z; have z : S (6 + mid) = s (rep k sub l) := z; show S (6 + mid) = S (l.toTr k).endOf.toNat
       rw [z, x2]
end
noncomputable def LConn (es : List (Nat × Nat)) : Prop := ∀ s : Nat → Bool, km s es → ∀ i j, i < 6 → j < 6 → s i = s j
noncomputable def il (lks : List (Nat × Nat)) : List IP := lks.map fun p => ((p.1 : Int), (p.2 : Int))
theorem cast_ok {S : Nat → Bool} {lks : List (Nat × Nat)} : TOk S (il lks) ↔ km S lks := by
 unfold TOk km il; constructor
 · intro h e he; exact h _ (List.mem_map.mpr ⟨e, he, rfl⟩)
 intro h p hp; obtain ⟨e, he, rfl⟩ := mMa hp; exact h e he
theorem conn_leaf {ch : List Int} {sub : Nat} (hch : ∀ mid : Nat, mid < 5 → ch.any (fun x => x == (mid : Int)) = bp sub mid) (k : Nat) {t : BT} (ht : t.io 0 5) {lks : List (Nat × Nat)} (hl : ∀ p ∈ lks, p.1 < 6 ∧ p.2 < 6) :
   Conn (il lks ++ ties ch (t.toTr k)) ↔ LConn (lks ++ eqs k sub t) := by
 constructor
 · intro h s hs i j hi hj; obtain ⟨h1, h2⟩ := eqok_app.mp hs; have hS : ∀ i, i < 6 → (fun v => if v < 6 then s v else s (eS k sub t (v - 6))) i = s i := fun i hi => if_pos hi
   have hd := down_B hch k (S := fun v => if v < 6 then s v else s (eS k sub t (v - 6))) hS ht (Nat.le_refl _) (fun m q1 q2 => by
     show (if 6 + m < 6 then _ else s (eS k sub t (6 + m - 6))) = _
     rw [if_neg (a447), show 6 + m - 6 = m from by exact a446]) h2
   have := h _ (ok_app.mpr ⟨cast_ok.mpr fun e he => by
     have := hl e he; show (if e.1 < 6 then _ else _) = (if e.2 < 6 then _ else _)
     rw [if_pos this.1, if_pos this.2]; exact h1 e he, hd.1⟩) i j (a445 hi) (a445 hj)
   have this : (if i < 6 then s i else s (eS k sub t (i - 6))) = if j < 6 then s j else s (eS k sub t (j - 6)) := this
   rw [if_pos hi, if_pos hj] at this; exact this
 intro h S hS u v hu hv; obtain ⟨h1, h2⟩ := ok_app.mp hS; have hA := (up_A hch k ht (Nat.le_refl _) h2).2; have hc := h S (eqok_app.mpr ⟨cast_ok.mp h1, hA⟩); have hall : ∀ u, u < 11 → S u = S 0 := fun u hu => by
   by_cases q : u < 6
   · exact hc u 0 q (by decide)
   have := up_all hch k (c := S 0) (fun i hi => hc i 0 hi (by decide)) ht (Nat.le_refl _) h2 (u - 6) (a444) (a443 hu); rw [show 6 + (u - 6) = u from by exact a442 q] at this
   exact this
 rw [hall u hu, hall v hv]
end
section
noncomputable def fullN : Nat := 18446744073709551615
noncomputable def oneN : Nat := 9223372036854775809
noncomputable def memT : Nat := 39402006187220484750454708497542934602463800840079829649605598604706014092498358646719762390947231045808697390049962
noncomputable def xaN (a : Nat) : Nat := Nat.land (Nat.shiftRight memT (Nat.mul 64 a)) fullN
noncomputable def eqN (a b : Nat) : Nat := Nat.xor (Nat.xor (xaN a) (xaN b)) fullN
noncomputable def FB (k sub : Nat) : BT → Nat
 | .lf _ => fullN
 | .nd mid l r => Nat.land (match bp k mid with | true => fullN | false => eqN (rep k sub l) (rep k sub r)) (Nat.land (FB k sub l) (FB k sub r))
noncomputable def GB : List (Nat × Nat) → Nat
 | [] => fullN
 | p :: r => Nat.land (eqN p.1 p.2) (GB r)
theorem eqN_is : (af 6).all (fun a => (af 6).all fun b => (af 64).all fun X => bp (eqN a b) X == (bp X a == bp X b)) = true := by decide +kernel
theorem full_is : (af 64).all (fun X => bp fullN X) = true := by decide +kernel
theorem one_is : (af 64).all (fun X => bp oneN X == (Nat.beq X 0 || Nat.beq X 63)) = true := by decide +kernel
theorem const_is : (af 64).all (fun X => !((af 6).all fun i => bp X i == bp X 0) || (Nat.beq X 0 || Nat.beq X 63)) = true := by decide +kernel
theorem zero_is : (af 6).all (fun i => !bp 0 i && bp 63 i) = true := by decide +kernel
noncomputable def iJ (a b c d e f : Bool) : Nat := a.toNat + 2 * b.toNat + 4 * c.toNat + 8 * d.toNat + 16 * e.toNat + 32 * f.toNat
theorem mark_of : ∀ a b c d e f : Bool, iJ a b c d e f < 64 ∧ bp (iJ a b c d e f) 0 = a ∧ bp (iJ a b c d e f) 1 = b ∧ bp (iJ a b c d e f) 2 = c ∧ bp (iJ a b c d e f) 3 = d ∧ bp (iJ a b c d e f) 4 = e ∧ bp (iJ a b c d e f) 5 = f := by decide +kernel
theorem mark_ex (s : Nat → Bool) : ∃ X, X < 64 ∧ ∀ i, i < 6 → X.testBit i = s i := by
 refine x07 (mark_of (s 0) (s 1) (s 2) (s 3) (s 4) (s 5)) fun hX h0 h1 h2 h3 h4 h5 => ?_; refine ⟨_, hX, fun i hi => ?_⟩; rw [← aP]; match i, hi with
 | 0, _ => exact h0
 | 1, _ => exact h1
 | 2, _ => exact h2
 | 3, _ => exact h3
 | 4, _ => exact h4
 | 5, _ => exact h5
theorem eqN_bit {a b X : Nat} (ha : a < 6) (hb : b < 6) (hX : X < 64) : (eqN a b).testBit X = true ↔ X.testBit a = X.testBit b := by
 have := ap (ap (ap eqN_is ha) hb) hX; rw [beq_iff_eq, aP, aP, aP] at this; rw [this, beq_iff_eq]
theorem gD {X : Nat} (hX : X < 64) : fullN.testBit X = true := by rw [← aP]; exact ap full_is hX
theorem FB_bit (k sub : Nat) {X : Nat} (hX : X < 64) : ∀ {t : BT} {a b : Nat}, t.io a b → b ≤ 5 → ((FB k sub t).testBit X = true ↔ km X.testBit (eqs k sub t))
 | .lf i, a, b, _, _ => ⟨fun kq e he => (by cases he), fun kq => gD hX⟩
 | .nd mid l r, a, b, ⟨h1, h2⟩, hb => by
   have l2 := cg h2; unfold FB eqs; rw [cB, cB, eqok_app, eqok_app, Bool.and_eq_true, Bool.and_eq_true, FB_bit k sub hX h1 (gQ hb l2), FB_bit k sub hX h2 hb]; refine and_congr_left fun kq => ?_; cases bp k mid with
   | true => exact ⟨fun kq e he => (by cases he), fun kq => gD hX⟩
   | false =>
     have r1 := eR k sub h1; have r2 := eR k sub h2; show (eqN _ _).testBit X = true ↔ _
     rw [eqN_bit (a471 hb l2 r1) (a451 hb r2) hX]; constructor
     · intro h e he; rw [mSg he]; exact h
     intro h; exact h (rep k sub l, rep k sub r) (List.mem_singleton.mpr rfl)
theorem GB_bit {X : Nat} (hX : X < 64) : ∀ {lks : List (Nat × Nat)}, (∀ p ∈ lks, p.1 < 6 ∧ p.2 < 6) → ((GB lks).testBit X = true ↔ km X.testBit lks)
 | [], _ => ⟨fun kq e he => (by cases he), fun kq => gD hX⟩
 | p :: r, h => by
   have hp := h p (.head _); show (Nat.land (eqN p.1 p.2) (GB r)).testBit X = true ↔ _
   rw [cB, Bool.and_eq_true, GB_bit hX (fun q hq => h q (.tail _ hq)), eqN_bit hp.1 hp.2 hX]; constructor
   · rintro ⟨h1, h2⟩ e he; rcases mCo he with rfl | he
     · exact h1
     exact h2 e he
   intro h; exact ⟨h p (.head _), fun e he => h e (.tail _ he)⟩
theorem full_lt : fullN < 2 ^ 64 := by decide +kernel
theorem one_lt : oneN < 2 ^ 64 := by decide +kernel
theorem GB_high {X : Nat} (hX : 64 ≤ X) : ∀ lks, (GB lks).testBit X = false
 | [] => Nat.testBit_lt_two_pow (Nat.lt_of_lt_of_le full_lt (Nat.pow_le_pow_right (by decide) hX))
 | p :: r => by
   show (Nat.land (eqN p.1 p.2) (GB r)).testBit X = false
   rw [cB, GB_high hX r, Bool.and_false]
theorem leaf_conn (k sub : Nat) {t : BT} (ht : t.io 0 5) {lks : List (Nat × Nat)} (hl : ∀ p ∈ lks, p.1 < 6 ∧ p.2 < 6) : LConn (lks ++ eqs k sub t) ↔ Nat.beq (Nat.land (FB k sub t) (GB lks)) oneN = true := by
 have hbit : ∀ X, X < 64 → ((Nat.land (FB k sub t) (GB lks)).testBit X = true ↔ km X.testBit (lks ++ eqs k sub t)) := fun X hX => by
   rw [cB, Bool.and_eq_true, FB_bit k sub hX ht (Nat.le_refl _), GB_bit hX hl, eqok_app]; exact and_comm
 have hin : ∀ e ∈ lks ++ eqs k sub t, e.1 < 6 ∧ e.2 < 6 := fun e he => by
   rcases mAp he with h | h
   · exact hl e h
   have := eqs_lt k sub ht e h; exact a470 this
 have hone : ∀ X, X < 64 → (oneN.testBit X = true ↔ X = 0 ∨ X = 63) := fun X hX => by
   have := ap one_is hX; rw [beq_iff_eq, aP] at this; rw [this, Bool.or_eq_true, Nat.beq_eq, Nat.beq_eq]
 have h0 : ∀ X, (X = 0 ∨ X = 63) → ∀ i j, i < 6 → j < 6 → X.testBit i = X.testBit j := fun X hX i j hi hj => by
   have a := Bool.and_eq_true_iff.mp (ap zero_is hi); have b := Bool.and_eq_true_iff.mp (ap zero_is hj); rw [aP, aP] at a b; rcases hX with rfl | rfl
   · rw [Bool.not_eq_true'] at a b; rw [a.1, b.1]
   rw [a.2, b.2]
 constructor
 · intro h; rw [Nat.beq_eq]; refine Nat.eq_of_testBit_eq fun X => ?_; by_cases hX : X < 64
   · rw [Bool.eq_iff_iff, hbit X hX, hone X hX]; constructor
     · intro hs; have hc := h _ hs; have := ap const_is hX; rw [Bool.or_eq_true, Bool.or_eq_true, Nat.beq_eq, Nat.beq_eq] at this; rcases this with q | q
       · exfalso
         rw [Bool.not_eq_true', ← Bool.not_eq_true] at q; refine q (List.all_eq_true.mpr fun i hi => ?_); rw [beq_iff_eq, aP, aP]; exact hc i 0 (List.mem_range.mp hi) (by decide)
       exact q
     intro hx e he; have := hin e he; exact h0 X hx _ _ this.1 this.2
   rw [cB, GB_high (a469 hX), Bool.and_false]; exact (Nat.testBit_lt_two_pow (Nat.lt_of_lt_of_le one_lt (Nat.pow_le_pow_right (by decide) (a469 hX)))).symm
 intro h s hs i j hi hj; have h := Nat.eq_of_beq_eq_true h; refine x12 (mark_ex s) fun X hX hXs => ?_; have : km X.testBit (lks ++ eqs k sub t) := fun e he => by
   have q := hin e he; rw [hXs _ q.1, hXs _ q.2]; exact hs e he
 have := (hbit X hX).mpr this; rw [h, hone X hX] at this; rw [← hXs i hi, ← hXs j hj]; exact h0 X this i j hi hj
noncomputable def subsT : List (List Nat) := [[0, 1, 2, 3, 4, 5, 6, 7], [0, 1, 2, 3, 8, 9, 10, 11], [0, 1, 4, 5, 8, 9, 12, 13], [0, 2, 4, 6, 8, 10, 12, 14], [0, 1, 2, 3, 16, 17, 18, 19], [0, 1, 4, 5, 16, 17, 20, 21], [0, 2, 4, 6, 16, 18, 20, 22], [0, 1, 8, 9, 16, 17, 24, 25], [0, 2, 8, 10, 16, 18, 24, 26], [0, 4, 8, 12, 16, 20, 24, 28], [0, 1, 2, 3], [0, 2, 4, 6, 8, 10, 12, 14, 16, 18, 20, 22, 24, 26, 28, 30]]
theorem subs_is : (af 12).all (fun i => (af (2 ^ (az (ao i)).length)).map (bT (ao i)) == subsT.getD i []) = true := by decide +kernel
theorem ik : (af 12).all (fun i => (af (2 ^ (az (ao i)).length)).all fun ch => (af 5).all fun mid => ((chosen (ao i) ch).any fun x => x == (mid : Int)) == bp (bT (ao i) ch) mid) = true := by decide +kernel
theorem zeros_is : (af 12).all (fun i => Nat.beq ((List.range' 0 5).filter fun m => !bp (ao i) m).length 2 == Nat.blt i 10) = true := by decide +kernel
theorem pow_pos2 (n : Nat) : 0 < 2 ^ n := Nat.pow_pos (by decide)
theorem net_is {i : Nat} (hi : i < 12) {t : BT} (ht : t.io 0 5) {lks : List (Nat × Nat)} (hl3 : lks.length = 3) (hl : ∀ p ∈ lks, p.1 < 6 ∧ p.2 < 6) :
   bf lks (t.toTr (ao i)) (ao i) (2 ^ (az (ao i)).length) = (Nat.blt i 10 && (subsT.getD i []).all fun sub => Nat.beq (Nat.land (FB (ao i) sub t) (GB lks)) oneN) := by
 have hs := eq_of_beq (ap subs_is hi); rw [← hs, List.all_map]; unfold bf; have hone : ∀ ch, ch < 2 ^ (az (ao i)).length → bC ((lks.map fun p => ((p.1 : Int), (p.2 : Int))) ++ ties (chosen (ao i) ch) (t.toTr (ao i))) = (Nat.blt i 10 && Nat.beq (Nat.land (FB (ao i) (bT (ao i) ch) t) (GB lks)) oneN) := fun ch hch => by
   have hc : ∀ mid : Nat, mid < 5 → (chosen (ao i) ch).any (fun x => x == (mid : Int)) = bp (bT (ao i) ch) mid := fun mid hm => eq_of_beq (ap (ap (ap ik hi) hch) hm); have htin : ∀ p ∈ il lks ++ ties (chosen (ao i) ch) (t.toTr (ao i)), tin p := fun p hp => by
     rcases mAp hp with h | h
     · obtain ⟨e, he, rfl⟩ := mMa h; have := hl e he; exact ⟨by show (e.1 : Int).toNat < 11; exact a468 this, by show (e.2 : Int).toNat < 11; exact a467 this⟩
     have := fZ hc (ao i) ht (Nat.le_refl _) p h; exact ⟨by exact a466 this, by exact a465 this⟩
   have hlen := eD hc (ao i) ht (Nat.le_refl _); have hz := eq_of_beq (ap zeros_is hi); have hlen2 : (il lks ++ ties (chosen (ao i) ch) (t.toTr (ao i))).length = 10 ↔ Nat.blt i 10 = true := by
     rw [← hz, Nat.beq_eq, List.length_append, show (il lks).length = 3 from by unfold il; rw [am, hl3]]
     have e5 : 5 - 0 = 5 := rfl; rw [e5] at hlen; (first | lia | omega)
   show bC (il lks ++ _) = _
   rw [Bool.eq_iff_iff, hH htin, hlen2, conn_leaf hc (ao i) ht hl, leaf_conn (ao i) _ ht hl, Bool.and_eq_true]
 have e1 : ((af (2 ^ (az (ao i)).length)).all fun ch => bC ((lks.map fun p => ((p.1 : Int), (p.2 : Int))) ++ ties (chosen (ao i) ch) (t.toTr (ao i)))) = ((af (2 ^ (az (ao i)).length)).all fun ch => (Nat.blt i 10 && Nat.beq (Nat.land (FB (ao i) (bT (ao i) ch) t) (GB lks)) oneN)) := by
   rw [Bool.eq_iff_iff, List.all_eq_true, List.all_eq_true]; exact forall_congr' fun ch => forall_congr' fun h => by rw [hone ch (List.mem_range.mp h)]
 rw [e1]; cases hb : Nat.blt i 10 with
 | true => simp only [Bool.true_and]; rfl
 | false =>
   rw [Bool.false_and, ← Bool.not_eq_true, List.all_eq_true]; intro h; have := h 0 (List.mem_range.mpr (pow_pos2 _)); simp at this
end
section
noncomputable def seqN {α : Type} (x : Nat) (f : Nat → α) : α := match x with
 | 0 => f 0
 | m + 1 => f (m + 1)
theorem iB {α : Type} (x : Nat) (f : Nat → α) : seqN x f = f x := by cases x <;> rfl
noncomputable def fQ {α : Type} : List Nat → (List Nat → α) → α
 | [], c => c []
 | x :: r, c => seqN x fun y => fQ r fun s => c (y :: s)
theorem ff {α : Type} : ∀ (l : List Nat) (c : List Nat → α), fQ l c = c l
 | [], c => rfl
 | x :: r, c => by
   unfold fQ; rw [iB, ff r]
noncomputable def eqBT : BT → BT → Bool
 | .lf i, .lf j => Nat.beq i j
 | .nd m l r, .nd m' l' r' => Nat.beq m m' && eqBT l l' && eqBT r r'
 | _, _ => false
theorem iT : ∀ {a b : BT}, eqBT a b = true → a = b
 | .lf i, .lf j, h => by rw [Nat.eq_of_beq_eq_true h]
 | .nd m l r, .nd m' l' r', h => by
   obtain ⟨h1, h3⟩ := Bool.and_eq_true_iff.mp h; obtain ⟨h1, h2⟩ := Bool.and_eq_true_iff.mp h1; rw [Nat.eq_of_beq_eq_true h1, iT h2, iT h3]
noncomputable def shp : List BT := [
 .nd 4 (.nd 3 (.nd 2 (.nd 1 (.nd 0 (.lf 0) (.lf 1)) (.lf 2)) (.lf 3)) (.lf 4)) (.lf 5),
 .nd 4 (.nd 3 (.nd 2 (.nd 0 (.lf 0) (.nd 1 (.lf 1) (.lf 2))) (.lf 3)) (.lf 4)) (.lf 5),
 .nd 4 (.nd 3 (.nd 1 (.nd 0 (.lf 0) (.lf 1)) (.nd 2 (.lf 2) (.lf 3))) (.lf 4)) (.lf 5),
 .nd 4 (.nd 2 (.nd 1 (.nd 0 (.lf 0) (.lf 1)) (.lf 2)) (.nd 3 (.lf 3) (.lf 4))) (.lf 5),
 .nd 3 (.nd 2 (.nd 1 (.nd 0 (.lf 0) (.lf 1)) (.lf 2)) (.lf 3)) (.nd 4 (.lf 4) (.lf 5)),
 .nd 4 (.nd 3 (.nd 0 (.lf 0) (.nd 2 (.nd 1 (.lf 1) (.lf 2)) (.lf 3))) (.lf 4)) (.lf 5),
 .nd 4 (.nd 3 (.nd 0 (.lf 0) (.nd 1 (.lf 1) (.nd 2 (.lf 2) (.lf 3)))) (.lf 4)) (.lf 5),
 .nd 4 (.nd 2 (.nd 0 (.lf 0) (.nd 1 (.lf 1) (.lf 2))) (.nd 3 (.lf 3) (.lf 4))) (.lf 5),
 .nd 3 (.nd 2 (.nd 0 (.lf 0) (.nd 1 (.lf 1) (.lf 2))) (.lf 3)) (.nd 4 (.lf 4) (.lf 5)),
 .nd 4 (.nd 1 (.nd 0 (.lf 0) (.lf 1)) (.nd 3 (.nd 2 (.lf 2) (.lf 3)) (.lf 4))) (.lf 5),
 .nd 4 (.nd 1 (.nd 0 (.lf 0) (.lf 1)) (.nd 2 (.lf 2) (.nd 3 (.lf 3) (.lf 4)))) (.lf 5),
 .nd 3 (.nd 1 (.nd 0 (.lf 0) (.lf 1)) (.nd 2 (.lf 2) (.lf 3))) (.nd 4 (.lf 4) (.lf 5)),
 .nd 2 (.nd 1 (.nd 0 (.lf 0) (.lf 1)) (.lf 2)) (.nd 4 (.nd 3 (.lf 3) (.lf 4)) (.lf 5)),
 .nd 2 (.nd 1 (.nd 0 (.lf 0) (.lf 1)) (.lf 2)) (.nd 3 (.lf 3) (.nd 4 (.lf 4) (.lf 5))),
 .nd 4 (.nd 0 (.lf 0) (.nd 3 (.nd 2 (.nd 1 (.lf 1) (.lf 2)) (.lf 3)) (.lf 4))) (.lf 5),
 .nd 4 (.nd 0 (.lf 0) (.nd 3 (.nd 1 (.lf 1) (.nd 2 (.lf 2) (.lf 3))) (.lf 4))) (.lf 5),
 .nd 4 (.nd 0 (.lf 0) (.nd 2 (.nd 1 (.lf 1) (.lf 2)) (.nd 3 (.lf 3) (.lf 4)))) (.lf 5),
 .nd 3 (.nd 0 (.lf 0) (.nd 2 (.nd 1 (.lf 1) (.lf 2)) (.lf 3))) (.nd 4 (.lf 4) (.lf 5)),
 .nd 4 (.nd 0 (.lf 0) (.nd 1 (.lf 1) (.nd 3 (.nd 2 (.lf 2) (.lf 3)) (.lf 4)))) (.lf 5),
 .nd 4 (.nd 0 (.lf 0) (.nd 1 (.lf 1) (.nd 2 (.lf 2) (.nd 3 (.lf 3) (.lf 4))))) (.lf 5),
 .nd 3 (.nd 0 (.lf 0) (.nd 1 (.lf 1) (.nd 2 (.lf 2) (.lf 3)))) (.nd 4 (.lf 4) (.lf 5)),
 .nd 2 (.nd 0 (.lf 0) (.nd 1 (.lf 1) (.lf 2))) (.nd 4 (.nd 3 (.lf 3) (.lf 4)) (.lf 5)),
 .nd 2 (.nd 0 (.lf 0) (.nd 1 (.lf 1) (.lf 2))) (.nd 3 (.lf 3) (.nd 4 (.lf 4) (.lf 5))),
 .nd 1 (.nd 0 (.lf 0) (.lf 1)) (.nd 4 (.nd 3 (.nd 2 (.lf 2) (.lf 3)) (.lf 4)) (.lf 5)),
 .nd 1 (.nd 0 (.lf 0) (.lf 1)) (.nd 4 (.nd 2 (.lf 2) (.nd 3 (.lf 3) (.lf 4))) (.lf 5)),
 .nd 1 (.nd 0 (.lf 0) (.lf 1)) (.nd 3 (.nd 2 (.lf 2) (.lf 3)) (.nd 4 (.lf 4) (.lf 5))),
 .nd 1 (.nd 0 (.lf 0) (.lf 1)) (.nd 2 (.lf 2) (.nd 4 (.nd 3 (.lf 3) (.lf 4)) (.lf 5))),
 .nd 1 (.nd 0 (.lf 0) (.lf 1)) (.nd 2 (.lf 2) (.nd 3 (.lf 3) (.nd 4 (.lf 4) (.lf 5)))),
 .nd 0 (.lf 0) (.nd 4 (.nd 3 (.nd 2 (.nd 1 (.lf 1) (.lf 2)) (.lf 3)) (.lf 4)) (.lf 5)),
 .nd 0 (.lf 0) (.nd 4 (.nd 3 (.nd 1 (.lf 1) (.nd 2 (.lf 2) (.lf 3))) (.lf 4)) (.lf 5)),
 .nd 0 (.lf 0) (.nd 4 (.nd 2 (.nd 1 (.lf 1) (.lf 2)) (.nd 3 (.lf 3) (.lf 4))) (.lf 5)),
 .nd 0 (.lf 0) (.nd 3 (.nd 2 (.nd 1 (.lf 1) (.lf 2)) (.lf 3)) (.nd 4 (.lf 4) (.lf 5))),
 .nd 0 (.lf 0) (.nd 4 (.nd 1 (.lf 1) (.nd 3 (.nd 2 (.lf 2) (.lf 3)) (.lf 4))) (.lf 5)),
 .nd 0 (.lf 0) (.nd 4 (.nd 1 (.lf 1) (.nd 2 (.lf 2) (.nd 3 (.lf 3) (.lf 4)))) (.lf 5)),
 .nd 0 (.lf 0) (.nd 3 (.nd 1 (.lf 1) (.nd 2 (.lf 2) (.lf 3))) (.nd 4 (.lf 4) (.lf 5))),
 .nd 0 (.lf 0) (.nd 2 (.nd 1 (.lf 1) (.lf 2)) (.nd 4 (.nd 3 (.lf 3) (.lf 4)) (.lf 5))),
 .nd 0 (.lf 0) (.nd 2 (.nd 1 (.lf 1) (.lf 2)) (.nd 3 (.lf 3) (.nd 4 (.lf 4) (.lf 5)))),
 .nd 0 (.lf 0) (.nd 1 (.lf 1) (.nd 4 (.nd 3 (.nd 2 (.lf 2) (.lf 3)) (.lf 4)) (.lf 5))),
 .nd 0 (.lf 0) (.nd 1 (.lf 1) (.nd 4 (.nd 2 (.lf 2) (.nd 3 (.lf 3) (.lf 4))) (.lf 5))),
 .nd 0 (.lf 0) (.nd 1 (.lf 1) (.nd 3 (.nd 2 (.lf 2) (.lf 3)) (.nd 4 (.lf 4) (.lf 5)))),
 .nd 0 (.lf 0) (.nd 1 (.lf 1) (.nd 2 (.lf 2) (.nd 4 (.nd 3 (.lf 3) (.lf 4)) (.lf 5)))),
 .nd 0 (.lf 0) (.nd 1 (.lf 1) (.nd 2 (.lf 2) (.nd 3 (.lf 3) (.nd 4 (.lf 4) (.lf 5)))))]
noncomputable def shpIx : List Nat := [0, 1, 2, 3, 4, 2, 5, 6, 7, 8, 3, 7, 9, 10, 11, 4, 8, 11, 12, 13, 3, 7, 9, 10, 11, 9, 14, 15, 16, 17, 10, 16, 18, 19, 20, 11, 17, 20, 21, 22, 4, 8, 11, 12, 13, 11, 17, 20, 21, 22, 12, 21, 23, 24, 25, 13, 22, 25, 26, 27, 4, 8, 11, 12, 13, 11, 17, 20, 21, 22, 12, 21, 23, 24, 25, 13, 22, 25, 26, 27, 12, 21, 23, 24, 25, 23, 28, 29, 30, 31, 24, 30, 32, 33, 34, 25, 31, 34, 35, 36, 13, 22, 25, 26, 27, 25, 31, 34, 35, 36, 26, 35, 37, 38, 39, 27, 36, 39, 40, 41]
theorem shape_is : (af 120).all (fun g => eqBT (ba g).toB (shp.getD (shpIx.getD g 42) default) && Nat.blt (shpIx.getD g 42) 42) = true := by decide +kernel
noncomputable def gT : List Nat := [10378826816252055561, 10376303437075709961, 10376294160087908361, 9520891087237973025, 9511638696898854945, 9511602980495818785, 9385783098416857665, 9241421688590303745, 9241395249175069185, 9367558693194956865, 9232449673707521025, 9225694223129513985, 9367487784366899265, 9232388041867265025, 9225659030704492545]
noncomputable def flatC : Nat := 20549
noncomputable def laneOk (p q u : Nat) (net : Bool) : Bool := (bp p u == net) && (bp q u == (net && bp flatC u))
noncomputable def gM (i : Nat) (b : BT) : Bool :=
 seqN (ao i) fun k => seqN (prvM k false 5 [b]) fun p => seqN (prvM k true 5 [b]) fun q => fQ ((subsT.getD i []).map fun s => FB k s b) fun Fs =>
   (af 15).all fun u => seqN (gT.getD u 0) fun G => laneOk p q u (Nat.blt i 10 && Fs.all fun F => Nat.beq (Nat.land F G) oneN)
theorem check_0 : (af 6).all (fun j => (af 12).all fun i => gM i (shp.getD (0 + j) default)) = true := by decide +kernel
theorem check_1 : (af 6).all (fun j => (af 12).all fun i => gM i (shp.getD (6 + j) default)) = true := by decide +kernel
theorem check_2 : (af 6).all (fun j => (af 12).all fun i => gM i (shp.getD (12 + j) default)) = true := by decide +kernel
theorem check_3 : (af 6).all (fun j => (af 12).all fun i => gM i (shp.getD (18 + j) default)) = true := by decide +kernel
theorem check_4 : (af 6).all (fun j => (af 12).all fun i => gM i (shp.getD (24 + j) default)) = true := by decide +kernel
theorem check_5 : (af 6).all (fun j => (af 12).all fun i => gM i (shp.getD (30 + j) default)) = true := by decide +kernel
theorem check_6 : (af 6).all (fun j => (af 12).all fun i => gM i (shp.getD (36 + j) default)) = true := by decide +kernel
theorem check_all {j : Nat} (hj : j < 42) {i : Nat} (hi : i < 12) : gM i (shp.getD j default) = true := by
 have e : j = 6 * (j / 6) + j % 6 := a475
 have h6 : j % 6 < 6 := a474
 rw [e]; have hq := a473 hj; generalize j / 6 = q at hq ⊢; cases q with
 | zero => exact ap (ap check_0 h6) hi
 | succ q =>
   replace hq := Nat.lt_of_succ_lt_succ hq; revert q
   exact lt6 (ap (ap check_1 h6) hi) (ap (ap check_2 h6) hi) (ap (ap check_3 h6) hi) (ap (ap check_4 h6) hi) (ap (ap check_5 h6) hi) (ap (ap check_6 h6) hi)
theorem io_lv : ∀ {t : BT} {a b : Nat}, t.io a b → ∀ i ∈ t.lv, i ≤ b
 | .lf _, _, _, ⟨h1, h2⟩, i, hi => by rw [mSg hi]; exact a334 h2
 | .nd mid l r, _, _, ⟨h1, h2⟩, i, hi => by
   have := cg h2; rcases mAp hi with h | h
   · have := io_lv h1 i h; exact a464 (by assumption) this
   exact io_lv h2 i h
theorem heart {rd : List Str} {u : Nat} (hu : u < 15) (T : Tie rd u) {lks : List (Nat × Nat)} (hl3 : lks.length = 3) (hl : ∀ p ∈ lks, p.1 < 6 ∧ p.2 < 6) (hG : GB lks = gT.getD u 0) (hF : dH rd lks = bp flatC u) {g i : Nat} (hg : g < 120) (hi : i < 12) :
   prv rd false 5 [aQ g (ao i)] = bf lks (aQ g (ao i)) (ao i) (2 ^ (az (ao i)).length) ∧ prv rd true 5 [aQ g (ao i)] = (bf lks (aQ g (ao i)) (ao i) (2 ^ (az (ao i)).length) && dH rd lks) := by
 obtain ⟨h1, h2⟩ := Bool.and_eq_true_iff.mp (ap shape_is hg); have hB := iT h1; have hj : shpIx.getD g 42 < 42 := Nat.blt_eq.mp h2; have hio := jr (bO hg); have ht : aQ g (ao i) = (ba g).toB.toTr (ao i) := (ej (ao i) (ba g)).symm; have hc := check_all hj hi; rw [← hB] at hc; have hsix : six [(ba g).toB] := fun x hx => by
   have := io_lv hio x (by simpa [lvL] using hx); exact a472 this
 rw [ht, net_is hi hio hl3 hl, hG, hF]; unfold gM at hc; simp only [iB, ff] at hc; have hc := ap hc hu; unfold laneOk at hc; obtain ⟨c1, c2⟩ := Bool.and_eq_true_iff.mp hc; have c1 := eq_of_beq c1; have c2 := eq_of_beq c2; rw [aP, List.all_map] at c1 c2; have p1 := iE hu T (ao i) false 5 [(ba g).toB] hsix; have p2 := iE hu T (ao i) true 5 [(ba g).toB] hsix; rw [c1] at p1; rw [c2] at p2; exact ⟨p1.symm, p2.symm⟩
end
section
noncomputable def muT : Nat := 1451746566778088242599088568523332619014506143825780906322095584581826596990181907562215893305509662988658941558033930729729069548186026958608182895496922984762799038065080726500328819400738992480751504787725573698520784357782967970448041696791670530800648880670681214828149610418509752442010756419500058384204790950022796497167531530413446949167707239341113986602390865404838724532930119436969534292918155722827606992520730505869540750581463893069472469766322922710802842246009391058202324987871630094025505313513625856570051156445863306346714100155005323115533271656778750610098521621074021755103462239475869454271489857365487938002882294240692468626845678720439926582571028232731716053610747986207961227289075177852466997942429290770367725918059438739960048269177774848927029518633893594249131743357629183637275677483802191994686220727697863205365311443301066240
noncomputable def hU (o : Nat) : Nat := Nat.land (Nat.shiftRight muT (Nat.mul 4 o)) 15
noncomputable def flT : Nat := 135754164466997777687171157
noncomputable def fJ (P : List Nat) (c : Nat) : List Nat := (af 6).filter fun j => Nat.beq (Nat.div (P.getD j 6) 2) c
noncomputable def pairOf : List Nat → Nat × Nat
 | [p, q] => (p, q)
 | _ => (6, 6)
noncomputable def pairOk (M : List Nat) : List Nat → Bool
 | [p, q] => Nat.blt p q && Nat.blt q 6 && Nat.beq (M.getD p 6) q
 | _ => false
noncomputable def lksP (P : List Nat) : List (Nat × Nat) := (af 3).map fun c => pairOf (fJ P c)
noncomputable def dz (o : Nat) : List (Nat × Nat) := lksP (aI o)
noncomputable def okP (P : List Nat) (u : Nat) (M : List Nat) : Bool :=
 Nat.blt u 15 && ((af 6).all fun i => (af 6).all fun j => Nat.beq (P.getD j 6) (Nat.xor (P.getD i 6) 1) == Nat.beq j (M.getD i 6)) &&
 ((af 3).all fun c => pairOk M (fJ P c)) && Nat.beq (GB (lksP P)) (gT.getD u 0) && ((lksP P).all fun p => bp flT (Nat.add (Nat.mul 6 u) p.1)) == bp flatC u
noncomputable def okO (o : Nat) : Bool := fQ (aI o) fun P => seqN (hU o) fun u => fQ (mateT.getD u []) fun M => okP P u M
theorem ok_0 : (af 120).all (fun o => okO o) = true := by decide +kernel
theorem ok_1 : (af 120).all (fun o => okO (120 + o)) = true := by decide +kernel
theorem ok_2 : (af 120).all (fun o => okO (240 + o)) = true := by decide +kernel
theorem ok_3 : (af 120).all (fun o => okO (360 + o)) = true := by decide +kernel
theorem ok_4 : (af 120).all (fun o => okO (480 + o)) = true := by decide +kernel
theorem ok_5 : (af 120).all (fun o => okO (600 + o)) = true := by decide +kernel
end
section
theorem okO_all {o : Nat} (ho : o < 720) : okP (aI o) (hU o) (mateT.getD (hU o) []) = true := by
 have h : okO o = true := by
   have e : o = 120 * (o / 120) + o % 120 := a485
   have h6 : o % 120 < 120 := a484
   rw [e]; have hq := a483 ho; generalize o % 120 = r at h6 ⊢; generalize o / 120 = q at hq ⊢; revert q
   exact lt6 (by rw [Nat.mul_zero, Nat.zero_add]; exact ap ok_0 h6) (ap ok_1 h6) (ap ok_2 h6) (ap ok_3 h6) (ap ok_4 h6) (ap ok_5 h6)
 unfold okO at h; simp only [iB, ff] at h; exact h
theorem rd_get {o : Nat} (ho : o < 720) {i : Nat} (hi : i < 6) : (cY o).getD i ak = bk ((aI o).getD i 6) := by
 have hl : i < (aI o).length := by rw [b9 ho]; exact hi
 unfold cY; rw [ab, List.getElem?_map, ac hl, ab, ac hl]; rfl
theorem swap_is : ∀ x, x < 6 → ∀ y, y < 6 → (bk y == Txt.swapcase (bk x)) = Nat.beq y (Nat.xor x 1) := by decide +kernel
structure Ord (o : Nat) : Prop where
 u15 : hU o < 15
 tie : Tie (cY o) (hU o)
 pair : ∀ c, c < 3 → ∃ p q, fJ (aI o) c = [p, q] ∧ p < q ∧ q < 6 ∧ mt (hU o) p = q
 mark : GB (dz o) = gT.getD (hU o) 0
 flat : ((dz o).all fun p => bp flT (Nat.add (Nat.mul 6 (hU o)) p.1)) = bp flatC (hU o)
theorem pair_of {M l : List Nat} (h : pairOk M l = true) : ∃ p q, l = [p, q] ∧ p < q ∧ q < 6 ∧ M.getD p 6 = q := by
 unfold pairOk at h; split at h
 · rename_i p q
   obtain ⟨h1, h3⟩ := Bool.and_eq_true_iff.mp h; obtain ⟨h1, h2⟩ := Bool.and_eq_true_iff.mp h1; exact ⟨p, q, rfl, Nat.blt_eq.mp h1, Nat.blt_eq.mp h2, Nat.eq_of_beq_eq_true h3⟩
 cases h
theorem dt {o : Nat} (ho : o < 720) : Ord o := by
 have h := okO_all ho; unfold okP at h; simp only [Bool.and_eq_true] at h; obtain ⟨⟨⟨⟨h1, h2⟩, h3⟩, h4⟩, h5⟩ := h; refine ⟨Nat.blt_eq.mp h1, fun i hi j hj => ?_, fun c hc => pair_of (ap h3 hc), Nat.eq_of_beq_eq_true h4, eq_of_beq h5⟩; rw [rd_get ho hi, rd_get ho hj, swap_is _ (bw ho hi) _ (bw ho hj)]; exact eq_of_beq (ap (ap h2 hi) hj)
theorem lks_get {o c : Nat} (hc : c < 3) : (dz o)[c]? = some (pairOf (fJ (aI o) c)) := by
 unfold dz lksP; rw [List.getElem?_map, List.getElem?_range hc]; rfl
theorem lks3 (o : Nat) : (dz o).length = 3 := rfl
theorem lks_mem {o : Nat} (ho : o < 720) : ∀ p ∈ dz o, p.1 < p.2 ∧ p.2 < 6 ∧ mt (hU o) p.1 = p.2 := by
 intro p hp; obtain ⟨c, hc, rfl⟩ := mMa hp; refine x24 ((dt ho).pair c (List.mem_range.mp hc)) fun a b h1 h2 h3 h4 => ?_; rw [h1]; exact ⟨h2, h3, h4⟩
theorem lks_lt {o : Nat} (ho : o < 720) : ∀ p ∈ dz o, p.1 < 6 ∧ p.2 < 6 := fun p hp => by
 have := lks_mem ho p hp; exact a481 this
noncomputable def rowS (u : Nat) : Str := Txt.join (aa "") ((af 6).map fun j => if Nat.blt (mt u j) j then aa ")" else aa "(")
theorem row_is {o : Nat} (ho : o < 720) : eQ (cY o) = rowS (hU o) := by
 have O := dt ho; unfold eQ rowS aO; rw [eb ho]; congr 1
 refine List.map_congr_left fun j hj => ?_; have hj := List.mem_range.mp hj; have e : ((cY o).take j).any (· == Txt.swapcase ((cY o).getD j ak)) = Nat.blt (mt (hU o) j) j := by
   rw [Bool.eq_iff_iff, List.any_eq_true, Nat.blt_eq]; constructor
   · rintro ⟨x, hx, hxe⟩; obtain ⟨i, hi, rfl⟩ := List.mem_iff_getElem.mp hx; have hij : i < j ∧ i < 6 := by rw [List.length_take, eb ho] at hi; exact a480 hi
     rw [List.getElem_take] at hxe; have := O.tie j hj i hij.2; rw [ab, ac (by rw [eb ho]; exact hij.2), Option.getD_some, hxe] at this; rw [← Nat.eq_of_beq_eq_true this.symm]; exact hij.1
   intro hlt; have hm : mt (hU o) j < 6 := mt_six O.u15 hj; refine ⟨(cY o).getD (mt (hU o) j) ak, ?_, ?_⟩
   · rw [ab, ac (by rw [eb ho]; exact hm)]; refine List.mem_iff_getElem.mpr ⟨mt (hU o) j, by rw [List.length_take, eb ho]; exact a479 hj hlt, ?_⟩; rw [List.getElem_take]; rfl
   rw [O.tie j hj _ hm]; exact Nat.beq_refl _
 rw [e]
noncomputable def sevenB (r : Str) : List Bool := [chk (r ++ aa "\\"), chk (aa "\"" ++ r), chk (Txt.slice r (some 1) none), chk (Txt.slice r none (some (-1))), chk (aa ")" ++ r ++ aa "("), chk (r ++ aa "\"(")]
theorem seven_is : (af 15).all (fun u => sevenB (rowS u) == [true, true, false, false, false, false]) = true := by decide +kernel
theorem flat_row : (af 15).all (fun u => (af 6).all fun p => !Nat.blt p (mt u p) || (chk (Txt.slice (rowS u) (some ((p : Int) + 1)) (some (mt u p : Int))) == bp flT (Nat.add (Nat.mul 6 u) p))) = true := by decide +kernel
theorem f_seen {o g d : Nat} (ho : o < 720) (hg : g < 120) (k : Nat) : (dn (aR o g d k) (eQ (cY o))).map chk = [true, true, true, false, false, false, false] := by
 rw [row_is ho]; show chk (aR o g d k) :: sevenB (rowS (hU o)) = _
 rw [f_chk ho hg, eq_of_beq (ap seven_is (dt ho).u15)]
theorem f_flat {o : Nat} (ho : o < 720) : dH (cY o) (dz o) = bp flatC (hU o) := by
 rw [← (dt ho).flat]; unfold dH; rw [row_is ho, Bool.eq_iff_iff, List.all_eq_true, List.all_eq_true]; refine forall_congr' fun p => forall_congr' fun hp => ?_; refine x03 (lks_mem ho p hp) fun h1 h2 h3 => ?_; have := ap (ap flat_row (dt ho).u15) (show p.1 < 6 by exact a478 h1 h2)
 rw [h3, Nat.blt_eq.mpr h1, Bool.not_true, Bool.false_or] at this; rw [eq_of_beq this]
theorem f_heart {o g i : Nat} (ho : o < 720) (hg : g < 120) (hi : i < 12) :
   prv (cY o) false 5 [aQ g (ao i)] = bf (dz o) (aQ g (ao i)) (ao i) (2 ^ (az (ao i)).length) ∧ prv (cY o) true 5 [aQ g (ao i)] = (bf (dz o) (aQ g (ao i)) (ao i) (2 ^ (az (ao i)).length) && dH (cY o) (dz o)) :=
 heart (dt ho).u15 (dt ho).tie (lks3 o) (lks_lt ho) (dt ho).mark (f_flat ho) hg hi
theorem f_rng {o g i : Nat} (ho : o < 720) (hg : g < 120) (hi : i < 12) : ∀ ch, ch < 2 ^ (az (ao i)).length → ∀ p ∈ ((dz o).map fun p => ((p.1 : Int), (p.2 : Int))) ++ ties (chosen (ao i) ch) (aQ g (ao i)), 0 ≤ p.1 ∧ p.1 < 11 ∧ 0 ≤ p.2 ∧ p.2 < 11 := by
 intro ch hch p hp; have hc : ∀ mid : Nat, mid < 5 → (chosen (ao i) ch).any (fun x => x == (mid : Int)) = bp (bT (ao i) ch) mid := fun mid hm => eq_of_beq (ap (ap (ap ik hi) hch) hm); rcases mAp hp with h | h
 · obtain ⟨e, he, rfl⟩ := mMa h; have := lks_lt ho e he; exact ⟨by show 0 ≤ (e.1 : Int); exact a12, by show (e.1 : Int) < 11; exact a477 this, by show 0 ≤ (e.2 : Int); exact a12, by show (e.2 : Int) < 11; exact a476 this⟩
 have ht : aQ g (ao i) = (ba g).toB.toTr (ao i) := (ej (ao i) (ba g)).symm; rw [ht] at h; exact fZ hc (ao i) (jr (bO hg)) (Nat.le_refl _) p h
end
section
noncomputable def lowLit : List (List Nat) := [[111, 112, 116, 105, 109, 105, 122, 101, 100], [110, 101, 119, 108, 111, 99, 97, 108, 115], [118, 97, 114, 97, 114, 103, 115], [118, 97, 114, 107, 101, 121, 119, 111, 114, 100, 115], [110, 101, 115, 116, 101, 100], [103, 101, 110, 101, 114, 97, 116, 111, 114], [110, 111, 102, 114, 101, 101], [99, 111, 114, 111, 117, 116, 105, 110, 101], [105, 116, 101, 114, 97, 98, 108, 101, 95, 99, 111, 114, 111, 117, 116, 105, 110, 101], [97, 115, 121, 110, 99, 95, 103, 101, 110, 101, 114, 97, 116, 111, 114], [48, 120, 52, 48, 48], [48, 120, 56, 48, 48], [48, 120, 49, 48, 48, 48], [48, 120, 50, 48, 48, 48], [48, 120, 52, 48, 48, 48], [48, 120, 56, 48, 48, 48], [48, 120, 49, 48, 48, 48, 48], [48, 120, 50, 48, 48, 48, 48], [48, 120, 52, 48, 48, 48, 48], [48, 120, 56, 48, 48, 48, 48], [48, 120, 49, 48, 48, 48, 48, 48], [48, 120, 50, 48, 48, 48, 48, 48], [48, 120, 52, 48, 48, 48, 48, 48], [48, 120, 56, 48, 48, 48, 48, 48], [48, 120, 49, 48, 48, 48, 48, 48, 48], [48, 120, 50, 48, 48, 48, 48, 48, 48], [48, 120, 52, 48, 48, 48, 48, 48, 48], [48, 120, 56, 48, 48, 48, 48, 48, 48]]
noncomputable def eqL : List Nat → List Nat → Bool
 | [], [] => true
 | a :: x, b :: y => Nat.beq a b && eqL x y
 | _, _ => false
theorem eqL_is : ∀ {x y : List Nat}, eqL x y = true ↔ x = y
 | [], [] => ⟨fun kq => rfl, fun kq => rfl⟩
 | [], b :: y => ⟨fun h => (by cases h), fun h => (by cases h)⟩
 | a :: x, [] => ⟨fun h => (by cases h), fun h => (by cases h)⟩
 | a :: x, b :: y => by
   show (Nat.beq a b && eqL x y) = true ↔ _
   rw [Bool.and_eq_true, Nat.beq_eq, eqL_is, List.cons.injEq]
theorem low_lit : (af 28).all (fun n => eqL (Txt.lower (aw n)).cps.toList (lowLit.getD n [])) = true := by decide +kernel
theorem low_swp : (af 28).all (fun n => eqL (Txt.lower (Txt.swapcase (aw n))).cps.toList (lowLit.getD n [])) = true := by decide +kernel
theorem lit_inj : (af 28).all (fun n => (af 28).all fun m => eqL (lowLit.getD n []) (lowLit.getD m []) == Nat.beq n m) = true := by decide +kernel
theorem lit_len : (af 28).all (fun n => Nat.blt 1 (lowLit.getD n []).length) = true := by decide +kernel
theorem lit_zero : (af 28).all (fun n => !eqL (lowLit.getD n []) [48, 120, 48]) = true := by decide +kernel
theorem jn : (Txt.lower (Txt.swapcase (aa "0x0"))).cps.toList = [48, 120, 48] := by decide +kernel
theorem low_pool : (af 6).all (fun x => eqL (Txt.lower (bk x)).cps.toList [Nat.add 97 (Nat.div x 2)]) = true := by decide +kernel
theorem low_abc : (af 3).all (fun c => eqL (Txt.lower ⟨#[abc.cps.getD c 0]⟩).cps.toList [Nat.add 97 c]) = true := by decide +kernel
theorem cps_inj {x y : Str} : x = y ↔ x.cps.toList = y.cps.toList := ⟨fun h => by rw [h], eG⟩
theorem fo {x y : Str} {a b : List Nat} (hx : x.cps.toList = a) (hy : y.cps.toList = b) : (x == y) = eqL a b := by
 rw [Bool.eq_iff_iff, beq_iff_eq, cps_inj, hx, hy, eqL_is]
theorem low_w {n : Nat} (hn : n < 28) : (Txt.lower (aw n)).cps.toList = lowLit.getD n [] := eqL_is.mp (ap low_lit hn)
theorem low_s {n : Nat} (hn : n < 28) : (Txt.lower (Txt.swapcase (aw n))).cps.toList = lowLit.getD n [] := eqL_is.mp (ap low_swp hn)
theorem low_p {x : Nat} (hx : x < 6) : (Txt.lower (bk x)).cps.toList = [97 + x / 2] := eqL_is.mp (ap low_pool hx)
theorem low_c {c : Nat} (hc : c < 3) : (Txt.lower ⟨#[abc.cps.getD c 0]⟩).cps.toList = [97 + c] := eqL_is.mp (ap low_abc hc)
noncomputable def wEnts (f : Nat) : List (Str × Str) := (af 5).map fun k => (aw (f + k), dX k)
noncomputable def lEnts (o : Nat) : List (Str × Str) := (af 6).map fun j => (bk ((aI o).getD j 6), dX j)
theorem gF {o : Nat} (f : Nat) (ho : o < 720) : be f (cY o) = wEnts f ++ lEnts o := by
 unfold be eh wEnts lEnts; rw [List.map_append, List.map_map, List.map_map, eb ho]; refine congrArg (wEnts f ++ ·) (List.map_congr_left fun j hj => ?_); show ((cY o).getD j ak, dX j) = _
 rw [rd_get ho (List.mem_range.mp hj)]
theorem ie {α : Type} (d : α) : ∀ l : List α, (af l.length).map (fun i => l.getD i d) = l
 | [] => rfl
 | x :: r => by
   rw [List.length_cons, List.range_succ_eq_map, ai, List.map_map]; exact congrArg (x :: ·) (ie d r)
theorem j4 {α β : Type} (d : α) (p : α → Bool) (f : α → β) (l : List α) : ((af l.length).filter fun i => p (l.getD i d)).map (fun i => f (l.getD i d)) = (l.filter p).map f := by
 have h := congrArg (fun z => (z.filter p).map f) (ie d l); simp only [List.filter_map, List.map_map] at h; exact h
theorem f_all {f o : Nat} (hf : f < 24) (ho : o < 720) : ∀ j p q, (dz o)[j]? = some (p, q) → p < 6 ∧ q < 6 ∧ allOf (be f (cY o)) ⟨#[abc.cps.getD j 0]⟩ = [dX p, dX q] := by
 intro j p q h; have hj : j < 3 := by
   have := (List.getElem?_eq_some_iff.mp h).1; rw [lks3] at this; exact this
 rw [lks_get hj] at h; refine x24 ((dt ho).pair j hj) fun a b h1 h2 h3 h4 => ?_; rw [h1] at h; injection h with h
 have h : (a, b) = (p, q) := h; injection h with e1 e2
 subst e1 e2; refine ⟨by exact a478 h2 h3, h3, ?_⟩; unfold allOf; have := j4 (ak, ak) (fun p => Txt.lower p.1 == Txt.lower ⟨#[abc.cps.getD j 0]⟩) (fun p => p.2) (be f (cY o)); rw [this, gF f ho, List.filter_append]; have hw : (wEnts f).filter (fun p => Txt.lower p.1 == Txt.lower ⟨#[abc.cps.getD j 0]⟩) = [] := by
   rw [List.filter_eq_nil_iff]; intro x hx; obtain ⟨k, hk, rfl⟩ := mMa hx; have hk := List.mem_range.mp hk; show ¬ (Txt.lower (aw (f + k)) == _) = true
   rw [fo (low_w (show f + k < 28 by exact a490 hf hk)) (low_c hj), eqL_is]
   intro e; have := Nat.blt_eq.mp (ap lit_len (show f + k < 28 by exact a490 hf hk))
   rw [e] at this; simp at this
 have hl : (lEnts o).filter (fun p => Txt.lower p.1 == Txt.lower ⟨#[abc.cps.getD j 0]⟩) = (fJ (aI o) j).map fun j => (bk ((aI o).getD j 6), dX j) := by
   unfold lEnts fJ; rw [List.filter_map]; refine congrArg (List.map fun j => (bk ((aI o).getD j 6), dX j)) (List.filter_congr fun i hi => ?_); have hi := List.mem_range.mp hi; show (Txt.lower (bk ((aI o).getD i 6)) == _) = _
   rw [fo (low_p (bw ho hi)) (low_c hj), Bool.eq_iff_iff, eqL_is, Nat.beq_eq]; show _ ↔ (aI o).getD i 6 / 2 = j
   constructor
   · intro e; exact a492 (List.cons.inj e).1
   intro e; rw [e]
 rw [hw, hl, h1, List.nil_append]; simp only [ai, List.map_nil]
theorem f_low {f o : Nat} (hf : f < 24) (ho : o < 720) : ∀ p ∈ be f (cY o), dM p.1 := by
 intro p hp; rw [gF f ho] at hp; rcases mAp hp with h | h
 · obtain ⟨k, hk, rfl⟩ := mMa h; have hk := List.mem_range.mp hk; have : (aw (f + k)).length ≤ 30 := di ⟨f + k, by exact a179 hf hk⟩; exact PyProof.Rows.fit_lower (by show (aw (f + k)).length ≤ _; exact a491 this)
 obtain ⟨k, hk, rfl⟩ := mMa h; have hk := List.mem_range.mp hk; refine PyProof.Rows.fit_lower ?_; show (bk ((aI o).getD k 6)).length ≤ _
 rw [em _ (bw ho hk)]; exact (by decide : 1 ≤ 5592405)
theorem f_sw {o : Nat} (ho : o < 720) : ∀ x ∈ cY o, Builtin.Str.tooLong (Txt.swapcase x).length = false := rd_mem ho fun j hj => by
 refine PyProof.Rows.fit_swapcase ?_; rw [em j hj]; exact (by decide : 1 ≤ 5592405)
theorem find5 {α : Type} (g : Nat → α) (p : α → Bool) {z : Nat} (hz : z < 5) (h : ∀ i, i < 5 → p (g i) = Nat.beq i z) (r : List α) : ((af 5).map g ++ r).find? p = some (g z) := by
 show (g 0 :: g 1 :: g 2 :: g 3 :: g 4 :: r).find? p = _
 simp only [List.find?_cons, h 0 (by decide), h 1 (by decide), h 2 (by decide), h 3 (by decide), h 4 (by decide)]; clear h; revert hz; generalize z = y; revert y; exact lt5 rfl rfl rfl rfl rfl
theorem get_word {f o z : Nat} (hf : f < 24) (ho : o < 720) (hz : z < 5) : dG (be f (cY o)) (Txt.swapcase (aw (f + z))) (aa "9") = dX z := by
 unfold dG; rw [gF f ho]; unfold wEnts; rw [find5 (fun k => (aw (f + k), dX k)) _ hz]; intro i hi; show (Txt.lower (aw (f + i)) == _) = _
 rw [fo (low_w (show f + i < 28 by exact a490 hf hi)) (low_s (show f + z < 28 by exact a490 hf hz)), eq_of_beq (ap (ap lit_inj (show f + i < 28 by exact a490 hf hi)) (show f + z < 28 by exact a490 hf hz)), Bool.eq_iff_iff, Nat.beq_eq, Nat.beq_eq]
 (first | lia | omega)
theorem get_zero {f o : Nat} (hf : f < 24) (ho : o < 720) : dG (be f (cY o)) (Txt.swapcase (aa "0x0")) (aa "9") = dX 9 := by
 have hn : (be f (cY o)).find? (fun p => Txt.lower p.1 == Txt.lower (Txt.swapcase (aa "0x0"))) = none := by
   rw [List.find?_eq_none]; intro p hp; rw [gF f ho] at hp; rcases mAp hp with h | h
   · obtain ⟨k, hk, rfl⟩ := mMa h; have hk := List.mem_range.mp hk; show ¬ (Txt.lower (aw (f + k)) == _) = true
     rw [fo (low_w (show f + k < 28 by exact a490 hf hk)) jn, Bool.not_eq_true, ← Bool.not_eq_true']
     exact ap lit_zero (show f + k < 28 by exact a490 hf hk)
   obtain ⟨k, hk, rfl⟩ := mMa h; have hk := List.mem_range.mp hk; show ¬ (Txt.lower (bk ((aI o).getD k 6)) == _) = true
   rw [fo (low_p (bw ho hk)) jn, eqL_is]; intro e; injection e with e1 e2
   cases e2
 unfold dG; rw [hn]; show aa "9" = dX 9
 decide +kernel
theorem so_zero (w : World) : aG w true (Txt.lower (Txt.swapcase (aa "0x0"))) := fun S t => by kernel_rfl
theorem sub_bits {k j : Nat} {z : Nat} (h : (az k)[j]? = some z) : z < 5 := by
 have := List.mem_of_getElem? h; unfold az at this; exact List.mem_range.mp (List.mem_filter.mp this).1
theorem f_get (w : World) {f o : Nat} (hf : f < 24) (ho : o < 720) (k ch : Nat) : ∀ (j : Nat) (y : Str), (cW f k ch)[j]? = some y → ∃ z : Nat, (chosen k ch)[j]? = some (z : Int) ∧ z < 10 ∧ dG (be f (cY o)) (Txt.swapcase y) (aa "9") = dX z ∧ aG w true (Txt.lower (Txt.swapcase y)) ∧ dM (Txt.swapcase y) ∧ Builtin.Str.tooLong (Txt.swapcase y).length = false := by
 intro j y h; have hlow : ∀ x : Str, x.length ≤ 100 → dM (Txt.swapcase x) ∧ Builtin.Str.tooLong (Txt.swapcase x).length = false := fun x hx => by
   have hl := PyProof.Rows.len_swapcase x; exact ⟨PyProof.Rows.fit_lower (a489 hx hl), PyProof.Rows.fit_swapcase (a488 hx)⟩
 unfold cW at h; unfold chosen; by_cases hs : bT k ch = 0
 · rw [if_pos hs] at h ⊢; match j, h with
   | 0, h =>
     have h := Option.some.inj (h : some _ = some y); subst h; exact ⟨9, rfl, by decide, get_zero hf ho, so_zero w, hlow _ (by decide +kernel)⟩
 rw [if_neg hs] at h ⊢; have h : ((az (bT k ch)).map fun j => aw (f + j))[j]? = some y := h; rw [List.getElem?_map] at h ⊢; cases hb : (az (bT k ch))[j]? with
 | none => rw [hb] at h; cases h
 | some z =>
   rw [hb] at h; have h := Option.some.inj (h : some _ = some y); subst h; have hz := sub_bits hb; have : (aw (f + z)).length ≤ 30 := di ⟨f + z, by exact a179 hf hz⟩; exact ⟨z, rfl, by exact a487 hz, get_word hf ho hz, so_lower w _ (a179 hf hz), hlow (aw (f + z)) (a486 this)⟩
theorem facts (w : World) (f i o g d : Nat) (hf : f < 24) (hi : i < 12) (ho : o < 720) (hg : g < 120) (hd : d < 46656) : ∃ tr rd lks, Facts w f i o g d tr rd lks :=
 ⟨aQ g (ao i), cY o, dz o, {
   parse := f_parse ho hg _
   tlen := f_tlen ho hg _
   rd6 := eb ho
   dep := f_dep hg _
   so := f_so w ho
   ls6 := jm ho
   last := f_last ho
   lens := ls_mem ho leaf_lens
   bares := ls_mem ho jX
   wr := f_wr ho hg _
   fits := f_fits hg _
   size := by rw [f_size hg]; decide
   low := f_low hf ho
   lk3 := lks3 o
   all := f_all hf ho
   rng := f_rng ho hg hi
   get := fun ch kq => f_get w hf ho _ ch
   sw := f_sw ho
   nodes := by show ((aQ g (ao i)).nodes + 0) ≤ 5; rw [iR hg]; decide
   seen := f_seen ho hg _
   p1 := (f_heart ho hg hi).1
   p2 := (f_heart ho hg hi).2 }⟩
end
section
theorem all_done : PySem.Challenge.rw_kl0125_01.Holds := the_law facts
end
end Mine
theorem PySem.Challenge.cw_kl0125_01_holds : PySem.Challenge.rw_kl0125_01.Holds :=
  Mine.all_done
