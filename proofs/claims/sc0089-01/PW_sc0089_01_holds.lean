import PyProof.Rows.All
import Wide.All
import OpenK.AllK
import Wide.FinOn
import PySem.Challenge.RW_sc0089_01
open PySem PySem.W PySem.Calls PySem.Spec PyProof PyProof.Rows
set_option Elab.async false
namespace Mine
section
section
def defBody : Stmt → List Stmt
  | .FunctionDef _ _ b _ _ _ _ _ _ _ => b
  | .ClassDef _ _ _ b _ _ _ _ _ _ _ => b
  | _ => []
def defScope : Stmt → Scope
  | .FunctionDef _ _ _ _ _ _ sc _ _ _ => sc
  | .ClassDef _ _ _ _ _ _ sc _ _ _ _ => sc
  | _ => default
def defParams : Stmt → Arguments
  | .FunctionDef _ p _ _ _ _ _ _ _ _ => p
  | _ => default
/-- a def's own body, its scope, its parameters, by its number in the module; a method's, by its number in the class -/
def bodyAt (i : Nat) : List Stmt := defBody (PySem.Challenge.pw_sc0089_01.main.body.getD i default)
def scopeAt (i : Nat) : Scope := defScope (PySem.Challenge.pw_sc0089_01.main.body.getD i default)
def paramsAt (i : Nat) : Arguments := defParams (PySem.Challenge.pw_sc0089_01.main.body.getD i default)
def mBody (j : Nat) : List Stmt := defBody ((bodyAt 13).getD j default)
def mScope (j : Nat) : Scope := defScope ((bodyAt 13).getD j default)
def mParams (j : Nat) : Arguments := defParams ((bodyAt 13).getD j default)
namespace hd
set_option maxRecDepth 100000
/-! the part of the heap that the text's top leaves and the law can reach, written out (by a program of our own) -/
def Said (P : Prop) : Prop := P
noncomputable def heap_39 : Params → Frag := by
  refine' (?f : ∀ (a21 a28 a35 a42 a49 a56 a63 a80 a87 a94 a101 a108 a115 a122 a136 a141 a146 a151 : Obj), Said ((Obj.mk (Value.type "function") none (Data.func (FuncData.mk (Str.ofString "_wall") (Str.ofString "_wall") (paramsAt 0) (FuncBody.stmts (bodyAt 0)) (scopeAt 0) 3 [] Value.none Value.none Value.none (Value.str (Str.ofString "__main__") 164) none (Value.ref 20) Value.none 0)) (@List.toArray (Option Value) [])) = a21) → Said ((Obj.mk (Value.type "function") none (Data.func (FuncData.mk (Str.ofString "_substitution_cost") (Str.ofString "_substitution_cost") (paramsAt 5) (FuncBody.stmts (bodyAt 5)) (scopeAt 5) 3 [] Value.none Value.none Value.none (Value.str (Str.ofString "cpy313.traceback") 194) none (Value.ref 27) Value.none 0)) (@List.toArray (Option Value) [])) = a28) → Said ((Obj.mk (Value.type "function") none (Data.func (FuncData.mk (Str.ofString "_levenshtein_distance") (Str.ofString "_levenshtein_distance") (paramsAt 6) (FuncBody.stmts (bodyAt 6)) (scopeAt 6) 3 [] Value.none Value.none Value.none (Value.str (Str.ofString "cpy313.traceback") 194) none (Value.ref 34) Value.none 0)) (@List.toArray (Option Value) [])) = a35) → Said ((Obj.mk (Value.type "function") none (Data.func (FuncData.mk (Str.ofString "_iter_escaped_chars") (Str.ofString "_iter_escaped_chars") (paramsAt 8) (FuncBody.stmts (bodyAt 8)) (scopeAt 8) 3 [] Value.none Value.none Value.none (Value.str (Str.ofString "cpy313.email.utils") 230) none (Value.ref 41) Value.none 0)) (@List.toArray (Option Value) [])) = a42) → Said ((Obj.mk (Value.type "function") none (Data.func (FuncData.mk (Str.ofString "_strip_quoted_realnames") (Str.ofString "_strip_quoted_realnames") (paramsAt 9) (FuncBody.stmts (bodyAt 9)) (scopeAt 9) 3 [] Value.none Value.none Value.none (Value.str (Str.ofString "cpy313.email.utils") 230) none (Value.ref 48) Value.none 0)) (@List.toArray (Option Value) [])) = a49) → Said ((Obj.mk (Value.type "function") none (Data.func (FuncData.mk (Str.ofString "_check_parenthesis") (Str.ofString "_check_parenthesis") (paramsAt 10) (FuncBody.stmts (bodyAt 10)) (scopeAt 10) 3 [] Value.none Value.none Value.none (Value.str (Str.ofString "cpy313.email.utils") 230) none (Value.ref 55) Value.none 0)) (@List.toArray (Option Value) [])) = a56) → Said ((Obj.mk (Value.type "function") none (Data.func (FuncData.mk (Str.ofString "_pre_parse_validation") (Str.ofString "_pre_parse_validation") (paramsAt 11) (FuncBody.stmts (bodyAt 11)) (scopeAt 11) 3 [] Value.none Value.none Value.none (Value.str (Str.ofString "cpy313.email.utils") 230) none (Value.ref 62) Value.none 0)) (@List.toArray (Option Value) [])) = a63) → Said ((Obj.mk (Value.type "function") none (Data.func (FuncData.mk (Str.ofString "__init__") (Str.ofString "Whitespace.__init__") (mParams 1) (FuncBody.stmts (mBody 1)) (mScope 1) 3 [] Value.none Value.none Value.none (Value.str (Str.ofString "cpy313.tabnanny") 273) none (Value.ref 79) Value.none 0)) (@List.toArray (Option Value) [])) = a80) → Said ((Obj.mk (Value.type "function") none (Data.func (FuncData.mk (Str.ofString "longest_run_of_spaces") (Str.ofString "Whitespace.longest_run_of_spaces") (mParams 2) (FuncBody.stmts (mBody 2)) (mScope 2) 3 [] Value.none Value.none Value.none (Value.str (Str.ofString "cpy313.tabnanny") 273) none (Value.ref 86) Value.none 0)) (@List.toArray (Option Value) [])) = a87) → Said ((Obj.mk (Value.type "function") none (Data.func (FuncData.mk (Str.ofString "indent_level") (Str.ofString "Whitespace.indent_level") (mParams 3) (FuncBody.stmts (mBody 3)) (mScope 3) 3 [] Value.none Value.none Value.none (Value.str (Str.ofString "cpy313.tabnanny") 273) none (Value.ref 93) Value.none 0)) (@List.toArray (Option Value) [])) = a94) → Said ((Obj.mk (Value.type "function") none (Data.func (FuncData.mk (Str.ofString "equal") (Str.ofString "Whitespace.equal") (mParams 4) (FuncBody.stmts (mBody 4)) (mScope 4) 3 [] Value.none Value.none Value.none (Value.str (Str.ofString "cpy313.tabnanny") 273) none (Value.ref 100) Value.none 0)) (@List.toArray (Option Value) [])) = a101) → Said ((Obj.mk (Value.type "function") none (Data.func (FuncData.mk (Str.ofString "not_equal_witness") (Str.ofString "Whitespace.not_equal_witness") (mParams 5) (FuncBody.stmts (mBody 5)) (mScope 4) 3 [] Value.none Value.none Value.none (Value.str (Str.ofString "cpy313.tabnanny") 273) none (Value.ref 107) Value.none 0)) (@List.toArray (Option Value) [])) = a108) → Said ((Obj.mk (Value.type "function") none (Data.func (FuncData.mk (Str.ofString "less") (Str.ofString "Whitespace.less") (mParams 6) (FuncBody.stmts (mBody 6)) (mScope 6) 3 [] Value.none Value.none Value.none (Value.str (Str.ofString "cpy313.tabnanny") 273) none (Value.ref 114) Value.none 0)) (@List.toArray (Option Value) [])) = a115) → Said ((Obj.mk (Value.type "function") none (Data.func (FuncData.mk (Str.ofString "not_less_witness") (Str.ofString "Whitespace.not_less_witness") (mParams 7) (FuncBody.stmts (mBody 7)) (mScope 4) 3 [] Value.none Value.none Value.none (Value.str (Str.ofString "cpy313.tabnanny") 273) none (Value.ref 121) Value.none 0)) (@List.toArray (Option Value) [])) = a122) → Said ((Obj.mk (Value.type "function") none (Data.func (FuncData.mk (Str.ofString "_law_row") (Str.ofString "_law_row") (paramsAt 15) (FuncBody.stmts (bodyAt 15)) (scopeAt 15) 3 [] Value.none Value.none Value.none (Value.str (Str.ofString "law_sc0089_01") 375) none (Value.ref 135) Value.none 0)) (@List.toArray (Option Value) [])) = a136) → Said ((Obj.mk (Value.type "function") none (Data.func (FuncData.mk (Str.ofString "_law_norm") (Str.ofString "_law_norm") (paramsAt 16) (FuncBody.stmts (bodyAt 16)) (scopeAt 16) 3 [] Value.none Value.none Value.none (Value.str (Str.ofString "law_sc0089_01") 375) none (Value.ref 140) Value.none 0)) (@List.toArray (Option Value) [])) = a141) → Said ((Obj.mk (Value.type "function") none (Data.func (FuncData.mk (Str.ofString "_law_letters") (Str.ofString "_law_letters") (paramsAt 17) (FuncBody.stmts (bodyAt 17)) (scopeAt 17) 3 [] Value.none Value.none Value.none (Value.str (Str.ofString "law_sc0089_01") 375) none (Value.ref 145) Value.none 0)) (@List.toArray (Option Value) [])) = a146) → Said ((Obj.mk (Value.type "function") none (Data.func (FuncData.mk (Str.ofString "law") (Str.ofString "law") (paramsAt 18) (FuncBody.stmts (bodyAt 18)) (PySem.Scope.mk @PySem.ScopeKind.function [((Str.ofString "script"), @PySem.NameKind.local), ((Str.ofString "numbers"), @PySem.NameKind.local), ((Str.ofString "x"), @PySem.NameKind.local), ((Str.ofString "n"), @PySem.NameKind.local), ((Str.ofString "m"), @PySem.NameKind.local), ((Str.ofString "w"), @PySem.NameKind.local), ((Str.ofString "less"), @PySem.NameKind.local), ((Str.ofString "row"), @PySem.NameKind.cell), ((Str.ofString "lead"), @PySem.NameKind.local), ((Str.ofString "mirror"), @PySem.NameKind.local), ((Str.ofString "heights"), @PySem.NameKind.local), ((Str.ofString "place"), @PySem.NameKind.cell), ((Str.ofString "height"), @PySem.NameKind.cell), ((Str.ofString "texts"), @PySem.NameKind.cell), ((Str.ofString "kept"), @PySem.NameKind.cell), ((Str.ofString "far"), @PySem.NameKind.local), ((Str.ofString "flat"), @PySem.NameKind.local), ((Str.ofString "steep"), @PySem.NameKind.local), ((Str.ofString "small"), @PySem.NameKind.local), ((Str.ofString "deep"), @PySem.NameKind.local), ((Str.ofString "nest"), @PySem.NameKind.local), ((Str.ofString "told"), @PySem.NameKind.local), ((Str.ofString "len"), @PySem.NameKind.globalImplicit), ((Str.ofString "_law_row"), @PySem.NameKind.globalImplicit), ((Str.ofString "Whitespace"), @PySem.NameKind.globalImplicit), ((Str.ofString "_law_norm"), @PySem.NameKind.globalImplicit), ((Str.ofString "range"), @PySem.NameKind.globalImplicit), ((Str.ofString "_pre_parse_validation"), @PySem.NameKind.globalImplicit), ((Str.ofString "abs"), @PySem.NameKind.globalImplicit), ((Str.ofString "max"), @PySem.NameKind.globalImplicit), ((Str.ofString "min"), @PySem.NameKind.globalImplicit), ((Str.ofString "_levenshtein_distance"), @PySem.NameKind.globalImplicit), ((Str.ofString "_law_letters"), @PySem.NameKind.globalImplicit)] @_root_.Bool.false @_root_.Bool.false [((Str.ofString "fast"), (PySem.Const.str (Str.ofString "script"))), ((Str.ofString "fast"), (PySem.Const.str (Str.ofString "numbers"))), ((Str.ofString "fast"), (PySem.Const.str (Str.ofString "x"))), ((Str.ofString "fast"), (PySem.Const.str (Str.ofString "n"))), ((Str.ofString "fast"), (PySem.Const.str (Str.ofString "m"))), ((Str.ofString "fast"), (PySem.Const.str (Str.ofString "w"))), ((Str.ofString "fast"), (PySem.Const.str (Str.ofString "less"))), ((Str.ofString "fast"), (PySem.Const.str (Str.ofString "row"))), ((Str.ofString "fast"), (PySem.Const.str (Str.ofString "lead"))), ((Str.ofString "fast"), (PySem.Const.str (Str.ofString "mirror"))), ((Str.ofString "fast"), (PySem.Const.str (Str.ofString "heights"))), ((Str.ofString "fast"), (PySem.Const.str (Str.ofString "place"))), ((Str.ofString "fast"), (PySem.Const.str (Str.ofString "height"))), ((Str.ofString "fast"), (PySem.Const.str (Str.ofString "k"))), ((Str.ofString "fast"), (PySem.Const.str (Str.ofString "texts"))), ((Str.ofString "fast"), (PySem.Const.str (Str.ofString "kept"))), ((Str.ofString "fast"), (PySem.Const.str (Str.ofString "far"))), ((Str.ofString "fast"), (PySem.Const.str (Str.ofString "flat"))), ((Str.ofString "fast"), (PySem.Const.str (Str.ofString "steep"))), ((Str.ofString "fast"), (PySem.Const.str (Str.ofString "small"))), ((Str.ofString "fast"), (PySem.Const.str (Str.ofString "deep"))), ((Str.ofString "fast"), (PySem.Const.str (Str.ofString "nest"))), ((Str.ofString "fast"), (PySem.Const.str (Str.ofString "told"))), ((Str.ofString "fast"), (PySem.Const.str (Str.ofString "one")))]) 3 [] Value.none Value.none Value.none (Value.str (Str.ofString "law_sc0089_01") 375) none (Value.ref 150) Value.none 0)) (@List.toArray (Option Value) [])) = a151) → Params → Frag) _ _ _ _ _ _ _ _ _ _ _ _ _ _ _ _ _ _ ?e21 ?e28 ?e35 ?e42 ?e49 ?e56 ?e63 ?e80 ?e87 ?e94 ?e101 ?e108 ?e115 ?e122 ?e136 ?e141 ?e146 ?e151
  case f => exact fun a21 a28 a35 a42 a49 a56 a63 a80 a87 a94 a101 a108 a115 a122 a136 a141 a146 a151 _ _ _ _ _ _ _ _ _ _ _ _ _ _ _ _ _ _ P =>
  ((nat_lit 2), (Obj.mk Value.none none (Data.dict (@List.toArray DictEntry []) 0) (@List.toArray (Option Value) []))) ::
  ((nat_lit 3), (Obj.mk (Value.type "dict") none (Data.dict (@List.toArray DictEntry [(DictEntry.mk (PyData.keyHash P (Str.ofString "__name__")) (Value.str (Str.ofString "__name__") 165) (Value.str (Str.ofString "law_sc0089_01") 375)), (DictEntry.mk (PyData.keyHash P (Str.ofString "__doc__")) (Value.str (Str.ofString "__doc__") 166) Value.none), (DictEntry.mk (PyData.keyHash P (Str.ofString "__package__")) (Value.str (Str.ofString "__package__") 167) Value.none), (DictEntry.mk (PyData.keyHash P (Str.ofString "__loader__")) (Value.str (Str.ofString "__loader__") 168) (Value.builtin "__main__.__loader__#opaque")), (DictEntry.mk (PyData.keyHash P (Str.ofString "__spec__")) (Value.str (Str.ofString "__spec__") 169) Value.none), (DictEntry.mk (PyData.keyHash P (Str.ofString "__annotations__")) (Value.str (Str.ofString "__annotations__") 170) (Value.ref 6)), (DictEntry.mk (PyData.keyHash P (Str.ofString "__builtins__")) (Value.str (Str.ofString "__builtins__") 171) (Value.ref 4)), (DictEntry.mk (PyData.keyHash P (Str.ofString "__file__")) (Value.str (Str.ofString "__file__") 173) (Value.str (Str.ofString "/claim/cut.py") 172)), (DictEntry.mk (PyData.keyHash P (Str.ofString "__cached__")) (Value.str (Str.ofString "__cached__") 174) Value.none), (DictEntry.mk (PyData.keyHash P (Str.ofString "_wall")) (Value.str (Str.ofString "_wall") 193) (Value.ref 21)), (DictEntry.mk (PyData.keyHash P (Str.ofString "_MAX_STRING_SIZE")) (Value.str (Str.ofString "_MAX_STRING_SIZE") 197) (Value.int (40 : Int) 196)), (DictEntry.mk (PyData.keyHash P (Str.ofString "_MOVE_COST")) (Value.str (Str.ofString "_MOVE_COST") 199) (Value.int (2 : Int) 198)), (DictEntry.mk (PyData.keyHash P (Str.ofString "_CASE_COST")) (Value.str (Str.ofString "_CASE_COST") 201) (Value.int (1 : Int) 200)), (DictEntry.mk (PyData.keyHash P (Str.ofString "_substitution_cost")) (Value.str (Str.ofString "_substitution_cost") 209) (Value.ref 28)), (DictEntry.mk (PyData.keyHash P (Str.ofString "_levenshtein_distance")) (Value.str (Str.ofString "_levenshtein_distance") 229) (Value.ref 35)), (DictEntry.mk (PyData.keyHash P (Str.ofString "_iter_escaped_chars")) (Value.str (Str.ofString "_iter_escaped_chars") 241) (Value.ref 42)), (DictEntry.mk (PyData.keyHash P (Str.ofString "_strip_quoted_realnames")) (Value.str (Str.ofString "_strip_quoted_realnames") 253) (Value.ref 49)), (DictEntry.mk (PyData.keyHash P (Str.ofString "_check_parenthesis")) (Value.str (Str.ofString "_check_parenthesis") 263) (Value.ref 56)), (DictEntry.mk (PyData.keyHash P (Str.ofString "_pre_parse_validation")) (Value.str (Str.ofString "_pre_parse_validation") 272) (Value.ref 63)), (DictEntry.mk (PyData.keyHash P (Str.ofString "Whitespace")) (Value.str (Str.ofString "Whitespace") 374) (Value.ref 125)), (DictEntry.mk (PyData.keyHash P (Str.ofString "_law_row")) (Value.str (Str.ofString "_law_row") 387) (Value.ref 136)), (DictEntry.mk (PyData.keyHash P (Str.ofString "_law_norm")) (Value.str (Str.ofString "_law_norm") 393) (Value.ref 141)), (DictEntry.mk (PyData.keyHash P (Str.ofString "_law_letters")) (Value.str (Str.ofString "_law_letters") 399) (Value.ref 146)), (DictEntry.mk (PyData.keyHash P (Str.ofString "law")) (Value.str (Str.ofString "law") 405) (Value.ref 151))]) 24) (@List.toArray (Option Value) []))) ::
  ((nat_lit 15), (Obj.mk (Value.type "tuple") none (Data.seq (@List.toArray Value []) 0) (@List.toArray (Option Value) []))) ::
  ((nat_lit 17), (Obj.mk (Value.type "tuple") none (Data.seq (@List.toArray Value [(Value.str (Str.ofString "k") 190)]) 0) (@List.toArray (Option Value) []))) ::
  ((nat_lit 18), (Obj.mk (Value.type "tuple") none (Data.seq (@List.toArray Value []) 0) (@List.toArray (Option Value) []))) ::
  ((nat_lit 20), (Obj.mk (Value.type "code") none (Data.fields (@List.toArray Value [(Value.str (Str.ofString "_wall") 187), (Value.str (Str.ofString "_wall") 188), (Value.str (Str.ofString "/claim/cut.py") 189), (Value.int (1 : Int) 0), (Value.int (1 : Int) 0), (Value.int (0 : Int) 0), (Value.int (0 : Int) 0), (Value.int (3 : Int) 0), (Value.ref 15), (Value.bool @_root_.Bool.true), (Value.int (181 : Int) 0), (Value.ref 16), Value.none, (Value.ref 17), (Value.ref 18), (Value.ref 19), (Value.int (191 : Int) 0), (Value.int (1 : Int) 0), (Value.str (Str.ofString "/claim/cut.py") 192)])) (@List.toArray (Option Value) []))) ::
  ((nat_lit 21), a21) ::
  ((nat_lit 22), (Obj.mk (Value.type "tuple") none (Data.seq (@List.toArray Value []) 0) (@List.toArray (Option Value) []))) ::
  ((nat_lit 24), (Obj.mk (Value.type "tuple") none (Data.seq (@List.toArray Value [(Value.str (Str.ofString "ch_a") 205), (Value.str (Str.ofString "ch_b") 206)]) 0) (@List.toArray (Option Value) []))) ::
  ((nat_lit 25), (Obj.mk (Value.type "tuple") none (Data.seq (@List.toArray Value []) 0) (@List.toArray (Option Value) []))) ::
  ((nat_lit 27), (Obj.mk (Value.type "code") none (Data.fields (@List.toArray Value [(Value.str (Str.ofString "_substitution_cost") 202), (Value.str (Str.ofString "_substitution_cost") 203), (Value.str (Str.ofString "/claim/cut.py") 204), (Value.int (8 : Int) 0), (Value.int (2 : Int) 0), (Value.int (0 : Int) 0), (Value.int (0 : Int) 0), (Value.int (3 : Int) 0), (Value.ref 22), (Value.bool @_root_.Bool.true), (Value.int (181 : Int) 0), (Value.ref 23), Value.none, (Value.ref 24), (Value.ref 25), (Value.ref 26), (Value.int (207 : Int) 0), (Value.int (8 : Int) 0), (Value.str (Str.ofString "/claim/cut.py") 208)])) (@List.toArray (Option Value) []))) ::
  ((nat_lit 28), a28) ::
  ((nat_lit 29), (Obj.mk (Value.type "tuple") none (Data.seq (@List.toArray Value []) 0) (@List.toArray (Option Value) []))) ::
  ((nat_lit 31), (Obj.mk (Value.type "tuple") none (Data.seq (@List.toArray Value [(Value.str (Str.ofString "a") 213), (Value.str (Str.ofString "b") 214), (Value.str (Str.ofString "max_cost") 215), (Value.str (Str.ofString "pre") 216), (Value.str (Str.ofString "post") 217), (Value.str (Str.ofString "row") 218), (Value.str (Str.ofString "result") 219), (Value.str (Str.ofString "bindex") 220), (Value.str (Str.ofString "bchar") 221), (Value.str (Str.ofString "distance") 222), (Value.str (Str.ofString "minimum") 223), (Value.str (Str.ofString "index") 224), (Value.str (Str.ofString "substitute") 225), (Value.str (Str.ofString "insert_delete") 226)]) 0) (@List.toArray (Option Value) []))) ::
  ((nat_lit 32), (Obj.mk (Value.type "tuple") none (Data.seq (@List.toArray Value []) 0) (@List.toArray (Option Value) []))) ::
  ((nat_lit 34), (Obj.mk (Value.type "code") none (Data.fields (@List.toArray Value [(Value.str (Str.ofString "_levenshtein_distance") 210), (Value.str (Str.ofString "_levenshtein_distance") 211), (Value.str (Str.ofString "/claim/cut.py") 212), (Value.int (14 : Int) 0), (Value.int (3 : Int) 0), (Value.int (0 : Int) 0), (Value.int (0 : Int) 0), (Value.int (3 : Int) 0), (Value.ref 29), (Value.bool @_root_.Bool.true), (Value.int (181 : Int) 0), (Value.ref 30), Value.none, (Value.ref 31), (Value.ref 32), (Value.ref 33), (Value.int (227 : Int) 0), (Value.int (14 : Int) 0), (Value.str (Str.ofString "/claim/cut.py") 228)])) (@List.toArray (Option Value) []))) ::
  ((nat_lit 35), a35) ::
  ((nat_lit 36), (Obj.mk (Value.type "tuple") none (Data.seq (@List.toArray Value []) 0) (@List.toArray (Option Value) []))) ::
  ((nat_lit 38), (Obj.mk (Value.type "tuple") none (Data.seq (@List.toArray Value [(Value.str (Str.ofString "addr") 235), (Value.str (Str.ofString "pos") 236), (Value.str (Str.ofString "escape") 237), (Value.str (Str.ofString "ch") 238)]) 0) (@List.toArray (Option Value) []))) ::
  ((nat_lit 39), (Obj.mk (Value.type "tuple") none (Data.seq (@List.toArray Value []) 0) (@List.toArray (Option Value) []))) ::
  ((nat_lit 41), (Obj.mk (Value.type "code") none (Data.fields (@List.toArray Value [(Value.str (Str.ofString "_iter_escaped_chars") 232), (Value.str (Str.ofString "_iter_escaped_chars") 233), (Value.str (Str.ofString "/claim/cut.py") 234), (Value.int (53 : Int) 0), (Value.int (1 : Int) 0), (Value.int (0 : Int) 0), (Value.int (0 : Int) 0), (Value.int (35 : Int) 0), (Value.ref 36), (Value.bool @_root_.Bool.true), (Value.int (181 : Int) 0), (Value.ref 37), Value.none, (Value.ref 38), (Value.ref 39), (Value.ref 40), (Value.int (239 : Int) 0), (Value.int (53 : Int) 0), (Value.str (Str.ofString "/claim/cut.py") 240)])) (@List.toArray (Option Value) []))) ::
  ((nat_lit 42), a42) ::
  ((nat_lit 43), (Obj.mk (Value.type "tuple") none (Data.seq (@List.toArray Value []) 0) (@List.toArray (Option Value) []))) ::
  ((nat_lit 45), (Obj.mk (Value.type "tuple") none (Data.seq (@List.toArray Value [(Value.str (Str.ofString "addr") 245), (Value.str (Str.ofString "start") 246), (Value.str (Str.ofString "open_pos") 247), (Value.str (Str.ofString "result") 248), (Value.str (Str.ofString "pos") 249), (Value.str (Str.ofString "ch") 250)]) 0) (@List.toArray (Option Value) []))) ::
  ((nat_lit 46), (Obj.mk (Value.type "tuple") none (Data.seq (@List.toArray Value []) 0) (@List.toArray (Option Value) []))) ::
  ((nat_lit 48), (Obj.mk (Value.type "code") none (Data.fields (@List.toArray Value [(Value.str (Str.ofString "_strip_quoted_realnames") 242), (Value.str (Str.ofString "_strip_quoted_realnames") 243), (Value.str (Str.ofString "/claim/cut.py") 244), (Value.int (66 : Int) 0), (Value.int (1 : Int) 0), (Value.int (0 : Int) 0), (Value.int (0 : Int) 0), (Value.int (3 : Int) 0), (Value.ref 43), (Value.bool @_root_.Bool.true), (Value.int (181 : Int) 0), (Value.ref 44), Value.none, (Value.ref 45), (Value.ref 46), (Value.ref 47), (Value.int (251 : Int) 0), (Value.int (66 : Int) 0), (Value.str (Str.ofString "/claim/cut.py") 252)])) (@List.toArray (Option Value) []))) ::
  ((nat_lit 49), a49) ::
  ((nat_lit 50), (Obj.mk (Value.type "tuple") none (Data.seq (@List.toArray Value []) 0) (@List.toArray (Option Value) []))) ::
  ((nat_lit 52), (Obj.mk (Value.type "tuple") none (Data.seq (@List.toArray Value [(Value.str (Str.ofString "addr") 257), (Value.str (Str.ofString "opens") 258), (Value.str (Str.ofString "pos") 259), (Value.str (Str.ofString "ch") 260)]) 0) (@List.toArray (Option Value) []))) ::
  ((nat_lit 53), (Obj.mk (Value.type "tuple") none (Data.seq (@List.toArray Value []) 0) (@List.toArray (Option Value) []))) ::
  ((nat_lit 55), (Obj.mk (Value.type "code") none (Data.fields (@List.toArray Value [(Value.str (Str.ofString "_check_parenthesis") 254), (Value.str (Str.ofString "_check_parenthesis") 255), (Value.str (Str.ofString "/claim/cut.py") 256), (Value.int (84 : Int) 0), (Value.int (1 : Int) 0), (Value.int (0 : Int) 0), (Value.int (0 : Int) 0), (Value.int (3 : Int) 0), (Value.ref 50), (Value.bool @_root_.Bool.true), (Value.int (181 : Int) 0), (Value.ref 51), Value.none, (Value.ref 52), (Value.ref 53), (Value.ref 54), (Value.int (261 : Int) 0), (Value.int (84 : Int) 0), (Value.str (Str.ofString "/claim/cut.py") 262)])) (@List.toArray (Option Value) []))) ::
  ((nat_lit 56), a56) ::
  ((nat_lit 57), (Obj.mk (Value.type "tuple") none (Data.seq (@List.toArray Value []) 0) (@List.toArray (Option Value) []))) ::
  ((nat_lit 59), (Obj.mk (Value.type "tuple") none (Data.seq (@List.toArray Value [(Value.str (Str.ofString "email_header_fields") 267), (Value.str (Str.ofString "accepted_values") 268), (Value.str (Str.ofString "v") 269)]) 0) (@List.toArray (Option Value) []))) ::
  ((nat_lit 60), (Obj.mk (Value.type "tuple") none (Data.seq (@List.toArray Value []) 0) (@List.toArray (Option Value) []))) ::
  ((nat_lit 62), (Obj.mk (Value.type "code") none (Data.fields (@List.toArray Value [(Value.str (Str.ofString "_pre_parse_validation") 264), (Value.str (Str.ofString "_pre_parse_validation") 265), (Value.str (Str.ofString "/claim/cut.py") 266), (Value.int (95 : Int) 0), (Value.int (1 : Int) 0), (Value.int (0 : Int) 0), (Value.int (0 : Int) 0), (Value.int (3 : Int) 0), (Value.ref 57), (Value.bool @_root_.Bool.true), (Value.int (181 : Int) 0), (Value.ref 58), Value.none, (Value.ref 59), (Value.ref 60), (Value.ref 61), (Value.int (270 : Int) 0), (Value.int (95 : Int) 0), (Value.str (Str.ofString "/claim/cut.py") 271)])) (@List.toArray (Option Value) []))) ::
  ((nat_lit 63), a63) ::
  ((nat_lit 74), (Obj.mk (Value.type "tuple") none (Data.seq (@List.toArray Value []) 0) (@List.toArray (Option Value) []))) ::
  ((nat_lit 76), (Obj.mk (Value.type "tuple") none (Data.seq (@List.toArray Value [(Value.str (Str.ofString "self") 295), (Value.str (Str.ofString "ws") 296), (Value.str (Str.ofString "S") 297), (Value.str (Str.ofString "T") 298), (Value.str (Str.ofString "count") 299), (Value.str (Str.ofString "b") 300), (Value.str (Str.ofString "n") 301), (Value.str (Str.ofString "nt") 302), (Value.str (Str.ofString "ch") 303)]) 0) (@List.toArray (Option Value) []))) ::
  ((nat_lit 77), (Obj.mk (Value.type "tuple") none (Data.seq (@List.toArray Value []) 0) (@List.toArray (Option Value) []))) ::
  ((nat_lit 79), (Obj.mk (Value.type "code") none (Data.fields (@List.toArray Value [(Value.str (Str.ofString "__init__") 292), (Value.str (Str.ofString "Whitespace.__init__") 293), (Value.str (Str.ofString "/claim/cut.py") 294), (Value.int (106 : Int) 0), (Value.int (2 : Int) 0), (Value.int (0 : Int) 0), (Value.int (0 : Int) 0), (Value.int (3 : Int) 0), (Value.ref 74), (Value.bool @_root_.Bool.true), (Value.int (181 : Int) 0), (Value.ref 75), Value.none, (Value.ref 76), (Value.ref 77), (Value.ref 78), (Value.int (304 : Int) 0), (Value.int (106 : Int) 0), (Value.str (Str.ofString "/claim/cut.py") 305)])) (@List.toArray (Option Value) []))) ::
  ((nat_lit 80), a80) ::
  ((nat_lit 81), (Obj.mk (Value.type "tuple") none (Data.seq (@List.toArray Value []) 0) (@List.toArray (Option Value) []))) ::
  ((nat_lit 83), (Obj.mk (Value.type "tuple") none (Data.seq (@List.toArray Value [(Value.str (Str.ofString "self") 310), (Value.str (Str.ofString "count") 311), (Value.str (Str.ofString "trailing") 312)]) 0) (@List.toArray (Option Value) []))) ::
  ((nat_lit 84), (Obj.mk (Value.type "tuple") none (Data.seq (@List.toArray Value []) 0) (@List.toArray (Option Value) []))) ::
  ((nat_lit 86), (Obj.mk (Value.type "code") none (Data.fields (@List.toArray Value [(Value.str (Str.ofString "longest_run_of_spaces") 307), (Value.str (Str.ofString "Whitespace.longest_run_of_spaces") 308), (Value.str (Str.ofString "/claim/cut.py") 309), (Value.int (129 : Int) 0), (Value.int (1 : Int) 0), (Value.int (0 : Int) 0), (Value.int (0 : Int) 0), (Value.int (3 : Int) 0), (Value.ref 81), (Value.bool @_root_.Bool.true), (Value.int (181 : Int) 0), (Value.ref 82), Value.none, (Value.ref 83), (Value.ref 84), (Value.ref 85), (Value.int (313 : Int) 0), (Value.int (129 : Int) 0), (Value.str (Str.ofString "/claim/cut.py") 314)])) (@List.toArray (Option Value) []))) ::
  ((nat_lit 87), a87) ::
  ((nat_lit 88), (Obj.mk (Value.type "tuple") none (Data.seq (@List.toArray Value []) 0) (@List.toArray (Option Value) []))) ::
  ((nat_lit 90), (Obj.mk (Value.type "tuple") none (Data.seq (@List.toArray Value [(Value.str (Str.ofString "self") 319), (Value.str (Str.ofString "tabsize") 320), (Value.str (Str.ofString "count") 321), (Value.str (Str.ofString "trailing") 322), (Value.str (Str.ofString "il") 323), (Value.str (Str.ofString "i") 324)]) 0) (@List.toArray (Option Value) []))) ::
  ((nat_lit 91), (Obj.mk (Value.type "tuple") none (Data.seq (@List.toArray Value []) 0) (@List.toArray (Option Value) []))) ::
  ((nat_lit 93), (Obj.mk (Value.type "code") none (Data.fields (@List.toArray Value [(Value.str (Str.ofString "indent_level") 316), (Value.str (Str.ofString "Whitespace.indent_level") 317), (Value.str (Str.ofString "/claim/cut.py") 318), (Value.int (133 : Int) 0), (Value.int (2 : Int) 0), (Value.int (0 : Int) 0), (Value.int (0 : Int) 0), (Value.int (3 : Int) 0), (Value.ref 88), (Value.bool @_root_.Bool.true), (Value.int (181 : Int) 0), (Value.ref 89), Value.none, (Value.ref 90), (Value.ref 91), (Value.ref 92), (Value.int (325 : Int) 0), (Value.int (133 : Int) 0), (Value.str (Str.ofString "/claim/cut.py") 326)])) (@List.toArray (Option Value) []))) ::
  ((nat_lit 94), a94) ::
  ((nat_lit 95), (Obj.mk (Value.type "tuple") none (Data.seq (@List.toArray Value []) 0) (@List.toArray (Option Value) []))) ::
  ((nat_lit 97), (Obj.mk (Value.type "tuple") none (Data.seq (@List.toArray Value [(Value.str (Str.ofString "self") 331), (Value.str (Str.ofString "other") 332)]) 0) (@List.toArray (Option Value) []))) ::
  ((nat_lit 98), (Obj.mk (Value.type "tuple") none (Data.seq (@List.toArray Value []) 0) (@List.toArray (Option Value) []))) ::
  ((nat_lit 100), (Obj.mk (Value.type "code") none (Data.fields (@List.toArray Value [(Value.str (Str.ofString "equal") 328), (Value.str (Str.ofString "Whitespace.equal") 329), (Value.str (Str.ofString "/claim/cut.py") 330), (Value.int (140 : Int) 0), (Value.int (2 : Int) 0), (Value.int (0 : Int) 0), (Value.int (0 : Int) 0), (Value.int (3 : Int) 0), (Value.ref 95), (Value.bool @_root_.Bool.true), (Value.int (181 : Int) 0), (Value.ref 96), Value.none, (Value.ref 97), (Value.ref 98), (Value.ref 99), (Value.int (333 : Int) 0), (Value.int (140 : Int) 0), (Value.str (Str.ofString "/claim/cut.py") 334)])) (@List.toArray (Option Value) []))) ::
  ((nat_lit 101), a101) ::
  ((nat_lit 102), (Obj.mk (Value.type "tuple") none (Data.seq (@List.toArray Value []) 0) (@List.toArray (Option Value) []))) ::
  ((nat_lit 104), (Obj.mk (Value.type "tuple") none (Data.seq (@List.toArray Value [(Value.str (Str.ofString "self") 339), (Value.str (Str.ofString "other") 340)]) 0) (@List.toArray (Option Value) []))) ::
  ((nat_lit 105), (Obj.mk (Value.type "tuple") none (Data.seq (@List.toArray Value []) 0) (@List.toArray (Option Value) []))) ::
  ((nat_lit 107), (Obj.mk (Value.type "code") none (Data.fields (@List.toArray Value [(Value.str (Str.ofString "not_equal_witness") 336), (Value.str (Str.ofString "Whitespace.not_equal_witness") 337), (Value.str (Str.ofString "/claim/cut.py") 338), (Value.int (143 : Int) 0), (Value.int (2 : Int) 0), (Value.int (0 : Int) 0), (Value.int (0 : Int) 0), (Value.int (3 : Int) 0), (Value.ref 102), (Value.bool @_root_.Bool.true), (Value.int (181 : Int) 0), (Value.ref 103), Value.none, (Value.ref 104), (Value.ref 105), (Value.ref 106), (Value.int (341 : Int) 0), (Value.int (143 : Int) 0), (Value.str (Str.ofString "/claim/cut.py") 342)])) (@List.toArray (Option Value) []))) ::
  ((nat_lit 108), a108) ::
  ((nat_lit 109), (Obj.mk (Value.type "tuple") none (Data.seq (@List.toArray Value []) 0) (@List.toArray (Option Value) []))) ::
  ((nat_lit 111), (Obj.mk (Value.type "tuple") none (Data.seq (@List.toArray Value [(Value.str (Str.ofString "self") 347), (Value.str (Str.ofString "other") 348), (Value.str (Str.ofString "n") 349), (Value.str (Str.ofString "ts") 350)]) 0) (@List.toArray (Option Value) []))) ::
  ((nat_lit 112), (Obj.mk (Value.type "tuple") none (Data.seq (@List.toArray Value []) 0) (@List.toArray (Option Value) []))) ::
  ((nat_lit 114), (Obj.mk (Value.type "code") none (Data.fields (@List.toArray Value [(Value.str (Str.ofString "less") 344), (Value.str (Str.ofString "Whitespace.less") 345), (Value.str (Str.ofString "/claim/cut.py") 346), (Value.int (146 : Int) 0), (Value.int (2 : Int) 0), (Value.int (0 : Int) 0), (Value.int (0 : Int) 0), (Value.int (3 : Int) 0), (Value.ref 109), (Value.bool @_root_.Bool.true), (Value.int (181 : Int) 0), (Value.ref 110), Value.none, (Value.ref 111), (Value.ref 112), (Value.ref 113), (Value.int (351 : Int) 0), (Value.int (146 : Int) 0), (Value.str (Str.ofString "/claim/cut.py") 352)])) (@List.toArray (Option Value) []))) ::
  ((nat_lit 115), a115) ::
  ((nat_lit 116), (Obj.mk (Value.type "tuple") none (Data.seq (@List.toArray Value []) 0) (@List.toArray (Option Value) []))) ::
  ((nat_lit 118), (Obj.mk (Value.type "tuple") none (Data.seq (@List.toArray Value [(Value.str (Str.ofString "self") 357), (Value.str (Str.ofString "other") 358)]) 0) (@List.toArray (Option Value) []))) ::
  ((nat_lit 119), (Obj.mk (Value.type "tuple") none (Data.seq (@List.toArray Value []) 0) (@List.toArray (Option Value) []))) ::
  ((nat_lit 121), (Obj.mk (Value.type "code") none (Data.fields (@List.toArray Value [(Value.str (Str.ofString "not_less_witness") 354), (Value.str (Str.ofString "Whitespace.not_less_witness") 355), (Value.str (Str.ofString "/claim/cut.py") 356), (Value.int (157 : Int) 0), (Value.int (2 : Int) 0), (Value.int (0 : Int) 0), (Value.int (0 : Int) 0), (Value.int (3 : Int) 0), (Value.ref 116), (Value.bool @_root_.Bool.true), (Value.int (181 : Int) 0), (Value.ref 117), Value.none, (Value.ref 118), (Value.ref 119), (Value.ref 120), (Value.int (359 : Int) 0), (Value.int (157 : Int) 0), (Value.str (Str.ofString "/claim/cut.py") 360)])) (@List.toArray (Option Value) []))) ::
  ((nat_lit 122), a122) ::
  ((nat_lit 123), (Obj.mk (Value.type "tuple") none (Data.seq (@List.toArray Value [(Value.str (Str.ofString "is_simple") 362), (Value.str (Str.ofString "n") 363), (Value.str (Str.ofString "norm") 364), (Value.str (Str.ofString "nt") 365), (Value.str (Str.ofString "raw") 366)]) 0) (@List.toArray (Option Value) []))) ::
  ((nat_lit 124), (Obj.mk (Value.type "dict") none (Data.dict (@List.toArray DictEntry [(DictEntry.mk (PyData.keyHash P (Str.ofString "__module__")) (Value.str (Str.ofString "__module__") 282) (Value.str (Str.ofString "cpy313.tabnanny") 273)), (DictEntry.mk (PyData.keyHash P (Str.ofString "__firstlineno__")) (Value.str (Str.ofString "__firstlineno__") 286) (Value.int (103 : Int) 285)), (DictEntry.mk (PyData.keyHash P (Str.ofString "S")) (Value.str (Str.ofString "S") 290) (Value.str (Str.ofString " ") 288)), (DictEntry.mk (PyData.keyHash P (Str.ofString "T")) (Value.str (Str.ofString "T") 291) (Value.str (Str.ofString "\t") 289)), (DictEntry.mk (PyData.keyHash P (Str.ofString "__init__")) (Value.str (Str.ofString "__init__") 306) (Value.ref 80)), (DictEntry.mk (PyData.keyHash P (Str.ofString "longest_run_of_spaces")) (Value.str (Str.ofString "longest_run_of_spaces") 315) (Value.ref 87)), (DictEntry.mk (PyData.keyHash P (Str.ofString "indent_level")) (Value.str (Str.ofString "indent_level") 327) (Value.ref 94)), (DictEntry.mk (PyData.keyHash P (Str.ofString "equal")) (Value.str (Str.ofString "equal") 335) (Value.ref 101)), (DictEntry.mk (PyData.keyHash P (Str.ofString "not_equal_witness")) (Value.str (Str.ofString "not_equal_witness") 343) (Value.ref 108)), (DictEntry.mk (PyData.keyHash P (Str.ofString "less")) (Value.str (Str.ofString "less") 353) (Value.ref 115)), (DictEntry.mk (PyData.keyHash P (Str.ofString "not_less_witness")) (Value.str (Str.ofString "not_less_witness") 361) (Value.ref 122)), (DictEntry.mk (PyData.keyHash P (Str.ofString "__static_attributes__")) (Value.str (Str.ofString "__static_attributes__") 367) (Value.ref 123)), (DictEntry.mk (PyData.keyHash P (Str.ofString "__dict__")) (Value.str (Str.ofString "__dict__") 369) (Value.ref 126)), (DictEntry.mk (PyData.keyHash P (Str.ofString "__weakref__")) (Value.str (Str.ofString "__weakref__") 371) (Value.ref 127)), (DictEntry.mk (PyData.keyHash P (Str.ofString "__doc__")) (Value.str (Str.ofString "__doc__") 372) Value.none)]) 4) (@List.toArray (Option Value) []))) ::
  ((nat_lit 125), (Obj.mk (Value.type "type") none (Data.cls (PySem.ClassData.mk (Str.ofString "Whitespace") [(Value.type "object")] [(Value.ref 125), (Value.type "object")] 124 (Str.ofString "Whitespace") @_root_.Bool.true [] [] @_root_.Bool.false none @_root_.Bool.false)) (@List.toArray (Option Value) [none, none, (some (Value.str (Str.ofString "Whitespace") 275)), (some (Value.str (Str.ofString "Whitespace") 283)), (some (Value.builtin "object.__new__")), (some (Value.bool @_root_.Bool.true))]))) ::
  ((nat_lit 126), (Obj.mk (Value.type "getset_descriptor") none (Data.fields (@List.toArray Value [(Value.str (Str.ofString "__dict__") 368), (Value.ref 125), (Value.builtin "function.__dict__"), (Value.builtin "function.__dict__#set")])) (@List.toArray (Option Value) []))) ::
  ((nat_lit 127), (Obj.mk (Value.type "getset_descriptor") none (Data.fields (@List.toArray Value [(Value.str (Str.ofString "__weakref__") 370), (Value.ref 125), (Value.builtin "ExceptionGroup.__weakref__"), Value.none])) (@List.toArray (Option Value) []))) ::
  ((nat_lit 130), (Obj.mk (Value.type "tuple") none (Data.seq (@List.toArray Value []) 0) (@List.toArray (Option Value) []))) ::
  ((nat_lit 132), (Obj.mk (Value.type "tuple") none (Data.seq (@List.toArray Value [(Value.str (Str.ofString "pairs") 380), (Value.str (Str.ofString "digits") 381), (Value.str (Str.ofString "row") 382), (Value.str (Str.ofString "place") 383), (Value.str (Str.ofString "opened") 384)]) 0) (@List.toArray (Option Value) []))) ::
  ((nat_lit 133), (Obj.mk (Value.type "tuple") none (Data.seq (@List.toArray Value []) 0) (@List.toArray (Option Value) []))) ::
  ((nat_lit 135), (Obj.mk (Value.type "code") none (Data.fields (@List.toArray Value [(Value.str (Str.ofString "_law_row") 377), (Value.str (Str.ofString "_law_row") 378), (Value.str (Str.ofString "/claim/cut.py") 379), (Value.int (160 : Int) 0), (Value.int (2 : Int) 0), (Value.int (0 : Int) 0), (Value.int (0 : Int) 0), (Value.int (3 : Int) 0), (Value.ref 130), (Value.bool @_root_.Bool.true), (Value.int (181 : Int) 0), (Value.ref 131), Value.none, (Value.ref 132), (Value.ref 133), (Value.ref 134), (Value.int (385 : Int) 0), (Value.int (160 : Int) 0), (Value.str (Str.ofString "/claim/cut.py") 386)])) (@List.toArray (Option Value) []))) ::
  ((nat_lit 136), a136) ::
  ((nat_lit 137), (Obj.mk (Value.type "tuple") none (Data.seq (@List.toArray Value []) 0) (@List.toArray (Option Value) []))) ::
  ((nat_lit 140), (Obj.mk (Value.type "code") none (Data.fields (@List.toArray Value [(Value.str (Str.ofString "_law_norm") 388), (Value.str (Str.ofString "_law_norm") 389), (Value.str (Str.ofString "/claim/cut.py") 390), (Value.int (171 : Int) 0), (Value.int (1 : Int) 0), (Value.int (0 : Int) 0), (Value.int (0 : Int) 0), (Value.int (3 : Int) 0), (Value.ref 137), (Value.bool @_root_.Bool.true), (Value.int (181 : Int) 0), (Value.ref 138), Value.none, Value.none, Value.none, (Value.ref 139), (Value.int (391 : Int) 0), (Value.int (171 : Int) 0), (Value.str (Str.ofString "/claim/cut.py") 392)])) (@List.toArray (Option Value) []))) ::
  ((nat_lit 141), a141) ::
  ((nat_lit 142), (Obj.mk (Value.type "tuple") none (Data.seq (@List.toArray Value []) 0) (@List.toArray (Option Value) []))) ::
  ((nat_lit 145), (Obj.mk (Value.type "code") none (Data.fields (@List.toArray Value [(Value.str (Str.ofString "_law_letters") 394), (Value.str (Str.ofString "_law_letters") 395), (Value.str (Str.ofString "/claim/cut.py") 396), (Value.int (174 : Int) 0), (Value.int (1 : Int) 0), (Value.int (0 : Int) 0), (Value.int (0 : Int) 0), (Value.int (3 : Int) 0), (Value.ref 142), (Value.bool @_root_.Bool.true), (Value.int (181 : Int) 0), (Value.ref 143), Value.none, Value.none, Value.none, (Value.ref 144), (Value.int (397 : Int) 0), (Value.int (174 : Int) 0), (Value.str (Str.ofString "/claim/cut.py") 398)])) (@List.toArray (Option Value) []))) ::
  ((nat_lit 146), a146) ::
  ((nat_lit 147), (Obj.mk (Value.type "tuple") none (Data.seq (@List.toArray Value []) 0) (@List.toArray (Option Value) []))) ::
  ((nat_lit 150), (Obj.mk (Value.type "code") none (Data.fields (@List.toArray Value [(Value.str (Str.ofString "law") 400), (Value.str (Str.ofString "law") 401), (Value.str (Str.ofString "/claim/cut.py") 402), (Value.int (176 : Int) 0), (Value.int (1 : Int) 0), (Value.int (0 : Int) 0), (Value.int (0 : Int) 0), (Value.int (3 : Int) 0), (Value.ref 147), (Value.bool @_root_.Bool.true), (Value.int (181 : Int) 0), (Value.ref 148), Value.none, Value.none, Value.none, (Value.ref 149), (Value.int (403 : Int) 0), (Value.int (176 : Int) 0), (Value.str (Str.ofString "/claim/cut.py") 404)])) (@List.toArray (Option Value) []))) ::
  ((nat_lit 151), a151) :: []
  case e21 =>
    conv in (occs := *) (bodyAt 0) => all_goals whnf
    conv in (occs := *) (paramsAt 0) => all_goals whnf
    conv in (occs := *) (scopeAt 0) => all_goals whnf
    unfold Said
    exact rfl
  case e28 =>
    conv in (occs := *) (bodyAt 5) => all_goals whnf
    conv in (occs := *) (paramsAt 5) => all_goals whnf
    conv in (occs := *) (scopeAt 5) => all_goals whnf
    unfold Said
    exact rfl
  case e35 =>
    conv in (occs := *) (bodyAt 6) => all_goals whnf
    conv in (occs := *) (paramsAt 6) => all_goals whnf
    conv in (occs := *) (scopeAt 6) => all_goals whnf
    unfold Said
    exact rfl
  case e42 =>
    conv in (occs := *) (bodyAt 8) => all_goals whnf
    conv in (occs := *) (paramsAt 8) => all_goals whnf
    conv in (occs := *) (scopeAt 8) => all_goals whnf
    unfold Said
    exact rfl
  case e49 =>
    conv in (occs := *) (bodyAt 9) => all_goals whnf
    conv in (occs := *) (paramsAt 9) => all_goals whnf
    conv in (occs := *) (scopeAt 9) => all_goals whnf
    unfold Said
    exact rfl
  case e56 =>
    conv in (occs := *) (bodyAt 10) => all_goals whnf
    conv in (occs := *) (paramsAt 10) => all_goals whnf
    conv in (occs := *) (scopeAt 10) => all_goals whnf
    unfold Said
    exact rfl
  case e63 =>
    conv in (occs := *) (bodyAt 11) => all_goals whnf
    conv in (occs := *) (paramsAt 11) => all_goals whnf
    conv in (occs := *) (scopeAt 11) => all_goals whnf
    unfold Said
    exact rfl
  case e80 =>
    conv in (occs := *) (mBody 1) => all_goals whnf
    conv in (occs := *) (mParams 1) => all_goals whnf
    conv in (occs := *) (mScope 1) => all_goals whnf
    unfold Said
    exact rfl
  case e87 =>
    conv in (occs := *) (mBody 2) => all_goals whnf
    conv in (occs := *) (mParams 2) => all_goals whnf
    conv in (occs := *) (mScope 2) => all_goals whnf
    unfold Said
    exact rfl
  case e94 =>
    conv in (occs := *) (mBody 3) => all_goals whnf
    conv in (occs := *) (mParams 3) => all_goals whnf
    conv in (occs := *) (mScope 3) => all_goals whnf
    unfold Said
    exact rfl
  case e101 =>
    conv in (occs := *) (mBody 4) => all_goals whnf
    conv in (occs := *) (mParams 4) => all_goals whnf
    conv in (occs := *) (mScope 4) => all_goals whnf
    unfold Said
    exact rfl
  case e108 =>
    conv in (occs := *) (mBody 5) => all_goals whnf
    conv in (occs := *) (mParams 5) => all_goals whnf
    conv in (occs := *) (mScope 4) => all_goals whnf
    unfold Said
    exact rfl
  case e115 =>
    conv in (occs := *) (mBody 6) => all_goals whnf
    conv in (occs := *) (mParams 6) => all_goals whnf
    conv in (occs := *) (mScope 6) => all_goals whnf
    unfold Said
    exact rfl
  case e122 =>
    conv in (occs := *) (mBody 7) => all_goals whnf
    conv in (occs := *) (mParams 7) => all_goals whnf
    conv in (occs := *) (mScope 4) => all_goals whnf
    unfold Said
    exact rfl
  case e136 =>
    conv in (occs := *) (bodyAt 15) => all_goals whnf
    conv in (occs := *) (paramsAt 15) => all_goals whnf
    conv in (occs := *) (scopeAt 15) => all_goals whnf
    unfold Said
    exact rfl
  case e141 =>
    conv in (occs := *) (bodyAt 16) => all_goals whnf
    conv in (occs := *) (paramsAt 16) => all_goals whnf
    conv in (occs := *) (scopeAt 16) => all_goals whnf
    unfold Said
    exact rfl
  case e146 =>
    conv in (occs := *) (bodyAt 17) => all_goals whnf
    conv in (occs := *) (paramsAt 17) => all_goals whnf
    conv in (occs := *) (scopeAt 17) => all_goals whnf
    unfold Said
    exact rfl
  case e151 =>
    conv in (occs := *) (bodyAt 18) => all_goals whnf
    conv in (occs := *) (paramsAt 18) => all_goals whnf
    unfold Said
    exact rfl
noncomputable def view_39 : Program := { PySem.Challenge.pw_sc0089_01 with main := { PySem.Challenge.pw_sc0089_01.main with body := [0, 2, 3, 4, 5, 6, 8, 9, 10, 11, 13, 15, 16, 17, 18].map fun i => PySem.Challenge.pw_sc0089_01.main.body.getD i default } }
/-- the addresses of that part -/
def places : List Addr := 2 :: 3 :: 15 :: 17 :: 18 :: 20 :: 21 :: 22 :: 24 :: 25 :: 27 :: 28 :: 29 :: 31 :: 32 :: 34 :: 35 :: 36 :: 38 :: 39 :: 41 :: 42 :: 43 :: 45 :: 46 :: 48 :: 49 :: 50 :: 52 :: 53 :: 55 :: 56 :: 57 :: 59 :: 60 :: 62 :: 63 :: 74 :: 76 :: 77 :: 79 :: 80 :: 81 :: 83 :: 84 :: 86 :: 87 :: 88 :: 90 :: 91 :: 93 :: 94 :: 95 :: 97 :: 98 :: 100 :: 101 :: 102 :: 104 :: 105 :: 107 :: 108 :: 109 :: 111 :: 112 :: 114 :: 115 :: 116 :: 118 :: 119 :: 121 :: 122 :: 123 :: 124 :: 125 :: 126 :: 127 :: 130 :: 132 :: 133 :: 135 :: 136 :: 137 :: 140 :: 141 :: 142 :: 145 :: 146 :: 147 :: 150 :: 151 :: []
theorem places_are : ∀ P, places = (heap_39 P).map (·.1) := fun _ => by kernel_rfl
noncomputable abbrev hook : Hook := kHook heap_39 places places_are
abbrev lawRow : OpenRow := PySem.Challenge.rw_sc0089_01.row
theorem said : PySem.Challenge.rw_sc0089_01.wellSaid = true := by
  unfold OpenLaw.wellSaid OpenRow.wellSaid OpenRow.partSaid looksOpen
  repeat' (with_reducible refine look_both ?_ ?_)
  all_goals (decide +kernel)
noncomputable abbrev seenTop (s : Shared) : Bool := xlAt view_39 [] s && recOk (RowW.records lawRow.toRowW) s
noncomputable abbrev behind (w : World) (os : OsState) (b : Bool) : Option Shared := topFrom treeTable lawRow.prog (w.withFollow "special-get-raises" b) 1918 ⟨boot_heap w.params, Array.mk [], boot_drawn, boot_toks, os⟩
/-- the text's top, run by the kernel behind the machine's start, once for each way of the world's one row that it asks
(the library's own quick twins of topRun, treeTable, openSeen and nsMap stand in for them: half the time, half the memory) -/
theorem leftF : ∀ (w : World) (os : OsState), (behind w os false).map (fun s => (openSeen view_39 [Str.ofString "Whitespace"] (importedModules lawRow.prog.main.body) seenTop true s, Hook.obs hook s)) = some (openGood view_39 [Str.ofString "Whitespace"], Hook.val hook (w.withFollow "special-get-raises" false)) := fun w os => by
  unfold behind topFrom
  rw [PySem.W.Fast.te14082659384304107361, PySem.W.Fast.te14364793385576792824, PySem.W.Fast.te4187177175401517315, PySem.W.Fast.te8920871248978507458]
  kernel_rfl
theorem leftT : ∀ (w : World) (os : OsState), (behind w os true).map (fun s => (openSeen view_39 [Str.ofString "Whitespace"] (importedModules lawRow.prog.main.body) seenTop true s, Hook.obs hook s)) = some (openGood view_39 [Str.ofString "Whitespace"], Hook.val hook (w.withFollow "special-get-raises" true)) := fun w os => by
  unfold behind topFrom
  rw [PySem.W.Fast.te14082659384304107361, PySem.W.Fast.te14364793385576792824, PySem.W.Fast.te4187177175401517315, PySem.W.Fast.te8920871248978507458]
  kernel_rfl
theorem left : LeftO lawRow.prog view_39 [Str.ofString "Whitespace"] seenTop (Hook.obs hook) (Hook.val hook) 1918 := by
  refine LeftO.of_split "special-get-raises" fun w => ?_
  obtain ⟨⟨h, gs, d, k, os⟩, e, e'⟩ := Option.map_eq_some_iff.mp (boot_open (p := lawRow.prog) (N := 1918) (by kernel_rfl) (by decide) (fun _ => by kernel_rfl) w)
  obtain ⟨rfl, rfl, rfl, rfl⟩ : h = boot_heap w.params ∧ gs = Array.mk [] ∧ d = boot_drawn ∧ k = boot_toks := by simpa using e'
  rw [e]
  exact congrArg some (Prod.ext (leftF w os) (leftT w os))
end hd
end

end
theorem startC0 : True := by
  w_top off
  exact trivial
section
set_option maxRecDepth 100000
section

theorem fill : PySem.Challenge.rw_sc0089_01 = PySem.Challenge.rw_sc0089_01 ∧ Mine.hd.heap_39 = Mine.hd.heap_39 := by
  k_fill
  exact ⟨rfl, rfl⟩

/-- what a call of a text's own def hands back: a value, the heap only grown -/
def LeaveE (g : Heap) (R : Value → Heap → Nat → Prop) (v : Value) (s' s : Shared) : Prop :=
  ∃ h' tk', s' = { s with heap := h', toks := tk' } ∧ g.StaysIn h' ∧ R v h' tk'

theorem leaveE_ {g h' : Heap} {R : Value → Heap → Nat → Prop} {v : Value} {s : Shared} {L : Addr} {m : Str → Option Value} {tk' : Nat} (F : Fr g L h' m) (r : R v h' tk') :
    LeaveE g R v { s with heap := h', toks := tk' } s := ⟨h', tk', rfl, F.keep, r⟩

def Ext (w : World) (mean : ExcName → Option Value) (mg mb : Str → Option Value) (f : Addr) (vs : List Value) (pre : Heap → Prop) (R : Value → Heap → Prop) (dd : Nat) : Prop :=
  ∀ (dp un : Nat) (gd : Option (List Code)) (cn : Str) (cs : Scope) (a : Addr) (ccd : Value) (cl : List (Str × Addr)) (outer : List Env) (A₀ : Around) (base h₀ : Heap) (L : Addr) (m : Str → Option Value) (s : Shared) (Q E : Value → Shared → Prop),
    Below A₀ base outer h₀ → Fr h₀ L s.heap m → (Mine.hd.heap_39 w.params).In h₀ → Top Mine.hd.view_39 [Str.ofString "Whitespace"] mean mg mb h₀ → cs.kind = .function → pre s.heap →
    dp + dd < recursionLimit → un + 8 * dd < cLine →
    (∀ v h' tk', s.heap.StaysIn h' → R v h' → Q v { s with heap := h', toks := tk' }) →
    wpAny (model PySem.Challenge.pw_sc0089_01 w) (ktrTop dp un gd cn cs L a ccd cl outer) (call (.ref f) vs) Q E s

section
variable {prog : Program} {w : World} {A A₀ : Around} {E : Value → Shared → Prop} {s : Shared} {K : Frag} {L : Addr} {h₀ base : Heap} {m mg mb : Str → Option Value} {p : Program} {loose : List Str} {mean : ExcName → Option Value} {Q : Value → Shared → Prop}

theorem code_ext {env : Env} {outer : List Env} {name qual : Str} {params : Arguments} {body : List Stmt} {scope : Scope} {dV kV doc pm cdv ct oc : Value} {an od : Option Addr} {osl : Array (Option Value)} {f : Addr} {vs : List Value} {binds : List (Str × Value)}
    {R : Value → Heap → Prop}
    (B : Below A₀ base outer h₀) (F : Fr h₀ L s.heap m) (X₀ : K.In h₀) (T : Top p loose mean mg mb h₀) (hA : A.frames = some (env :: outer)) (hf : env.frame = some L) (hke : env.scope.kind = .function)
    (hret : ∀ v h' tk', s.heap.StaysIn h' → R v h' → Q v { s with heap := h', toks := tk' })
    (ho : K.lookup f = some ⟨oc, od, .func (fnOf name qual params body scope dV kV doc pm an cdv ct), osl⟩) (hcd : codeIn K cdv qual = true) (hroom : A.depth < recursionLimit)
    (hbind : BindsTo s (fnOf name qual params body scope dV kV doc pm an cdv ct) ⟨vs, []⟩ binds) (hloc : ∀ y ∈ binds, scope.names.lookup y.1 = some .local)
    (h : ∀ h₁ tk₁, Fr s.heap s.heap.objs.size h₁ (fun y => binds.reverse.lookup y) → News s.heap s.heap.objs.size h₁ [] → Below A base (env :: outer) s.heap → K.In s.heap → Top p loose mean mg mb s.heap →
      wpAny (model prog w) (A.deeper (envOf qual scope s.heap.objs.size f cdv)) (execs body (envOf qual scope s.heap.objs.size f cdv))
        (fun fl s' => LeaveE s.heap (fun v h' _ => R v h') (match fl with | .ret v => v | _ => .none) s' s)
        (fun e s' => wpAny (model prog w) (A.deeper (envOf qual scope s.heap.objs.size f cdv)) (leaving (envOf qual scope s.heap.objs.size f cdv) e) (fun _ s'' => E e s'') (fun e' s'' => E e' s'') s')
        { s with heap := h₁, toks := tk₁ })
    (hco : scope.isCoroutine = false) (hgen : scope.isGenerator = false) (hk : scope.kind = .function)
    (hcell : ∀ x ∈ scope.names, x.2 ≠ .cell) : wpAny (model prog w) A (call (.ref f) vs) Q E s := by
  refine wpAny_call ?_
  have BG : Below A base (env :: outer) s.heap := by
    have B₁ := pushX B F hf hke
    exact ⟨hA, B₁.stays, B₁.frames⟩
  refine codeAny_call_def (fd := fnOf name qual params body scope dV kV doc pm an cdv ct) (body := body) (binds := binds) hroom ((X₀.keeps F.keep) _ _ ho) rfl (T.nolimit.keeps F.keep) (codeRec_of (X₀.keeps F.keep) hcd) rfl hbind hcell hloc (fun h₁ hns hk₁ => ?_) hco hgen hk
  refine wpAny_mono (h h₁ _ ⟨hns, hk₁, Nat.le_refl _⟩ News.nil BG (X₀.keeps F.keep) (T.keeps F.keep)) (fun fl s' hl => ?_) fun _ _ y => y
  obtain ⟨h', tk', rfl, st, r⟩ := hl
  exact hret _ h' tk' st r
end
end

end
local macro_rules | `(tactic| walk_at "mine enter") => `(tactic| (refine' code_ext ?k1 ?k2 ?k3 ?k5 ?kA ?kF ?kK ?kR ?k6 ?k7 ?k8 ?k9 ?kB ?_ ?c2 ?c3 ?c4 ?c5; (case kA => exact rfl); (case kF => exact rfl); (case kK => assumption); (case kR => assumption); (case k1 => k_asm); (case k2 => k_asm); (case k3 => k_asm); (case k5 => k_asm); (case k6 => k_is); (case k7 => k_is); (case k8 => ktr_room); (case k9 => exact BindsTo.of_eq rfl); (case c5 => decide); (case kB => exact locs rfl); (case c2 => exact rfl); (case c3 => exact rfl); (case c4 => exact rfl); k_whole; intro h' tk' F' N' B' X' T'; (try dsimp only); (try k_fold)))
local macro_rules | `(tactic| walk_at "mine end") => `(tactic| ((try dsimp only); (try k_unfold); (try dsimp only); (refine leaveE_ (by assumption) ?_)))
theorem startC1 : True := by
  w_top off
  exact trivial
section
set_option maxRecDepth 100000
section
theorem fill1 : PySem.Challenge.rw_sc0089_01 = PySem.Challenge.rw_sc0089_01 ∧ Mine.hd.heap_39 = Mine.hd.heap_39 := by
  k_fill
  exact ⟨rfl, rfl⟩

def subCost (a b : Str) : Int := if a == b then 0 else if Txt.lower a == Txt.lower b then 1 else 2

set_option maxHeartbeats 4000000 in
theorem sub_ext (w : World) (mean : ExcName → Option Value) (mg mb : Str → Option Value) (a b : Str) (ta tb : Tok) :
    Ext w mean mg mb 28 [.str a ta, .str b tb] (fun _ => a.length ≤ 1 ∧ b.length ≤ 1) (fun v _ => ∃ t, v = .int (subCost a b) t) 1 := by
  unfold Ext
  intro dp un gd cn cs ad ccd cl outer A₀ base h₀ L m s Q E B F X T hk hpre hd hu hret
  k_dflt (walk_at "mine enter")
  clear hret
  k_steps
  all_goals (walk_at "mine end")
  all_goals (refine ⟨_, congrArg (Value.int · _) ?_⟩; simp only [subCost, *]; rfl)
end

end
theorem startC2 : True := by
  w_top off
  exact trivial
section
set_option maxRecDepth 100000
section

theorem execs_app_eq {env : Env} (l₂ : List Stmt) : ∀ l₁ : List Stmt, execs (l₁ ++ l₂) env = (execs l₁ env >>= fun f => match f with | .next => execs l₂ env | f => pure f)
  | [] => rfl
  | st :: r => by
      rw [List.cons_append, execs_cons, execs_cons, bind_assoc]
      refine congrArg _ (funext fun f => ?_)
      cases f with
      | next => exact execs_app_eq l₂ r
      | _ => rfl

theorem seg {M : Model} {A : Around} {E : Value → Shared → Prop} {env : Env} {Q : Flow → Shared → Prop} {s : Shared} (l₁ l₂ : List Stmt) (MID : Shared → Prop)
    (h1 : wpAny M A (execs l₁ env) (fun f s₁ => match f with | .next => MID s₁ | f => Q f s₁) E s) (h2 : ∀ s₁, MID s₁ → wpAny M A (execs l₂ env) Q E s₁) :
    wpAny M A (execs (l₁ ++ l₂) env) Q E s := by
  rw [execs_app_eq]
  refine wpAny_bind (wpAny_mono h1 (fun f s₁ h => ?_) fun _ _ x => x)
  cases f with
  | next => exact h2 s₁ h
  | _ => exact wpAny_pure h

def codes (x : Str) : List Nat := x.cps.toList

theorem codes_length (x : Str) : (codes x).length = x.length := rfl
theorem codes_inj {x y : Str} (h : codes x = codes y) : x = y := PySem.Str.ext' (Array.toList_inj.mp h)

theorem slice_from {x : Str} {p : Int} (h0 : 0 ≤ p) (h1 : p ≤ x.length) : codes (Txt.slice x (some p) none) = (codes x).drop p.toNat := by
  rw [slice_from_eq h0 h1 rfl]
  show ((x.cps.toList.drop p.toNat).take _) = _
  rw [List.take_of_length_le]
  · rfl
  · rw [List.length_drop]
    show x.cps.size - _ ≤ _
    have : (x.length : Int) = x.cps.size := rfl
    omega
theorem slice_all {x : Str} : Txt.slice x none none = x := by
  unfold Txt.slice
  rw [if_pos]
  simp [Builtin.Str.strSliceIndices, sliceRange]
  omega
theorem clipTo {n : Nat} {j : Int} (h0 : j < 0) (h1 : 0 ≤ n + j) : Builtin.Str.strSliceIndices none (some j) 1 n = List.range (n + j).toNat := by
  simp only [Builtin.Str.strSliceIndices, sliceRange, show (1 : Int) > 0 by decide, if_true, h0]
  have e : max (0 : Int) (min (j + n) n) = n + j := by omega
  rw [e]
  by_cases hz : 0 < (n : Int) + j
  · rw [if_pos hz]
    have e2 : ((n : Int) + j - 0 + 1 - 1) / 1 = n + j := by omega
    rw [e2]
    refine (List.map_congr_left (g := _root_.id) fun k _ => ?_).trans (List.map_id _)
    show (0 + 1 * (k : Int)).toNat = k
    omega
  · rw [if_neg hz]
    have : ((n : Int) + j).toNat = 0 := by omega
    rw [this]; rfl
theorem range_filterMap (l : List Nat) : ∀ k, k ≤ l.length → (List.range k).filterMap (l.toArray[·]?) = l.take k
  | 0, _ => by simp
  | k + 1, h => by
      rw [List.range_succ, List.filterMap_append, range_filterMap l k (by omega), List.take_add_one]
      have hk : k < l.length := by omega
      simp [List.filterMap_cons, hk]
theorem slice_to {x : Str} {j : Int} (h0 : j < 0) (h1 : 0 ≤ x.length + j) : codes (Txt.slice x none (some j)) = (codes x).take (x.length + j).toNat := by
  unfold Txt.slice
  rw [clipTo h0 h1, List.length_range]
  split
  · rename_i h
    have : (x.length + j).toNat = x.length := by simpa using h
    omega
  · show (List.filterMap (x.cps[·]?) _) = _
    have := range_filterMap (codes x) (x.length + j).toNat (by rw [codes_length]; omega)
    simpa [codes] using this
end
section
/-- a mark that the walk does not look behind -/
def Mid (P : Shared → Prop) (s : Shared) : Prop := P s
theorem fr_small {g h : Heap} {L : Addr} {m : Str → Option Value} (ps : List (Str × Value)) (F : Fr g L h m) (hp : ∀ p ∈ ps, m p.1 = some p.2) : Fr g L h (kstB m ps) := by
  have e : kstB m ps = m := by
    funext y
    exact kstB_eq hp fun _ => rfl
  rw [e]
  exact F
/-- the state behind a piece of a def's body: the heap, the frame by the names that are asked later, the ledger, the facts -/
def At (s : Shared) (g : Heap) (L : Addr) (ps : List (Str × Value)) (news : List (Addr × Obj)) (s₁ : Shared) : Prop :=
  ∃ h' tk' m', s₁ = { s with heap := h', toks := tk' } ∧ Fr g L h' (kstB m' ps) ∧ News g L h' news
theorem at_ {s : Shared} {g h' : Heap} {L : Addr} {m : Str → Option Value} {ps : List (Str × Value)} {news news' : List (Addr × Obj)} {tk' : Nat} (F : Fr g L h' m) (N : News g L h' news') (hp : ∀ p ∈ ps, m p.1 = some p.2) (hn : ∀ p ∈ news, p ∈ news') :
    At s g L ps news { s with heap := h', toks := tk' } := ⟨h', tk', m, rfl, fr_small ps F hp, fun p q => N p (hn p q)⟩
end

end
theorem startP1 : True := by
  w_top off
  exact trivial
section
set_option maxRecDepth 100000
section
/-! plain: the common beginning and end struck -/
def stripPre : List Nat → List Nat → List Nat × List Nat
  | x :: xs, y :: ys => if x = y then stripPre xs ys else (x :: xs, y :: ys)
  | xs, ys => (xs, ys)
theorem stripPre_of : ∀ (p : Nat) (la lb : List Nat), p ≤ la.length → p ≤ lb.length → la.take p = lb.take p → (la.length = p ∨ lb.length = p ∨ la[p]? ≠ lb[p]?) → stripPre la lb = (la.drop p, lb.drop p)
  | 0, [], lb, _, _, _, _ => by simp [stripPre]
  | 0, x :: xs, [], _, _, _, _ => by simp [stripPre]
  | 0, x :: xs, y :: ys, _, _, _, h => by
      have : x ≠ y := by simpa using h
      simp [stripPre, this]
  | p + 1, [], lb, h, _, _, _ => by simp at h
  | p + 1, x :: xs, [], _, h, _, _ => by simp at h
  | p + 1, x :: xs, y :: ys, h1, h2, h3, h4 => by
      simp only [List.take_succ_cons, List.cons.injEq] at h3
      simp only [List.length_cons] at h1 h2
      have ih := stripPre_of p xs ys (by omega) (by omega) h3.2 (by simpa using h4)
      simp [stripPre, h3.1, ih]
def stripPost (la lb : List Nat) : List Nat × List Nat := ((stripPre la.reverse lb.reverse).1.reverse, (stripPre la.reverse lb.reverse).2.reverse)
theorem stripPost_of (q : Nat) (la lb : List Nat) (h1 : q ≤ la.length) (h2 : q ≤ lb.length) (h3 : la.reverse.take q = lb.reverse.take q) (h4 : la.length = q ∨ lb.length = q ∨ la.reverse[q]? ≠ lb.reverse[q]?) :
    stripPost la lb = (la.take (la.length - q), lb.take (lb.length - q)) := by
  unfold stripPost
  rw [stripPre_of q _ _ (by simpa using h1) (by simpa using h2) h3 (by simpa using h4)]
  simp [List.drop_reverse]
theorem take_snoc_eq {la lb : List Nat} {p : Nat} (h : la.take p = lb.take p) (h2 : la[p]? = lb[p]?) : la.take (p + 1) = lb.take (p + 1) := by
  rw [List.take_add_one, List.take_add_one, h, h2]

theorem item_pos {x : Str} {i : Int} (h0 : 0 ≤ i) (h1 : i < x.length) : Txt.item x i = ⟨#[(codes x).getD i.toNat 0]⟩ := by
  rw [beq_iff_eq.mp (item_closes ⟨h0, h1⟩)]
  simp [codes]
theorem item_neg {x : Str} {i : Int} (h0 : i < 0) (h1 : -(x.length : Int) ≤ i) : Txt.item x i = ⟨#[(codes x).getD (i + x.length).toNat 0]⟩ := by
  rw [beq_iff_eq.mp (item_closes_neg h0 h1 rfl)]
  simp [codes]
theorem one_inj {m n : Nat} : ((⟨#[m]⟩ : Str) == ⟨#[n]⟩) = true ↔ m = n := by
  rw [beq_iff_eq]
  constructor
  · intro h
    have : #[m] = #[n] := congrArg Str.cps h
    simpa using this
  · rintro rfl; rfl
theorem getD_eq_iff {la lb : List Nat} {p : Nat} (h1 : p < la.length) (h2 : p < lb.length) : la.getD p 0 = lb.getD p 0 ↔ la[p]? = lb[p]? := by
  simp [h1, h2]
theorem item_pos_eq {a b : Str} {p : Int} (h0 : 0 ≤ p) (h1 : p < a.length) (h2 : p < b.length) : (Txt.item a p == Txt.item b p) = true ↔ (codes a)[p.toNat]? = (codes b)[p.toNat]? := by
  rw [item_pos h0 h1, item_pos h0 h2, one_inj]
  exact getD_eq_iff (by rw [codes_length]; omega) (by rw [codes_length]; omega)
theorem rev_get {la : List Nat} {q : Nat} (h : q < la.length) : la.reverse[q]? = some (la.getD (la.length - 1 - q) 0) := by
  rw [List.getElem?_reverse h]
  have : la.length - 1 - q < la.length := by omega
  simp [this]
theorem item_neg_eq {a b : Str} {p : Int} (h0 : p < 0) (h1 : -(a.length : Int) ≤ p) (h2 : -(b.length : Int) ≤ p) : (Txt.item a p == Txt.item b p) = true ↔ (codes a).reverse[(-p - 1).toNat]? = (codes b).reverse[(-p - 1).toNat]? := by
  rw [item_neg h0 h1, item_neg h0 h2, one_inj, rev_get (by rw [codes_length]; omega), rev_get (by rw [codes_length]; omega), codes_length, codes_length]
  have e1 : a.length - 1 - (-p - 1).toNat = (p + a.length).toNat := by omega
  have e2 : b.length - 1 - (-p - 1).toNat = (p + b.length).toNat := by omega
  rw [e1, e2]
  simp

/-! plain: the rows of the table -/
def cost (x y : Nat) : Int := subCost ⟨#[x]⟩ ⟨#[y]⟩
def innerGo (y : Nat) : List Nat → List Int → Int → Int → Int → Int × Int × List Int
  | x :: xs, o :: os, d, r, mn =>
    let r' := min (min r o + 2) (d + cost y x)
    let res := innerGo y xs os o r' (if r' < mn then r' else mn)
    (res.1, res.2.1, r' :: res.2.2)
  | _, _, _, r, mn => (r, mn, [])
def levGo (la : List Nat) (c : Int) : List Nat → Int → Int → List Int → Int
  | [], _, r, _ => r
  | y :: ys, j, _, row =>
    let s := innerGo y la row (j * 2) (j * 2) 9223372036854775807
    if s.2.1 > c then c + 1 else levGo la c ys (j + 1) s.1 s.2.2
def row0 (n : Nat) : List Int := (List.range n).map fun (i : Nat) => (2 * (i : Int) + 2)
def levMain (la lb : List Nat) (c : Int) : Int :=
  if ((lb.length : Int) - la.length) * 2 > c then c + 1 else levGo la c lb 0 0 (row0 la.length)
def levSwap (la lb : List Nat) (c : Int) : Int := if lb.length < la.length then levMain lb la c else levMain la lb c
def levBoth (p : List Nat × List Nat) (c : Int) : Int :=
  if p.1 = [] ∨ p.2 = [] then 2 * ((p.1.length : Int) + p.2.length)
  else levSwap p.1 p.2 c
def levL (la lb : List Nat) (c : Int) : Int :=
  if la = lb then 0 else levBoth (stripPost (stripPre la lb).1 (stripPre la lb).2) c
def lev (a b : Str) (c : Int) : Int := levL (codes a) (codes b) c
end

end
theorem startC3 : True := by
  w_top off
  exact trivial
section
set_option maxRecDepth 100000
section
theorem fill3 : PySem.Challenge.rw_sc0089_01 = PySem.Challenge.rw_sc0089_01 ∧ Mine.hd.heap_39 = Mine.hd.heap_39 := by
  k_fill
  exact ⟨rfl, rfl⟩
def Held (P : Prop) : Prop := P
theorem Held.out {P : Prop} (h : Held P) : P := h
theorem Held.mk {P : Prop} (h : P) : Held P := h
def Has (m : Str → Option Value) : List (Str × Value) → Prop
  | [] => True
  | p :: r => m p.1 = some p.2 ∧ Has m r
theorem Has.all {m : Str → Option Value} : ∀ {ps : List (Str × Value)}, Has m ps → ∀ p ∈ ps, m p.1 = some p.2
  | _ :: _, h, _, .head _ => h.1
  | _ :: _, h, p, .tail _ hp => Has.all h.2 p hp
theorem Has.nil {m : Str → Option Value} : Has m [] := trivial
theorem Has.cons {m : Str → Option Value} {x : Str} {v : Value} {r : List (Str × Value)} (h : m x = some v) (t : Has m r) : Has m ((x, v) :: r) := ⟨h, t⟩
theorem Has.fr {g h : Heap} {L : Addr} {m : Str → Option Value} {ps : List (Str × Value)} (H : Has m ps) (F : Fr g L h m) : Fr g L h (kstB m ps) := fr_small ps F H.all

/-- a statement apart: what is kept behind it is said by MID -/
theorem cut {M : Model} {A : Around} {E : Value → Shared → Prop} {env : Env} {Q : Flow → Shared → Prop} {s : Shared} {st : Stmt} {rest : List Stmt} (MID : Shared → Prop)
    (h1 : wpAny M A (exec st env) (fun f s₁ => match f with | .next => Mid MID s₁ | f => Q f s₁) E s) (h2 : ∀ s₁, MID s₁ → wpAny M A (execs rest env) Q E s₁) :
    wpAny M A (execs (st :: rest) env) Q E s := by
  rw [execs_cons]
  refine wpAny_bind (wpAny_mono h1 (fun f s₁ h => ?_) fun _ _ x => x)
  cases f with
  | next => exact h2 s₁ h
  | _ => exact wpAny_pure h
/-- the frame alone -/
def AtF (s : Shared) (g : Heap) (L : Addr) (R : (Str → Option Value) → Prop) (s₁ : Shared) : Prop :=
  ∃ h' tk' m', s₁ = { s with heap := h', toks := tk' } ∧ Fr g L h' m' ∧ R m'
theorem atF_ {s : Shared} {g h' : Heap} {L : Addr} {m : Str → Option Value} {tk' : Nat} {R : (Str → Option Value) → Prop} (F : Fr g L h' m) (r : R m) : Mid (AtF s g L R) { s with heap := h', toks := tk' } := ⟨h', tk', m, rfl, F, r⟩
theorem post_more {a b : Str} {q : Int} (h0 : q ≤ 0) (h1 : -q < a.length) (h2 : -q < b.length) (he : (Txt.item a (q - 1) == Txt.item b (q - 1)) = true) (hp : (codes a).reverse.take (-q).toNat = (codes b).reverse.take (-q).toNat) :
    (codes a).reverse.take (-(q - 1)).toNat = (codes b).reverse.take (-(q - 1)).toNat := by
  rw [item_neg_eq (by omega) (by omega) (by omega), show (-(q - 1) - 1).toNat = (-q).toNat by omega] at he
  rw [show (-(q - 1)).toNat = (-q).toNat + 1 by omega]
  exact take_snoc_eq hp he
theorem post_stop {a b : Str} {q : Int} (h0 : q ≤ 0) (h1 : -q < a.length) (h2 : -q < b.length) (he : (Txt.item a (q - 1) == Txt.item b (q - 1)) = false) :
    (codes a).reverse[(-q).toNat]? ≠ (codes b).reverse[(-q).toNat]? := by
  intro hx
  have e := item_neg_eq (a := a) (b := b) (p := q - 1) (by omega) (by omega) (by omega)
  rw [show (-(q - 1) - 1).toNat = (-q).toNat by omega] at e
  rw [e.mpr hx] at he
  cases he
/-- what is wanted behind a walk, hidden from it (the proof's terms stay small) -/
theorem qhide {α : Type} {M : Model} {A : Around} {t : Sem α} {Q₀ : α → Shared → Prop} {E₀ : Value → Shared → Prop} {s : Shared}
    (h : ∀ Q : α → Shared → Prop, (∀ a s₁, Q₀ a s₁ → Q a s₁) → wpAny M A t Q E₀ s) : wpAny M A t Q₀ E₀ s := h Q₀ fun _ _ x => x
theorem ehide {α : Type} {M : Model} {A : Around} {t : Sem α} {Q₀ : α → Shared → Prop} {E₀ : Value → Shared → Prop} {s : Shared} (env : Env) (hE : PassesOwn M A env E₀)
    (h : ∀ E : Value → Shared → Prop, PassesOwn M A env E → wpAny M A t Q₀ E s) : wpAny M A t Q₀ E₀ s := h E₀ hE
end

end
theorem startK1 : True := by
  w_top off
  exact trivial
section
set_option maxRecDepth 100000
section
section
variable {w : World} {mean : ExcName → Option Value} {mg mb : Str → Option Value}
/-- a contract, used -/
theorem ext_use {f : Addr} {vs : List Value} {pre : Heap → Prop} {R : Value → Heap → Prop} {dd : Nat} (C : Ext w mean mg mb f vs pre R dd)
    {dp un : Nat} {gd : Option (List Code)} {cn : Str} {cs : Scope} {a : Addr} {ccd : Value} {cl : List (Str × Addr)} {outer : List Env} {A₀ : Around} {base h₀ : Heap} {L : Addr} {m : Str → Option Value} {news : List (Addr × Obj)} {s : Shared} {Q E : Value → Shared → Prop}
    (B : Below A₀ base outer h₀) (F : Fr h₀ L s.heap m) (N : News h₀ L s.heap news) (X : (Mine.hd.heap_39 w.params).In h₀) (T : Top Mine.hd.view_39 [Str.ofString "Whitespace"] mean mg mb h₀) (hk : cs.kind = .function) (hpre : pre s.heap)
    (hd : dp + dd < recursionLimit) (hu : un + 8 * dd < cLine)
    (ret : ∀ v h' tk', Fr h₀ L h' m → News h₀ L h' news → s.heap.StaysIn h' → R v h' → Q v { s with heap := h', toks := tk' }) :
    wpAny (model PySem.Challenge.pw_sc0089_01 w) (ktrTop dp un gd cn cs L a ccd cl outer) (call (.ref f) vs) Q E s :=
  C dp un gd cn cs a ccd cl outer A₀ base h₀ L m s Q E B F X T hk hpre hd hu fun v h' tk' st r =>
    ret v h' tk' (F.keeps st) (fun p hp => ⟨st _ _ (N p hp).1, (N p hp).2⟩) st r
end

section
variable {prog : Program} {w : World} {A : Around} {E : Value → Shared → Prop} {s : Shared} {env : Env} {h₀ : Heap} {x : Str} {body : List Stmt} {Q : Flow → Shared → Prop}
/-- a turn's end, held for the hand -/
def TurnEnd (h₀ : Heap) (L : Addr) (J : (Str → Option Value) → List (Addr × Obj) → Prop) (own : List (Addr × Obj)) (adr : List Addr) (s₁ : Shared) (Q : Flow → Shared → Prop) (f : Flow) (s₂ : Shared) : Prop :=
  match f with
  | .ret v => Q (.ret v) s₂
  | .brk => Q .next s₂
  | _ => Mid (InvEndN h₀ L J own adr s₁) s₂
theorem TurnEnd.to {h₀ : Heap} {L : Addr} {J : (Str → Option Value) → List (Addr × Obj) → Prop} {own : List (Addr × Obj)} {adr : List Addr} {s₁ : Shared} {f : Flow} {s₂ : Shared} (h : TurnEnd h₀ L J own adr s₁ Q f s₂) :
    InvPostN h₀ L J own adr s₁ Q f s₂ := by cases f <;> exact h
theorem endN_ {h₀ h' : Heap} {L : Addr} {J : (Str → Option Value) → List (Addr × Obj) → Prop} {own news' : List (Addr × Obj)} {adr : List Addr} {s₁ : Shared} {tk : Nat} {m' : Str → Option Value} (nx : List (Addr × Obj))
    (F : Fr h₀ L h' m') (N : News h₀ L h' news') (hn : ∀ p ∈ nx, p ∈ news') (ho : ∀ p ∈ own, p ∈ news') (ha : nx.map (·.1) = adr) (hj : J m' nx) : Mid (InvEndN h₀ L J own adr s₁) { s₁ with heap := h', toks := tk } :=
  ⟨h', tk, m', news', nx, rfl, F, N, hn, ho, ha, hj⟩
theorem end1_ {h₀ h' : Heap} {L D : Addr} {o : Obj} {J : (Str → Option Value) → List (Addr × Obj) → Prop} {own : List (Addr × Obj)} {s₁ : Shared} {tk : Nat} {m' : Str → Option Value}
    (F : Fr h₀ L h' m') (N : News h₀ L h' ((D, o) :: own)) (hj : J m' [(D, o)]) : Mid (InvEndN h₀ L J own [D] s₁) { s₁ with heap := h', toks := tk } :=
  endN_ [(D, o)] F N (fun p hp => by rw [List.mem_singleton.mp hp]; exact .head _) (fun _ hp => .tail _ hp) rfl hj
theorem end2_ {h₀ h' : Heap} {L D : Addr} {o : Obj} {J : (Str → Option Value) → List (Addr × Obj) → Prop} {own0 own : List (Addr × Obj)} {adr : List Addr} {s₁ : Shared} {tk : Nat} {m' : Str → Option Value}
    (F : Fr h₀ L h' m') (N : News h₀ L h' ((D, o) :: (own0 ++ own))) (ha : D :: own0.map (·.1) = adr) (hj : J m' ((D, o) :: own0)) : Mid (InvEndN h₀ L J own adr s₁) { s₁ with heap := h', toks := tk } :=
  endN_ ((D, o) :: own0) F N (fun p hp => by
    rcases List.mem_cons.mp hp with rfl | hp
    · exact .head _
    · exact .tail _ (List.mem_append_left _ hp)) (fun _ hp => .tail _ (List.mem_append_right _ hp)) ha hj
theorem off_app {D : Addr} {adr : List Addr} {own0 own : List (Addr × Obj)} (h0 : ∀ p ∈ own0, p.1 ≠ D) (h : OwnOff own (D :: adr)) : ∀ p ∈ own0 ++ own, p.1 ≠ D := fun p hp =>
  (List.mem_append.mp hp).elim (h0 p) (h.ne (.head _) p)
theorem iter_rangeJ {r : Addr} {a₀ b₀ : Int} {t₀ u₀ v₀ : Tok} {n : Nat} {m₀ : Str → Option Value} {news : List (Addr × Obj)} (J : Nat → (Str → Option Value) → List (Addr × Obj) → Prop)
    (hh : A.handled = none) (hr : IsRange s.heap r a₀ b₀ 1 t₀ u₀ v₀) (hsmall : Builtin.Range.small a₀ b₀ 1 = true) (hn : Builtin.Range.rangeSize a₀ b₀ 1 = (n : Int)) (F : Fr h₀ env.locals s.heap m₀) (N : News h₀ env.locals s.heap news) (hj : J 0 m₀ news)
    (turn : ∀ i t m₁ nx h tk own, i < n → OwnOff own (news.map (·.1)) → J i m₁ nx → Fr h₀ env.locals h (fun y => if y = x then some (.int (a₀ + (i : Nat)) t) else m₁ y) → News h₀ env.locals h (nx ++ own) →
      wpAny (model prog w) A (execs body env) (TurnEnd h₀ env.locals (J (i + 1)) own (news.map (·.1)) { s with heap := h, toks := tk } Q) E { s with heap := h, toks := tk })
    (done : ∀ m₁ nx h tk, J n m₁ nx → Fr h₀ env.locals h m₁ → News h₀ env.locals h nx → Q .next { s with heap := h, toks := tk }) :
    wpAny (model prog w) A (pyIter (.ref r)) (fun it s₂ => LoopAtV prog w A h₀ env x body Q E it s₂) E s := by
  refine wpAny_pyIter_range hr hsmall ?_
  have W : Walks prog w A s.heap.objs.size [s.heap.objs.size] [s.heap.objs.size] n (fun i v => i < n ∧ ∃ t, v = .int (a₀ + i * 1) t)
      (fun i h => IsRangeIter h s.heap.objs.size (a₀ + (i : Nat) * 1) ((n : Int) - (i : Nat)) 1) := (Walks.range hh _ a₀ 1 n).bound
  refine loop_invN J W ?_ ?_ ?_ ?_ (by show IsRangeIter _ _ _ _ _; rw [hn]; simpa using Heap.get?_push_size _ rfl) (F.push _) (fun p hp => ⟨Heap.get?_push_of_some _ (N p hp).1, (N p hp).2⟩) hj ?_ ?_
  · intro hm
    exact absurd F.ns.lt ((List.mem_singleton.mp hm) ▸ Nat.lt_irrefl _)
  · intro b hb
    rw [List.mem_singleton.mp hb]
    exact next_is_new F
  · intro p hp hI
    exact absurd (Heap.lt_size (N p hp).1) ((List.mem_singleton.mp hI) ▸ Nat.lt_irrefl _)
  · intro p hp hI
    exact absurd (Heap.lt_size (N p hp).1) ((List.mem_singleton.mp hI) ▸ Nat.lt_irrefl _)
  · rintro i v m₁ nx h tk own hi ⟨_, t, rfl⟩ _ hoff hJ F' N'
    refine wpAny_mono (turn i t m₁ nx h tk own hi hoff hJ (by simpa using F') N') (fun f s₂ e => e.to) fun _ _ e => e
  · exact done
end

section
variable {prog : Program} {w : World} {A : Around} {E : Value → Shared → Prop} {s : Shared} {h₀ : Heap} {L D : Addr} {m : Str → Option Value} {news own : List (Addr × Obj)} {vd vr : List Value} {v x : Value} {i : Int} {u : Tok} {k : Nat}
theorem sub_mid {value slice : PySem.Expr} {Q : Value → Shared → Prop} (N : News h₀ L s.heap news) (hm : (D, listOf (vd ++ v :: vr).toArray k) ∈ news) (hi : i = (vd.length : Int)) (hb : i < 2 ^ 63) (h : Q v s)
    (hs : subscripted slice false (.ref D) (.int i u) = operate [.ref D, .int i u] (getItem (.ref D) (.int i u)) := by with_unfolding_all rfl) :
    wpAny (model prog w) A (subscriptTail value slice (.ref D) (.int i u)) Q E s :=
  have hl : s.heap.IsList D (vd ++ v :: vr).toArray := News.isList N hm
  tail_any hl.typeIs slot_list_getitem.lookup (wpAny_getItem_list hl (by omega) hb (by subst hi; simp) h) hs
theorem set_mid {Q : Unit → Shared → Prop} (F : Fr h₀ L s.heap m) (N : News h₀ L s.heap ((D, listOf (vd ++ v :: vr).toArray k) :: own)) (hoff : ∀ p ∈ own, p.1 ≠ D) (hi : i = (vd.length : Int)) (hb : i < 2 ^ 63)
    (h : ∀ h', Fr h₀ L h' m → News h₀ L h' ((D, listOf (vd ++ x :: vr).toArray k) :: own) → Q () { s with heap := h' }) : wpAny (model prog w) A (setItem (.ref D) (.int i u) x) Q E s := by
  have z := N _ (.head _)
  have hsz : (vd ++ v :: vr).toArray.size = vd.length + (vr.length + 1) := by simp
  refine ki_setAt z.1 (by omega) hb (by omega) (h _ (F.change (Heap.SameBut.update ..) z.2.1 z.2.2) (ki_turn (pre := []) _ N (fun _ h => nomatch h) hoff ?_ ?_))
  · show (vd ++ v :: vr).toArray.setIfInBounds i.toNat x = (vd ++ x :: vr).toArray
    subst hi
    apply Array.toList_inj.mp
    simp
  · simp
end

theorem Has.push {m : Str → Option Value} {x : Str} {v : Value} : ∀ {ps : List (Str × Value)}, Has m ps → (ps.all fun p => !decide (p.1 = x)) = true → Has (fun y => if y = x then some v else m y) ((x, v) :: ps) := by
  intro ps H hne
  refine ⟨if_pos rfl, ?_⟩
  induction ps with
  | nil => exact trivial
  | cons p r ih =>
    rw [List.all_cons, Bool.and_eq_true] at hne
    exact ⟨(if_neg (by simpa using hne.1)).trans H.1, ih H.2 hne.2⟩
theorem drop_at {α : Type} {l : List α} {i : Nat} {d : α} (h : i < l.length) : l.drop i = l.getD i d :: l.drop (i + 1) := by
  rw [List.drop_eq_getElem_cons h]
  simp [h]
theorem min_if {a b : Int} : (if b < a then b else a) = min a b := by split <;> omega
theorem rangeSize_two (n : Nat) : Builtin.Range.rangeSize 2 (2 * ((n : Int) + 1)) 2 = (n : Int) := by
  unfold Builtin.Range.rangeSize
  rw [if_pos (by decide)]
  split <;> omega
theorem fits_long {i : Int} (h0 : -9223372036854775808 ≤ i) (h1 : i < 9223372036854775808) : Builtin.Range.rangeFitsLong i = true := by
  unfold Builtin.Range.rangeFitsLong
  rw [Bool.and_eq_true]
  exact ⟨decide_eq_true h0, decide_eq_true h1⟩
theorem small_two {n : Nat} (h : n ≤ 1000) : Builtin.Range.small 2 (2 * ((n : Int) + 1)) 2 = true := by
  unfold Builtin.Range.small
  rw [rangeSize_two, fits_long (i := 2) (by omega) (by omega), fits_long (i := 2 * ((n : Int) + 1)) (by omega) (by omega), fits_long (i := (n : Int)) (by omega) (by omega), if_pos (by omega), fits_long (by omega) (by omega)]
  simp
theorem rangeInts_two (n : Nat) : rangeInts 2 2 n = row0 n := by
  unfold rangeInts row0
  refine List.map_congr_left fun i _ => ?_
  omega
section
variable {prog : Program} {w : World} {A : Around} {E : Value → Shared → Prop} {s : Shared} {h₀ : Heap} {L : Addr} {m : Str → Option Value} {Q : Value → Shared → Prop}
theorem list_two {r : Addr} {n : Nat} {t u v : Tok} {news : List (Addr × Obj)} (hh : A.handled = none) (F : Fr h₀ L s.heap m) (N : News h₀ L s.heap news) (hr : IsRange s.heap r 2 (2 * ((n : Int) + 1)) 2 t u v) (hlen : n ≤ 1000)
    (hQ : ∀ h' tk ys k, Fr h₀ L h' m → News h₀ L h' ((s.heap.objs.size, listOf (List.toArray ys) k) :: news) → (∀ p ∈ news, p.1 ≠ s.heap.objs.size) → IntsAre ys (row0 n) → Q (.ref s.heap.objs.size) { s with heap := h', toks := tk }) :
    wpAny (model prog w) A (call (.type "list") [.ref r]) Q E s := by
  refine list_rangeD hh F N hr (small_two hlen) (rangeSize_two n) (by omega) fun h' tk ys F' N' hk hnew _ hp hc => ?_
  obtain ⟨⟨k, hD⟩, hoff⟩ := hp
  refine hQ h' tk ys k F' (fun p hp => ?_) hoff ?_
  · rcases List.mem_cons.mp hp with rfl | hp
    · exact ⟨hD, Nat.ne_of_gt F.ns.lt, hnew⟩
    · exact N' p hp
  · rw [rangeInts_two] at hc
    exact IntsAre.ofCarried hc
end
end

end
local macro_rules | `(tactic| walk_at "mine r0") => `(tactic| ((with_reducible show wpAny _ _ (execs (Stmt.For _ _ _ _ _ :: _) _) _ _ _); (with_reducible refine Held.out ?_)))
local macro_rules | `(tactic| walk_at "mine r1") => `(tactic| ((with_reducible refine Held.out ?_)))
local macro_rules | `(tactic| walk_at "mine r2") => `(tactic| (k_here; (rename Fr _ _ _ _ => lF'); (with_unfolding_all refine' For_invVF lF' ?k1 ?k2 ?_ ?k3 ?k4; (case k1 => exact rfl); (case k2 => exact rfl); (case k3 => intro _; exact rfl); (case k4 => assumption); k_whole)))
local macro_rules | `(tactic| walk_at "mine has") => `(tactic| repeat' (first | exact Has.nil | (refine Has.cons (by rfl) ?_)))
theorem startC6 : True := by
  w_top off
  exact trivial
section
set_option maxRecDepth 100000
section
theorem fill6 : PySem.Challenge.rw_sc0089_01 = PySem.Challenge.rw_sc0089_01 ∧ Mine.hd.heap_39 = Mine.hd.heap_39 := by
  k_fill
  exact ⟨rfl, rfl⟩
def forBody : Stmt → List Stmt
  | .For _ _ b _ _ => b
  | _ => []
def levEnv (L : Addr) : Env := envOf (Str.ofString "_levenshtein_distance") (scopeAt 6) L 35 (.ref 34)
local macro_rules | `(tactic| walk_at "execs cons") => `(tactic| walk_at "mine r0")
local macro_rules | `(tactic| walk_at "pyIter ref") => `(tactic| walk_at "mine r1")
local macro_rules | `(tactic| walk_at "exec For Name Call cons nil") => `(tactic| walk_at "mine r2")
local macro_rules | `(tactic| walk_at "call ref") => `(tactic| (k_here; k_dflt (refine' ext_use (sub_ext _ _ _ _ _ _ _ _) ?k1 ?k2 ?k3 ?k4 ?k5 ?kK ?kP ?kd ?ku ?_; (case k1 => k_asm); (case k2 => k_asm); (case k3 => k_asm); (case k4 => k_asm); (case k5 => k_asm); (case kK => exact rfl); (case kP => (refine ⟨?_, ?_⟩ <;> (first | omega | exact Nat.le_refl _))); (case kd => ktr_room); (case ku => ktr_units)); intro v9 h9 tk9 F9 N9 st9 r9; obtain ⟨t9, e9⟩ := r9; subst e9; (try dsimp only)))

local macro_rules | `(tactic| walk_at "subscriptTail") => `(tactic| ((with_reducible show wpAny _ _ (subscriptTail _ _ (Value.ref _) (Value.int _ _)) _ _ _); (rename News _ _ _ _ => N9); refine sub_mid N9 (by exact .head _) (by omega) (by omega) ?_))
local macro_rules | `(tactic| walk_at "setItem ref int") => `(tactic| ((rename Fr _ _ _ _ => F9); (rename News _ _ _ _ => N9); refine set_mid F9 N9 (by assumption) (by omega) (by omega) ?_; intro h9 F8 N8; (try dsimp only)))

def InnerJ (g : Heap) (x y : Str) (c j : Int) (yc : Nat) (D : Addr) (tx ty tc tj tb : Tok) (k : Nat) (own0 : List (Addr × Obj)) (row : List Int) (fin : Int × Int × List Int) (i : Nat) (m : Str → Option Value) (nx : List (Addr × Obj)) : Prop :=
  ∃ (d r mn : Int) (dn : List Int) (vd vr : List Value) (td tr tm : Tok),
    Has m [("a", .str x tx), ("b", .str y ty), ("max_cost", .int c tc), ("bindex", .int j tj), ("bchar", .str ⟨#[yc]⟩ tb), ("row", .ref D), ("distance", .int d td), ("result", .int r tr), ("minimum", .int mn tm)] ∧
    nx = (D, listOf (vd ++ vr).toArray k) :: own0 ∧ IntsAre vd dn ∧ vd.length = i ∧ IntsAre vr (row.drop i) ∧
    fin = ((innerGo yc ((codes x).drop i) (row.drop i) d r mn).1, (innerGo yc ((codes x).drop i) (row.drop i) d r mn).2.1, dn ++ (innerGo yc ((codes x).drop i) (row.drop i) d r mn).2.2)

set_option maxHeartbeats 4000000 in
theorem lev_inner (w : World) (mean : ExcName → Option Value) (mg mb : Str → Option Value) (x y : Str) (c j : Int) (yc : Nat) (d0 r0 mn0 : Int) (row : List Int) (tx ty tc tj : Tok)
    (dp un : Nat) (gd : Option (List Code)) (cn : Str) (cs : Scope) (ad : Addr) (ccd : Value) (cl : List (Str × Addr)) (outer : List Env) (base g : Heap) (L L' D : Addr) (m : Str → Option Value) (s : Shared) (Q : Flow → Shared → Prop) (E : Value → Shared → Prop) (vs : List Value) (k : Nat) (tb td tr tm : Tok) (own0 : List (Addr × Obj))
    (B : Below (ktrTop dp un gd cn cs L' ad ccd cl outer) base (envX cn cs L' ad ccd cl :: outer) g)
    (F : Fr g L s.heap m) (H : Has m [("a", .str x tx), ("b", .str y ty), ("max_cost", .int c tc), ("bindex", .int j tj), ("bchar", .str ⟨#[yc]⟩ tb), ("row", .ref D), ("distance", .int d0 td), ("result", .int r0 tr), ("minimum", .int mn0 tm)])
    (N : News g L s.heap ((D, listOf vs.toArray k) :: own0)) (hoff0 : ∀ p ∈ own0, p.1 ≠ D) (X : (Mine.hd.heap_39 w.params).In g) (T : Top Mine.hd.view_39 [Str.ofString "Whitespace"] mean mg mb g)
    (hd : dp + 2 < recursionLimit) (hu : un + 8 * 2 < cLine) (hE : PassesOwn (model PySem.Challenge.pw_sc0089_01 w) ((ktrTop dp un gd cn cs L' ad ccd cl outer).deeper (levEnv L)) (levEnv L) E)
    (hx : x.length ≤ 40) (hI : IntsAre vs row) (hlen : row.length = x.length)
    (hQ : ∀ h' tk' m' vs' r' mn' row' tr tm, Fr g L h' m' → Has m' [("a", .str x tx), ("b", .str y ty), ("max_cost", .int c tc), ("bindex", .int j tj), ("row", .ref D), ("result", .int r' tr), ("minimum", .int mn' tm)] → News g L h' ((D, listOf (List.toArray vs') k) :: own0) → IntsAre vs' row' → innerGo yc (codes x) row d0 r0 mn0 = (r', mn', row') →
      Q .next { s with heap := h', toks := tk' }) :
    wpAny (model PySem.Challenge.pw_sc0089_01 w) ((ktrTop dp un gd cn cs L' ad ccd cl outer).deeper (levEnv L)) (exec ((forBody ((bodyAt 6).getD 15 default)).getD 3 default) (levEnv L)) Q E s := by
  have H0 := H
  replace F := H.fr F
  dsimp only [kstB] at F
  conv in (List.getD _ 3 _) => whnf
  delta levEnv at *
  conv in (occs := *) (scopeAt 6) => all_goals whnf
  conv at hE in (occs := *) (scopeAt 6) => all_goals whnf
  k_steps
  unfold Held
  rename IsRange _ _ _ _ _ _ _ _ => hR
  rename Fr _ _ _ _ => F1
  rename News _ _ _ _ => N1
  try dsimp only
  have hxl := codes_length x
  refine iter_rangeJ (n := x.length) (InnerJ g x y c j yc D tx ty tc tj tb k own0 row (innerGo yc (codes x) row d0 r0 mn0)) rfl hR (small_one (by omega) (by omega) (by omega) (by omega)) (by rw [rangeSize_nat]; omega) F1 N1 ⟨d0, r0, mn0, [], [], vs, td, tr, tm, by walk_at "mine has", rfl, .nil, rfl, hI, rfl⟩ ?_ ?_
  · rintro i t m₁ nx h tk own hi hoff ⟨d, r, mn, dn, vd, vr, td', tr', tm', H', rfl, hd', hvl, hr', hfin⟩ F2 N2
    rw [Int.zero_add] at F2
    replace F2 := (H'.push (x := "index") (v := .int (i : Int) t) (by rfl)).fr F2
    clear F1 N1 H'
    dsimp only [kstB] at F2
    have hcx := drop_at (l := codes x) (i := i) (d := 0) (by omega)
    have hrx := drop_at (l := row) (i := i) (d := 0) (by omega)
    have hit := item_pos (x := x) (i := (i : Int)) (by omega) (by omega)
    rw [Int.toNat_natCast] at hit
    rw [hrx] at hr'
    obtain ⟨to, vr', rfl, hr''⟩ := hr'.cons_inv
    rw [hcx, hrx] at hfin
    generalize (codes x).getD i 0 = cx at *
    generalize row.getD i 0 = o at *
    simp only [List.cons_append] at N2
    have hoff' := off_app hoff0 hoff
    k_steps
    all_goals (
      rename Fr _ _ _ _ => F9
      rename News _ _ _ _ => N9
      rw [List.append_cons] at N9
      refine end2_ F9 N9 rfl ⟨o, _, _, dn ++ [_], vd ++ [_], vr', _, _, _, by walk_at "mine has", rfl, hd'.append (.cons _ _ .nil), by simp [hvl], hr'', ?_⟩
      rw [hfin]
      have hsc : subCost ⟨#[yc]⟩ (Txt.item x i) = cost yc cx := by rw [hit]; rfl
      generalize subCost ⟨#[yc]⟩ (Txt.item x i) = sc at *
      subst hsc
      simp only [min_if] at *
      simp only [innerGo, *, if_true, if_false, List.append_assoc, List.cons_append, List.nil_append])
  · rintro m₁ nx h tk ⟨d, r, mn, dn, vd, vr, td', tr', tm', H', rfl, hd', hvl, hr', hfin⟩ F2 N2
    rw [List.drop_of_length_le (by omega)] at hr'
    cases hr'
    rw [List.drop_of_length_le (by omega), List.append_nil] at *
    refine hQ h tk m₁ vd r mn dn tr' tm' F2 ?_ N2 hd' ?_
    · obtain ⟨a1, a2, a3, a4, a5, a6, a7, a8, a9, _⟩ := H'
      exact ⟨a1, a2, a3, a4, a6, a8, a9, trivial⟩
    · rw [hfin]
      simp [innerGo]
end

end
local macro_rules | `(tactic| walk_at "mine pad") => `(tactic| skip)
theorem startC7 : True := by
  w_top off
  exact trivial
section
set_option maxRecDepth 100000
section
theorem fill7 : PySem.Challenge.rw_sc0089_01 = PySem.Challenge.rw_sc0089_01 ∧ Mine.hd.heap_39 = Mine.hd.heap_39 := by
  k_fill
  exact ⟨rfl, rfl⟩
theorem innerGo_length (y : Nat) : ∀ (la : List Nat) (row : List Int) (d r mn : Int), (innerGo y la row d r mn).2.2.length = min la.length row.length
  | [], row, d, r, mn => by simp [innerGo]
  | x :: xs, [], d, r, mn => by simp [innerGo]
  | x :: xs, o :: os, d, r, mn => by
      simp only [innerGo, List.length_cons, innerGo_length y xs os]
      omega
local macro_rules | `(tactic| walk_at "execs cons") => `(tactic| walk_at "mine r0")
local macro_rules | `(tactic| walk_at "pyIter ref") => `(tactic| walk_at "mine r1")
local macro_rules | `(tactic| walk_at "exec For Name Call cons nil") => `(tactic| walk_at "mine r2")

def OuterJ (x y : Str) (c : Int) (D : Addr) (tx ty tc : Tok) (k : Nat) (fin : Int) (i : Nat) (m : Str → Option Value) (nx : List (Addr × Obj)) : Prop :=
  ∃ (r : Int) (row : List Int) (vs : List Value) (tr : Tok),
    Has m [("a", .str x tx), ("b", .str y ty), ("max_cost", .int c tc), ("row", .ref D), ("result", .int r tr)] ∧
    nx = [(D, listOf vs.toArray k)] ∧ IntsAre vs row ∧ row.length = x.length ∧ fin = levGo (codes x) c ((codes y).drop i) (i : Int) r row

set_option maxHeartbeats 4000000 in
theorem lev_outer (w : World) (mean : ExcName → Option Value) (mg mb : Str → Option Value) (x y : Str) (c r0 fin : Int) (row : List Int) (tx ty tc tr : Tok)
    (dp un : Nat) (gd : Option (List Code)) (cn : Str) (cs : Scope) (ad : Addr) (ccd : Value) (cl : List (Str × Addr)) (outer : List Env) (base g : Heap) (L L' D : Addr) (m : Str → Option Value) (s : Shared) (Q : Flow → Shared → Prop) (E : Value → Shared → Prop) (vs : List Value) (k : Nat)
    (B : Below (ktrTop dp un gd cn cs L' ad ccd cl outer) base (envX cn cs L' ad ccd cl :: outer) g)
    (F : Fr g L s.heap m) (H : Has m [("a", .str x tx), ("b", .str y ty), ("max_cost", .int c tc), ("row", .ref D), ("result", .int r0 tr)])
    (N : News g L s.heap [(D, listOf vs.toArray k)]) (X : (Mine.hd.heap_39 w.params).In g) (T : Top Mine.hd.view_39 [Str.ofString "Whitespace"] mean mg mb g)
    (hd : dp + 2 < recursionLimit) (hu : un + 8 * 2 < cLine) (hE : PassesOwn (model PySem.Challenge.pw_sc0089_01 w) ((ktrTop dp un gd cn cs L' ad ccd cl outer).deeper (levEnv L)) (levEnv L) E)
    (hx : x.length ≤ 40) (hy : y.length ≤ 40) (hI : IntsAre vs row) (hlen : row.length = x.length) (hfin : fin = levGo (codes x) c (codes y) 0 r0 row)
    (hR : ∀ h' tk' m' t, Fr g L h' m' → fin = c + 1 → Q (.ret (.int (c + 1) t)) { s with heap := h', toks := tk' })
    (hQ : ∀ h' tk' m' t vs', Fr g L h' m' → Has m' [("result", .int fin t)] → News g L h' [(D, listOf (List.toArray vs') k)] → Q .next { s with heap := h', toks := tk' }) :
    wpAny (model PySem.Challenge.pw_sc0089_01 w) ((ktrTop dp un gd cn cs L' ad ccd cl outer).deeper (levEnv L)) (exec ((bodyAt 6).getD 15 default) (levEnv L)) Q E s := by
  have H0 := H
  have hE0 := hE
  replace F := H.fr F
  dsimp only [kstB] at F
  conv in (List.getD _ 15 _) => whnf
  delta levEnv at hE ⊢
  conv in (occs := *) (scopeAt 6) => all_goals whnf
  conv at hE in (occs := *) (scopeAt 6) => all_goals whnf
  k_steps
  unfold Held
  rename IsRange _ _ _ _ _ _ _ _ => hRg
  rename Fr _ _ _ _ => F1
  rename News _ _ _ _ => N1
  try dsimp only
  have hxl := codes_length x
  have hyl := codes_length y
  refine iter_rangeJ (n := y.length) (OuterJ x y c D tx ty tc k fin) rfl hRg (small_one (by omega) (by omega) (by omega) (by omega)) (by rw [rangeSize_nat]; omega) F1 N1 ⟨r0, row, vs, tr, by walk_at "mine has", rfl, hI, hlen, hfin⟩ ?_ ?_
  · rintro i t m₁ nx h tk own hi hoff ⟨r, row', vs', tr', H', rfl, hI', hlen', hfin'⟩ F2 N2
    rw [Int.zero_add] at F2
    replace F2 := (H'.push (x := "bindex") (v := .int (i : Int) t) (by rfl)).fr F2
    clear F1 N1 H'
    dsimp only [kstB] at F2
    have hcy := drop_at (l := codes y) (i := i) (d := 0) (by omega)
    have hit := item_pos (x := y) (i := (i : Int)) (by omega) (by omega)
    rw [Int.toNat_natCast] at hit
    rw [hcy] at hfin'
    generalize (codes y).getD i 0 = yc at *
    simp only [List.cons_append, List.nil_append] at N2
    k_steps
    unfold Held
    rename Fr _ _ _ _ => F3
    rename News _ _ _ _ => N3
    rw [hit] at F3
    rw [execs_cons]
    refine wpAny_bind (lev_inner w mean mg mb x y c i yc _ _ _ row' tx ty tc _ dp un gd cn cs ad ccd cl outer base g L L' D _ _ _ E vs' k _ _ _ _ own B F3 (by walk_at "mine has") N3 (fun p hp => hoff.ne (.head _) p hp) X T hd hu hE0 hx hI' hlen' ?_)
    intro h4 tk4 m4 vs4 r4 mn4 row4 tr4 tm4 F4 H4 N4 hI4 hin4
    replace F4 := H4.fr F4
    dsimp only [kstB] at F4
    clear H4 F3 N3
    have hl4 := innerGo_length yc (codes x) row' (i * 2) (i * 2) 9223372036854775807
    rw [hin4] at hl4
    unfold levGo at hfin'
    rw [hin4] at hfin'
    dsimp only at hfin' hl4
    try dsimp only
    k_steps
    · exact hR h4 _ _ _ F4 (by rw [hfin', if_pos (by omega)])
    · refine end2_ (own0 := []) F4 N4 rfl ⟨r4, row4, vs4, tr4, by walk_at "mine has", rfl, hI4, by omega, ?_⟩
      rw [hfin', if_neg (by omega), Int.natCast_succ]
  · rintro m₁ nx h tk ⟨r, row', vs', tr', H', rfl, hI', hlen', hfin'⟩ F2 N2
    rw [List.drop_of_length_le (by omega)] at hfin'
    unfold levGo at hfin'
    obtain ⟨a1, a2, a3, a4, a5, _⟩ := H'
    exact hQ h tk m₁ tr' vs' F2 ⟨by rw [hfin']; exact a5, trivial⟩ N2
end

end
local macro_rules | `(tactic| walk_at "mine pad") => `(tactic| skip)
local macro_rules | `(tactic| walk_at "mine pad") => `(tactic| skip)
theorem startC8 : True := by
  w_top off
  exact trivial
section
set_option maxRecDepth 100000
section
theorem fill8 : PySem.Challenge.rw_sc0089_01 = PySem.Challenge.rw_sc0089_01 ∧ Mine.hd.heap_39 = Mine.hd.heap_39 := by
  k_fill
  exact ⟨rfl, rfl⟩
local macro_rules | `(tactic| walk_at "execs cons") => `(tactic| walk_at "mine r0")
local macro_rules | `(tactic| walk_at "call type:list") => `(tactic| (k_here; (rename Fr _ _ _ _ => F9); (rename News _ _ _ _ => N9); (rename IsRange _ _ _ _ _ _ _ _ => R9); with_unfolding_all refine list_two (by rfl) F9 N9 R9 (by omega) ?_; intro h9 tk9 ys9 k9 F8 N8 O8 I8; (try dsimp only)))
theorem row0_length (n : Nat) : (row0 n).length = n := by simp [row0]

set_option maxHeartbeats 4000000 in
theorem lev_tail (w : World) (mean : ExcName → Option Value) (mg mb : Str → Option Value) (x y : Str) (c : Int) (r : Int) (tx ty tc : Tok)
    (dp un : Nat) (gd : Option (List Code)) (cn : Str) (cs : Scope) (ad : Addr) (ccd : Value) (cl : List (Str × Addr)) (outer : List Env) (base g : Heap) (L L' : Addr) (m : Str → Option Value) (s : Shared) (Q : Flow → Shared → Prop) (E : Value → Shared → Prop)
    (B : Below (ktrTop dp un gd cn cs L' ad ccd cl outer) base (envX cn cs L' ad ccd cl :: outer) g) (F : Fr g L s.heap m) (H : Has m [("a", .str x tx), ("b", .str y ty), ("max_cost", .int c tc)]) (X : (Mine.hd.heap_39 w.params).In g) (T : Top Mine.hd.view_39 [Str.ofString "Whitespace"] mean mg mb g)
    (hd : dp + 2 < recursionLimit) (hu : un + 8 * 2 < cLine) (hE : PassesOwn (model PySem.Challenge.pw_sc0089_01 w) ((ktrTop dp un gd cn cs L' ad ccd cl outer).deeper (levEnv L)) (levEnv L) E)
    (hx0 : 0 < x.length) (hxy : x.length ≤ y.length) (hy : y.length ≤ 40) (hr : r = levMain (codes x) (codes y) c)
    (hQ : ∀ h' tk' m' t, Fr g L h' m' → Q (.ret (.int r t)) { s with heap := h', toks := tk' }) :
    wpAny (model PySem.Challenge.pw_sc0089_01 w) ((ktrTop dp un gd cn cs L' ad ccd cl outer).deeper (levEnv L)) (execs ((bodyAt 6).drop 12) (levEnv L)) Q E s := by
  have hE0 := hE
  have N : News g L s.heap [] := News.nil
  replace F := H.fr F
  dsimp only [kstB] at F
  conv in (List.drop 12 _) => whnf
  delta levEnv at hE ⊢
  conv in (occs := *) (scopeAt 6) => all_goals whnf
  conv at hE in (occs := *) (scopeAt 6) => all_goals whnf
  unfold levMain at hr
  rw [codes_length, codes_length] at hr
  k_steps
  · rw [if_pos (by omega)] at hr
    subst hr
    exact hQ _ _ _ _ (by assumption)
  rw [if_neg (by omega)] at hr
  unfold Held
  rename Fr _ _ _ _ => F3
  rename News _ _ _ _ => N3
  rename IntsAre _ _ => I3
  try dsimp only
  rw [execs_cons]
  refine wpAny_bind (lev_outer w mean mg mb x y c 0 r (row0 x.length) tx ty tc _ dp un gd cn cs ad ccd cl outer base g L L' _ _ _ _ E _ _ B F3 (by walk_at "mine has") N3 X T hd hu hE0 (by omega) hy I3 (row0_length _) hr ?_ ?_)
  · intro h' tk' m' t F4 hf
    rw [hf] at hQ
    exact wpAny_pure (hQ _ _ _ _ F4)
  · intro h' tk' m' t vs' F4 H4 N4
    replace F4 := H4.fr F4
    dsimp only [kstB] at F4
    try dsimp only
    k_steps
    exact hQ _ _ _ _ F4
end

end
local macro_rules | `(tactic| walk_at "mine frame") => `(tactic| ((rename Fr _ _ _ _ => F1)))
local macro_rules | `(tactic| walk_at "mine pad") => `(tactic| skip)
local macro_rules | `(tactic| walk_at "mine pad") => `(tactic| skip)
local macro_rules | `(tactic| walk_at "mine pad") => `(tactic| skip)
theorem startC9 : True := by
  w_top off
  exact trivial
section
set_option maxRecDepth 100000
section
theorem fill9 : PySem.Challenge.rw_sc0089_01 = PySem.Challenge.rw_sc0089_01 ∧ Mine.hd.heap_39 = Mine.hd.heap_39 := by
  k_fill
  exact ⟨rfl, rfl⟩
local macro_rules | `(tactic| walk_at "execs cons") => `(tactic| ((with_reducible show wpAny _ _ (execs (Stmt.While _ _ _ _ :: _) _) _ _ _); (with_reducible refine Held.out ?_)))
local macro_rules | `(tactic| walk_at "subscriptTail Name BinOp str int") => `(tactic| (refine item_str (fitsSsize_of (N := 9223372036854775808) (by omega) (by omega) (Int.le_refl _)) (by omega) (by omega) ?_; intro _; (try dsimp only)))
local macro_rules | `(tactic| walk_at "subscriptTail Name Slice str ref") => `(tactic| ((with_reducible show wpAny _ _ (subscriptTail _ (Expr.Slice none (some (Expr.BoolOp _ _ _)) none _) _ _) _ _ _); (with_reducible rename Fr _ _ _ _ => F'); (with_reducible rename News _ _ _ _ => N'); (refine slice_strN_nn (hsz := ?hsz) (s := ⟨_, _, _, _, _⟩) F' N' ?_); (case hsz => size_fits); intro _ _ _ _ _; (try dsimp only)))
local macro_rules | `(tactic| walk_at "execs cons") => `(tactic| ((with_reducible show wpAny _ _ (execs (Stmt.If (Expr.Compare _ [CmpOp.Lt] _ _) _ _ _ :: _) _) _ _ _); (with_reducible refine Held.out ?_)))
local macro_rules | `(tactic| walk_at "execs cons") => `(tactic| walk_at "mine r0")

set_option maxHeartbeats 4000000 in
theorem lev_ext (w : World) (mean : ExcName → Option Value) (mg mb : Str → Option Value) (a b : Str) (c : Int) (ta tb tc : Tok) :
    Ext w mean mg mb 35 [.str a ta, .str b tb, .int c tc] (fun _ => a.length ≤ 40 ∧ b.length ≤ 40) (fun v _ => ∃ t, v = .int (lev a b c) t) 2 := by
  unfold Ext
  intro dp un gd cn cs ad ccd cl outer A₀ base h₀ L m s Q E B F X T hk hpre hd hu hret
  obtain ⟨ha40, hb40⟩ := hpre
  k_dflt (walk_at "mine enter")
  clear hret
  k_steps
  · walk_at "mine end"
    refine ⟨_, congrArg (Value.int · _) ?_⟩
    rename (a == b) = true => he
    have he' : a = b := by simpa using he
    subst he'
    simp [lev, levL]
  rename (a == b) = false => hab
  rename Fr _ _ _ _ => F1
  rename News _ _ _ _ => N1
  unfold Held
  try dsimp only
  refine ehide (env := envOf (Str.ofString "_levenshtein_distance") (scopeAt 6) s.heap.objs.size 35 (.ref 34)) (by dsimp only [ek]; passes_own) fun E9 hE9 => ?_
  refine qhide fun Q9 hQ9 => ?_
  refine cut (AtF s s.heap s.heap.objs.size fun m' => ∃ (p : Int) (t : Tok), Has m' [("a", .str a ta), ("b", .str b tb), ("max_cost", .int c tc), ("pre", .int p t)] ∧ 0 ≤ p ∧ p ≤ a.length ∧ p ≤ b.length ∧ (codes a).take p.toNat = (codes b).take p.toNat ∧ ((codes a).length = p.toNat ∨ (codes b).length = p.toNat ∨ (codes a)[p.toNat]? ≠ (codes b)[p.toNat]?)) ?_ ?_
  · refine While_inv (fun n m₁ news₁ => news₁ = [] ∧ ∃ (p : Int) (t : Tok), Has m₁ [("a", .str a ta), ("b", .str b tb), ("max_cost", .int c tc), ("pre", .int p t)] ∧ 0 ≤ p ∧ p ≤ a.length ∧ p ≤ b.length ∧ (codes a).take p.toNat = (codes b).take p.toNat ∧ n = a.length - p.toNat) F1 N1 ⟨rfl, 0, _, by walk_at "mine has", by omega, by omega, by omega, by simp, rfl⟩ ?_ ?_
    · rintro n m₁ news₁ h₁ tk₁ F₂ N₂ ⟨rfl, p, t, H, hp0, hpa, hpb, hpre', hn⟩
      replace F₂ := H.fr F₂
      dsimp only [kstB] at F₂
      clear H F1 N1
      have la := codes_length a
      have lb := codes_length b
      refine qhide fun Q8 hQ8 => ?_
      k_steps
      all_goals (refine hQ8 _ _ ?_; try dsimp only)
      all_goals k_steps
      · rename Fr _ _ _ _ => F1
        rename News _ _ _ _ => N1
        rename (Txt.item a p == Txt.item b p) = true => he
        have hap : p < a.length := by omega
        have hbp : p < b.length := by omega
        rw [item_pos_eq hp0 hap hbp] at he
        refine WhileStep.intro F1 N1 (n' := n - 1) (by omega) ⟨rfl, p + 1, _, by walk_at "mine has", by omega, by omega, by omega, ?_, by omega⟩
        rw [show (p + 1).toNat = p.toNat + 1 by omega]
        exact take_snoc_eq hpre' he
      · refine atF_ (by assumption) ⟨p, t, by walk_at "mine has", by omega, by omega, by omega, hpre', .inr (.inr ?_)⟩
        rename (Txt.item a p == Txt.item b p) = false => he
        have hap : p < a.length := by omega
        have hbp : p < b.length := by omega
        intro hx
        rw [← item_pos_eq hp0 hap hbp, he] at hx
        cases hx
      · refine atF_ (by assumption) ⟨p, t, by walk_at "mine has", by omega, by omega, by omega, hpre', .inr (.inl (by omega))⟩
      · refine atF_ (by assumption) ⟨p, t, by walk_at "mine has", by omega, by omega, by omega, hpre', .inl (by omega)⟩
    · exact hE9
  · clear F1 N1
    rintro s₁ ⟨h', tk', m', rfl, F1, p, t, H, hp0, hpa, hpb, hpre', hstop⟩
    replace F1 := H.fr F1
    dsimp only [kstB] at F1
    have N1 : News s.heap s.heap.objs.size h' [] := News.nil
    clear H
    have ea := slice_from (x := a) hp0 hpa
    have eb := slice_from (x := b) hp0 hpb
    have hsp := stripPre_of p.toNat (codes a) (codes b) (by rw [codes_length]; omega) (by rw [codes_length]; omega) hpre' hstop
    rw [← ea, ← eb] at hsp
    clear hstop hpre' ea eb
    k_steps
    rename News _ _ _ _ => N2
    rename Fr _ _ _ _ => F2
    clear hp0 hpa hpb
    generalize Txt.slice a (some p) none = a₁ at *
    generalize Txt.slice b (some p) none = b₁ at *
    try clear F1
    try clear N1
    have la := codes_length a₁
    have lb := codes_length b₁
    unfold Held
    try dsimp only
    refine cut (AtF s s.heap s.heap.objs.size fun m' => ∃ (q : Int) (t ta tb : Tok), Has m' [("a", .str a₁ ta), ("b", .str b₁ tb), ("max_cost", .int c tc), ("post", .int q t)] ∧ q ≤ 0 ∧ -q ≤ a₁.length ∧ -q ≤ b₁.length ∧ (codes a₁).reverse.take (-q).toNat = (codes b₁).reverse.take (-q).toNat ∧ ((codes a₁).length = (-q).toNat ∨ (codes b₁).length = (-q).toNat ∨ (codes a₁).reverse[(-q).toNat]? ≠ (codes b₁).reverse[(-q).toNat]?)) ?_ ?_
    · refine While_inv (fun n m₁ news₁ => news₁ = [] ∧ ∃ (q : Int) (t ta tb : Tok), Has m₁ [("a", .str a₁ ta), ("b", .str b₁ tb), ("max_cost", .int c tc), ("post", .int q t)] ∧ q ≤ 0 ∧ -q ≤ a₁.length ∧ -q ≤ b₁.length ∧ (codes a₁).reverse.take (-q).toNat = (codes b₁).reverse.take (-q).toNat ∧ n = a₁.length - (-q).toNat) F2 N2 ⟨rfl, 0, _, _, _, by walk_at "mine has", by omega, by omega, by omega, by simp, rfl⟩ ?_ ?_
      · rintro n m₁ news₁ h₁ tk₁ F₂ N₂ ⟨rfl, q, t, ta', tb', H, hq0, hqa, hqb, hpre', hn⟩
        replace F₂ := H.fr F₂
        dsimp only [kstB] at F₂
        clear H
        try clear F2
        try clear N2
        rcases (by omega : q = 0 ∨ q < 0) with hq | hq
        · subst hq
          have na : (Txt.slice a₁ none none).length = a₁.length := by rw [slice_all]
          have nb : (Txt.slice b₁ none none).length = b₁.length := by rw [slice_all]
          refine qhide fun Q8 hQ8 => ?_
          k_steps
          all_goals (first | (exfalso; omega) | (refine hQ8 _ _ ?_; try dsimp only))
          all_goals k_steps
          all_goals (first
            | (exfalso; omega)
            | exact WhileStep.intro (by assumption) (by assumption) (n' := n - 1) (by omega) ⟨rfl, _, _, _, _, by walk_at "mine has", by omega, by omega, by omega, post_more (by omega) (by omega) (by omega) (by assumption) hpre', by omega⟩
            | exact atF_ (by assumption) ⟨_, _, _, _, by walk_at "mine has", by omega, by omega, by omega, hpre', .inr (.inr (post_stop (by omega) (by omega) (by omega) (by assumption)))⟩
            | exact atF_ (by assumption) ⟨_, _, _, _, by walk_at "mine has", by omega, by omega, by omega, hpre', .inr (.inl (by omega))⟩
            | exact atF_ (by assumption) ⟨_, _, _, _, by walk_at "mine has", by omega, by omega, by omega, hpre', .inl (by omega)⟩)
        · have sa : ((Txt.slice a₁ none (some q)).length : Int) = a₁.length + q := by
            have := congrArg List.length (slice_to (x := a₁) hq (by omega))
            rw [codes_length, List.length_take, codes_length] at this
            omega
          have sb : ((Txt.slice b₁ none (some q)).length : Int) = b₁.length + q := by
            have := congrArg List.length (slice_to (x := b₁) hq (by omega))
            rw [codes_length, List.length_take, codes_length] at this
            omega
          refine qhide fun Q8 hQ8 => ?_
          k_steps
          all_goals (first | (exfalso; omega) | (refine hQ8 _ _ ?_; try dsimp only))
          all_goals k_steps
          all_goals (first
            | (exfalso; omega)
            | exact WhileStep.intro (by assumption) (by assumption) (n' := n - 1) (by omega) ⟨rfl, _, _, _, _, by walk_at "mine has", by omega, by omega, by omega, post_more (by omega) (by omega) (by omega) (by assumption) hpre', by omega⟩
            | exact atF_ (by assumption) ⟨_, _, _, _, by walk_at "mine has", by omega, by omega, by omega, hpre', .inr (.inr (post_stop (by omega) (by omega) (by omega) (by assumption)))⟩
            | exact atF_ (by assumption) ⟨_, _, _, _, by walk_at "mine has", by omega, by omega, by omega, hpre', .inr (.inl (by omega))⟩
            | exact atF_ (by assumption) ⟨_, _, _, _, by walk_at "mine has", by omega, by omega, by omega, hpre', .inl (by omega)⟩)
      · exact hE9
    · try clear F2
      try clear N2
      rintro s₁ ⟨h', tk', m', rfl, F1, q, t, ta', tb', H, hq0, hqa, hqb, hpre', hstop⟩
      replace F1 := H.fr F1
      dsimp only [kstB] at F1
      have N1 : News s.heap s.heap.objs.size h' [] := News.nil
      clear H
      have ec := stripPost_of (-q).toNat (codes a₁) (codes b₁) (by omega) (by omega) hpre' hstop
      clear hpre' hstop
      refine cut (AtF s s.heap s.heap.objs.size fun m' => ∃ (a₂ : Str) (t ta tb : Tok), Has m' [("a", .str a₂ ta), ("b", .str b₁ tb), ("max_cost", .int c tc), ("post", .int q t)] ∧ codes a₂ = (codes a₁).take ((codes a₁).length - (-q).toNat)) ?_ ?_
      · k_steps
        all_goals (refine atF_ (by assumption) ⟨_, _, _, _, by walk_at "mine has", ?_⟩)
        · rw [slice_to (by omega) (by omega), la]; congr 1; omega
        · rw [slice_all, show q = 0 by assumption]; simp
      try clear F1
      clear N1
      rintro s₁ ⟨h', tk', m', rfl, F1, a₂, t, ta', tb', H, ea⟩
      replace F1 := H.fr F1
      dsimp only [kstB] at F1
      have N1 : News s.heap s.heap.objs.size h' [] := News.nil
      clear H
      refine cut (AtF s s.heap s.heap.objs.size fun m' => ∃ (b₂ : Str) (ta tb : Tok), Has m' [("a", .str a₂ ta), ("b", .str b₂ tb), ("max_cost", .int c tc)] ∧ codes b₂ = (codes b₁).take ((codes b₁).length - (-q).toNat)) ?_ ?_
      · k_steps
        all_goals (refine atF_ (by assumption) ⟨_, _, _, by walk_at "mine has", ?_⟩)
        · rw [slice_to (by omega) (by omega), lb]; congr 1; omega
        · rw [slice_all, show q = 0 by assumption]; simp
      try clear F1
      clear N1
      rintro s₁ ⟨h', tk', m', rfl, F1, b₂, ta', tb', H, eb⟩
      replace F1 := H.fr F1
      dsimp only [kstB] at F1
      have N1 : News s.heap s.heap.objs.size h' [] := News.nil
      clear H
      have la2 : a₂.length ≤ 40 := by
        have := congrArg List.length ea
        rw [codes_length, List.length_take] at this
        omega
      have lb2 : b₂.length ≤ 40 := by
        have := congrArg List.length eb
        rw [codes_length, List.length_take] at this
        omega
      have hlev : lev a b c = levBoth (codes a₂, codes b₂) c := by
        have hne : codes a ≠ codes b := fun h => by
          rw [codes_inj h] at hab
          simp at hab
        unfold lev levL
        rw [if_neg hne, hsp]
        dsimp only
        rw [ec, ea, eb]
      clear ec ea eb hq0 hqa hqb
      k_steps
      rotate_left 1
      all_goals try (
        refine hQ9 _ _ ?_
        try dsimp only
        refine leaveE_ (by assumption) ⟨_, congrArg (Value.int · _) ?_⟩
        rw [hlev]
        have hz : codes a₂ = [] ∨ codes b₂ = [] := by
          first
            | exact .inl (List.eq_nil_of_length_eq_zero (by rw [codes_length]; omega))
            | exact .inr (List.eq_nil_of_length_eq_zero (by rw [codes_length]; omega))
        unfold levBoth
        rw [if_pos hz]
        rfl)
      unfold Held
      try dsimp only
      have hbt : levBoth (codes a₂, codes b₂) c = levSwap (codes a₂) (codes b₂) c := by
        unfold levBoth
        rw [if_neg]
        rintro (h | h) <;> (have h := congrArg List.length h; rw [codes_length, List.length_nil] at h; omega)
      rw [hbt] at hlev
      refine cut (AtF s s.heap s.heap.objs.size fun m' => ∃ (x y : Str) (tx ty : Tok), Has m' [("a", .str x tx), ("b", .str y ty), ("max_cost", .int c tc)] ∧ 0 < x.length ∧ x.length ≤ y.length ∧ y.length ≤ 40 ∧ lev a b c = levMain (codes x) (codes y) c) ?_ ?_
      · k_steps
        all_goals (try dsimp only)
        all_goals (
          refine atF_ (by assumption) ⟨_, _, _, _, by walk_at "mine has", by omega, by omega, by omega, ?_⟩
          rw [hlev]
          unfold levSwap
          first
            | rw [if_pos (by rw [codes_length, codes_length]; omega)]
            | rw [if_neg (by rw [codes_length, codes_length]; omega)])
      clear hlev hbt
      try clear F1
      clear N1
      rintro s₁ ⟨h', tk', m', rfl, F1, x, y, ta', tb', H, hx0, hxy, hy, hlev⟩
      refine lev_tail w mean mg mb x y c _ _ _ _ dp un gd cn cs ad ccd cl outer base s.heap s.heap.objs.size L m' _ _ _ (by assumption) F1 H (by assumption) (by assumption) hd hu hE9 hx0 hxy hy hlev ?_
      intro h' tk' m' t F4
      refine hQ9 _ _ ?_
      walk_at "mine end"
      exact ⟨_, rfl⟩
end

end
theorem startG1 : True := by
  w_top off
  exact trivial
section
set_option maxRecDepth 100000
section
section
variable {M : Model} {A : Around} {R : GenEnd} {Y : Protocol} {n : Nat} {s₀ : Shared} {c : Code} {fs : List Frame} {s : Shared} {env : Env}
  {K : Flow → Sem Fin} {H : Value → Sem Fin} {gd : Bool → Bool} {lv : List Value → List Value}

theorem gseg_stmt {st : Stmt} (h : wpAny M (A.over c fs) (exec st env) (fun f s' => Seg M A R Y n s₀ c (K f) fs s') (fun _ _ => False) s) :
    Seg M A R Y n s₀ c ((exec st env).wrap K H gd lv) fs s := seg_wrap (wpAny_mono h (fun _ _ x => x) fun _ _ x => x.elim)

theorem gseg_step {α β : Type} {m : Sem α} {k : α → Sem β} {K' : β → Sem Fin} {H' : Value → Sem Fin}
    (h : wpAny M (A.over c fs) m (fun a s' => Seg M A R Y n s₀ c ((k a).wrap K' H' gd lv) fs s') (fun _ _ => False) s) : Seg M A R Y n s₀ c ((m >>= k).wrap K' H' gd lv) fs s :=
  seg_bind_wrap (wpAny_mono h (fun _ _ x => x) fun _ _ x => x.elim)

theorem gseg_If {test : PySem.Expr} {body orelse : List Stmt} {pos : Pos}
    (h : wpAny M (A.over c fs) (isTrue test env (eval test env)) (fun b s' =>
      if b = true then Seg M A R Y n s₀ c ((execs body env).wrap K H gd lv) fs s' else Seg M A R Y n s₀ c ((execs orelse env).wrap K H gd lv) fs s') (fun _ _ => False) s) :
    Seg M A R Y n s₀ c ((exec (.If test body orelse pos) env).wrap K H gd lv) fs s := by
  rw [exec_If]
  refine gseg_step (wpAny_standAt ?_)
  refine gseg_step (wpAny_mono h (fun b s' hb => ?_) fun _ _ x => x)
  cases b
  · simpa using hb
  · simpa using hb

/-- what is done with a loop's end in the frame that holds it -/
def afterLoop (env : Env) (K : Flow → Sem Fin) (H : Value → Sem Fin) (gd : Bool → Bool) (lv : List Value → List Value) (r : Result) : Sem Fin :=
  ((match r with | .ok f => (.pure f : Sem Flow) | .error e => .raise e).onRaise fun (x : Value) => do
        if (← field x 1) == Value.none then unsupported "frame.own-activation:exception-without-traceback"
        setFlight x env.frame).wrap K H gd lv
theorem afterLoop_ok {f : Flow} : afterLoop env K H gd lv (.ok f) = K f := rfl

theorem gseg_For {target iter : PySem.Expr} {body orelse : List Stmt} {pos : Pos}
    (h : wpAny M (A.over c fs) (eval iter env) (fun x s₁ => wpAny M (A.over c fs) (pyIter x) (fun it s₂ =>
      ∀ p, Seg M A R Y n s₀ (.forLoop target it body orelse env) (M.den (.forLoop target it body orelse env)) (.ret (afterLoop env K H gd lv) none (gd false) (lv []) c p [] :: fs) s₂) (fun _ _ => False) s₁) (fun _ _ => False) s)
    (hs : ∀ x, foldedSetIterable iter env x = pure x) :
    Seg M A R Y n s₀ c ((exec (.For target iter body orelse pos) env).wrap K H gd lv) fs s := by
  rw [exec_For]
  refine gseg_step (wpAny_standAt ?_)
  refine gseg_step (wpAny_mono h (fun x s₁ h₁ => ?_) fun _ _ x => x)
  refine gseg_step (wpAny_of_eq (hs x) ?_)
  refine gseg_step (wpAny_standAt ?_)
  refine gseg_step (wpAny_holding (wpAny_mono h₁ (fun it s₂ h₂ => ?_) fun _ _ x => x))
  exact seg_call h₂
end

section
variable {prog : Program} {w : World} {A : Around} {R : GenEnd} {Y : Protocol} {n : Nat} {s₀ : Shared} {fs : List Frame} {s : Shared} {env : Env}

/-- a turn of a for within a generator -/
theorem gseg_turn {target : PySem.Expr} {it : Value} {body orelse : List Stmt}
    (h : wpAny (model prog w) (A.over (.forLoop target it body orelse env) fs) (pyNext it) (fun r s₁ => match r with
      | none => Seg (model prog w) A R Y n s₀ (.forLoop target it body orelse env) (.pure (.again (.block orelse env))) fs s₁
      | some v => wpAny (model prog w) (A.over (.forLoop target it body orelse env) fs) (letOwnedTupleGo target it v) (fun _ s₂ =>
          wpAny (model prog w) (A.over (.forLoop target it body orelse env) fs) (assign target env v) (fun _ s₃ =>
            Seg (model prog w) A R Y n s₀ (.forLoop target it body orelse env) ((execs body env).wrap (fun f => match f with
              | .next | .cont => .pure (.again (.forLoop target it body orelse env))
              | .brk => .pure (.done .next)
              | .ret v => .pure (.done (.ret v))) (fun e => (do noteFrame e env; theTreesLotGoes e : Sem Unit).wrap (fun _ => .raise e) .raise id id) id id) fs s₃) (fun _ _ => False) s₂) (fun _ _ => False) s₁) (fun _ _ => False) s) :
    Seg (model prog w) A R Y n s₀ (.forLoop target it body orelse env) ((model prog w).den (.forLoop target it body orelse env)) fs s := by
  show Seg _ A R Y n s₀ _ ((forTurn target it body orelse env).onRaise (fun x => do noteFrame x env; theTreesLotGoes x)) fs s
  unfold forTurn
  rw [Sem.onRaise_eq_wrap]
  refine gseg_step (wpAny_standAt ?_)
  refine gseg_step (wpAny_onRaise (wpAny_mono h (fun r s₁ h₁ => ?_) fun _ _ x => x.elim))
  cases r with
  | none => exact h₁
  | some v =>
    refine gseg_step (wpAny_mono h₁ (fun _ s₂ h₂ => ?_) fun _ _ x => x)
    refine gseg_step (wpAny_mono h₂ (fun _ s₃ h₃ => ?_) fun _ _ x => x)
    rw [Sem.bind_eq_wrap', Sem.wrap_wrap]
    rw [Sem.wrap_congr (execs body env) _ _ (K' := fun f => match f with
              | .next | .cont => .pure (.again (.forLoop target it body orelse env))
              | .brk => .pure (.done .next)
              | .ret v => .pure (.done (.ret v))) (H' := (fun e => (do noteFrame e env; theTreesLotGoes e : Sem Unit).wrap (fun _ => .raise e) .raise id id))
        (fun f => by cases f <;> rfl)
        (fun e => by first | exact Sem.bind_eq_wrap _ _ | (show (do noteFrame e env; theTreesLotGoes e : Sem Unit).bind (fun _ => .raise e) = _; rw [Sem.bind_eq_wrap]))]
    exact h₃

/-- a generator that a def with yields makes: its next, with what is left in the table clean -/
theorem pyNext_fgen {E : Value → Shared → Prop} {a : Addr} {g m : Nat} {gs : GenState} {P : Nat → Shared → Shared → Prop} {Q : Option Value → Shared → Prop} (hh : A.handled = none)
    (hl : s.heap.NoLimit) (hroom : A.depth < recursionLimit) (hg : s.heap.IsGen a g) (hgs : s.gens[g]? = some gs)
    (hgo : gs.Goes (model prog w) A.in1 (fun n s₀ r s₁ => r = .ok (.ret .none) ∧ P n s₀ s₁) Y m (.send .none) (s.setGen g .running))
    (hY : ∀ v s₁ gs', gs'.bare = true → Y (m - 1) (s.setGen g .running) v s₁ (fun r' s'' => match m with
        | 0 => False
        | k + 1 => gs'.Goes (model prog w) A.in1 (fun n s₀ r s₁ => r = .ok (.ret .none) ∧ P n s₀ s₁) Y k r' s'') → Q (some v) (s₁.setGen g gs'))
    (hP : ∀ s₁, P m (s.setGen g .running) s₁ → ∀ h', (∀ b o, s₁.heap.get? b = some o → h'.get? b = some o) → Q none { s₁.setGen g .finished with heap := h' }) :
    wpAny (model prog w) A (pyNext (.ref a)) Q E s := by
  unfold pyNext
  refine wpAny_bind (wpAny_attempt (wpAny_callSpecial?_slot (name := Str.ofString "__next__") hg.typeIs slot_gen_next
    (wpAny_call_entry slot_gen_next hg.typeIs entry_gen_next ?_ (args_gen_next _))))
  show wpAny _ A.in1 (Builtin.Generator.genWake (.ref a) (.send .none)) _ _ s
  unfold Builtin.Generator.genWake
  refine wpAny_bind (wpAny_holding (wpAny_genNumber hg (wpAny_bind (wpAny_genState hgs ?_))))
  cases gs with
  | running => exact hgo.elim
  | finished => exact hgo.elim
  | _ =>
    refine wpAny_bind (wpAny_roomToWake hl hroom ?_)
    show wpAny _ A.in1 (.resume g (.send .none) [] _) _ _ s
    refine wpAny_resumeQ hgs hgo (fun x s₁ hx => ?_) (fun v s₁ gs' hb hv => ?_)
    · obtain ⟨rfl, hp⟩ := hx
      show wpAny _ A.in1 (newExc (.type "StopIteration") [] >>= _) _ _ _
      refine wpAny_bind ?_
      simp only [newExc, newTuple]
      refine wpAny_bind (wpAny_newObj_type ?_ (by size_fits))
      refine wpAny_bind (m := firstArgMember _ _) (wpAny_of_eq (a := Value.none) (by first | rfl | (simp only [firstArgMember]; rfl)) ?_)
      refine wpAny_newObj_type ?_ (by size_fits)
      simp only [raiseNew]
      refine wpAny_bind (wpAny_bind (wpAny_handled ?_))
      first | rw [show A.in1.handled = none from hh] | rw [hh]
      refine wpAny_throw ?_
      refine wpAny_bind (wpAny_isInstance (T := "StopIteration") (b := true) ⟨_, Heap.get?_push_size _ rfl, rfl⟩ isSubtype_stop ?_)
      exact wpAny_pure (hP s₁ hp _ fun b o hb => Heap.get?_push_of_some _ (Heap.get?_push_of_some _ hb))
    · exact wpAny_pure ⟨v, rfl, wpAny_pure (hY v s₁ gs' hb hv)⟩

theorem letGo_gen {E : Value → Shared → Prop} {elts : List PySem.Expr} {k : Nat} {pos : Pos} {a T : Addr} {g : Nat} {Q : Unit → Shared → Prop} (hg : s.heap.IsGen a g) (h : Q () s) :
    wpAny (model prog w) A (letOwnedTupleGo (.Tuple elts k pos) (.ref a) (.ref T)) Q E s := by
  obtain ⟨o, nm, qn, ho, hc, hd, _⟩ := hg
  unfold letOwnedTupleGo
  refine wpAny_bind (wpAny_load ho ?_)
  rw [hc, hd]
  show wpAny _ _ (if _ then _ else _) _ _ _
  rw [if_neg (by rw [Bool.and_eq_true]; rintro ⟨h1, _⟩; exact absurd h1 (by decide +kernel))]
  exact wpAny_pure h
end
end

end
theorem startG2 : True := by
  w_top off
  exact trivial
section
set_option maxRecDepth 100000
section
/-- what a generator of its own leaves as it was: all up to its own object, but its frame -/
def GenKeep (L a : Addr) (s₀ s : Shared) : Prop :=
  ∃ h' tk, s = { s₀ with heap := h', toks := tk } ∧ ∀ b o, b ≠ L → b ≤ a → s₀.heap.get? b = some o → h'.get? b = some o
def GR (L a : Addr) : GenEnd := fun n s₀ r s₁ => r = .ok (.ret .none) ∧ n = 0 ∧ GenKeep L a s₀ s₁
def GenFp (L a : Addr) (fp : List Addr) (h : Heap) : Prop := ∀ b ∈ fp, (b = L ∨ a < b) ∧ ∃ o, h.get? b = some o
def Alike (g : Heap) (fp : List Addr) (h h' : Heap) : Prop := (∀ b ∈ fp, ∀ o, h.get? b = some o → h'.get? b = some o) ∧ ∀ b o, g.get? b = some o → h'.get? b = some o
def GY (g : Heap) (L a : Addr) (P : Nat → Value → Value → Prop) (N : Nat) : Protocol := fun m s₀ v s kap =>
  ∃ T v0 v1 fp, v = .ref T ∧ s.heap.IsTuple T #[v0, v1] ∧ P (N - 1 - m) v0 v1 ∧ GenKeep L a s₀ s ∧ GenFp L a fp s.heap ∧ ∀ s'' : Shared, Alike g (a :: fp) s.heap s''.heap → kap (.send .none) s''

section
variable {prog : Program} {w : World} {A : Around} {s : Shared} {env : Env}

theorem own_of {g h : Heap} {Lc a Lg : Addr} {fp : List Addr} (hgc : g.objs.size ≤ Lc) (hcg : Lc < Lg) (hga : Lg < a) (hf : GenFp Lg a fp h) (ha : ∃ o, h.get? a = some o) :
    ∃ own : List (Addr × Obj), own.map (·.1) = a :: fp ∧ News g Lc h own := by
  obtain ⟨oa, hoa⟩ := ha
  have hnew : ∀ b : Addr, Lc < b → g.get? b = none := fun b hb => Heap.get?_none_of_le (Nat.le_trans hgc (Nat.le_of_lt hb))
  have : ∃ own : List (Addr × Obj), own.map (·.1) = fp ∧ News g Lc h own := by
    induction fp with
    | nil => exact ⟨[], rfl, News.nil⟩
    | cons b r ih =>
      obtain ⟨own, e, N⟩ := ih fun x hx => hf x (.tail _ hx)
      obtain ⟨hb, o, ho⟩ := hf b (.head _)
      have hlt : Lc < b := hb.elim (fun e => e ▸ hcg) fun x => Nat.lt_trans hcg (Nat.lt_trans hga x)
      refine ⟨(b, o) :: own, by rw [List.map_cons, e], fun p hp => ?_⟩
      rcases List.mem_cons.mp hp with rfl | hp
      · exact ⟨ho, Nat.ne_of_gt hlt, hnew _ hlt⟩
      · exact N p hp
  obtain ⟨own, e, N⟩ := this
  have hlt : Lc < a := Nat.lt_trans hcg hga
  refine ⟨(a, oa) :: own, by rw [List.map_cons, e], fun p hp => ?_⟩
  rcases List.mem_cons.mp hp with rfl | hp
  · exact ⟨hoa, Nat.ne_of_gt hlt, hnew _ hlt⟩
  · exact N p hp

theorem gens_set {gens : Array GenState} {g : Nat} {x y : GenState} (h : gens[g]? = some x) : (gens.setIfInBounds g y)[g]? = some y := by
  have hlt : g < gens.size := by
    rcases Nat.lt_or_ge g gens.size with h' | h'
    · exact h'
    · rw [Array.getElem?_eq_none h'] at h; cases h
  simp [hlt]
theorem bare_set {gens : Array GenState} {g : Nat} {y : GenState} (h : AllBare gens) (hy : y.bare = true) : AllBare (gens.setIfInBounds g y) := by
  intro z hz
  rcases Array.mem_or_eq_of_mem_setIfInBounds hz with hz | rfl
  · exact h z hz
  · exact hy

theorem gen_loop {Rr : Result → Shared → Prop} {g : Heap} {Lg a : Addr} {gn N x1 : Nat} {P : Nat → Value → Value → Prop} {xi xc : Str} {pk pv pt : Pos} {body : List Stmt} {m : Str → Option Value} {fp₀ : List Addr} {gs : GenState}
    (hh : A.handled = none) (hroom : A.depth < recursionLimit) (hxi : env.kindOf xi = some .local) (hxc : env.kindOf xc = some .local)
    (hp : (env.scope.kind == .class || (env.scope.kind == .module && env.locals != env.globals)) = false)
    (hcg : env.locals < Lg) (hga : Lg < a) (hlim : g.NoLimit) (hIs : s.heap.IsGen a gn) (hgs : s.gens[gn]? = some gs) (hfp : GenFp Lg a fp₀ s.heap)
    (hgo : ∀ s'' : Shared, Alike g (a :: fp₀) s.heap s''.heap → gs.Goes (model prog w) A.in1 (GR Lg a) (GY g Lg a P N) N (.send .none) s'')
    (hb : AllBare s.gens) (F : Fr g env.locals s.heap m) (J : Nat → (Str → Option Value) → Prop) (h0 : J 0 m)
    (step : ∀ j v0 v1 m₁ h tk gens own, j < N → P j v0 v1 → J j m₁ → AllBare gens → Fr g env.locals h (fun y => if y = xc then some v1 else if y = xi then some v0 else m₁ y) → News g env.locals h own →
      wpAny (model prog w) A (execs body env) (fun f s₃ => match f with
        | .ret v => Rr (.ok (.ret v)) s₃
        | .brk => Rr (.ok .next) s₃
        | _ => Mid (fun s₃ => ∃ h' tk' m', s₃ = { s with heap := h', toks := tk', gens := gens } ∧ Fr g env.locals h' m' ∧ News g env.locals h' own ∧ J (j + 1) m') s₃)
        (notedBy (model prog w) A env fun e s' => Rr (.error e) s') { s with heap := h, toks := tk, gens := gens })
    (hR : ∀ h' tk m' gens, AllBare gens → Fr g env.locals h' m' → J N m' → Rr (.ok .next) { s with heap := h', toks := tk, gens := gens }) :
    codeAny (model prog w) A (.forLoop (.Tuple [.Name xi pk, .Name xc pv] x1 pt) (.ref a) body [] env) Rr s := by
  refine codeAny_forLoop_any
    (fun k s' => ∃ h' tk gens m' j fp gs', s' = { s with heap := h', toks := tk, gens := gens } ∧ AllBare gens ∧ gens[gn]? = some gs' ∧ h'.IsGen a gn ∧ Fr g env.locals h' m' ∧ J j m' ∧ j ≤ N ∧ k = N + 1 - j ∧ GenFp Lg a fp h' ∧
      ∀ s'' : Shared, Alike g (a :: fp) h' s''.heap → gs'.Goes (model prog w) A.in1 (GR Lg a) (GY g Lg a P N) (N - j) (.send .none) s'') ?_ (N + 1)
    ⟨s.heap, s.toks, s.gens, m, 0, fp₀, gs, rfl, hb, hgs, hIs, F, h0, Nat.zero_le _, rfl, hfp, hgo⟩
  rintro k s' ⟨h₁, tk₁, gens₁, m₁, j, fp, gs₁, rfl, hb₁, hgs₁, hIs₁, F₁, hJ, hj, rfl, hfp₁, hgo₁⟩
  refine pyNext_fgen (P := fun n s₀ s₁ => n = 0 ∧ GenKeep Lg a s₀ s₁) (Y := GY g Lg a P N) (m := N - j) hh (hlim.keeps F₁.keep) hroom hIs₁ hgs₁ (hgo₁ _ ⟨fun _ _ _ e => e, F₁.keep⟩) ?_ ?_
  · rintro v s₂ gs₂ hbare ⟨T, v0, v1, fp₂, rfl, hT, hPv, ⟨h₂, tk₂, rfl, hk₂⟩, hfp₂, hkap⟩
    have hjN : j < N := by
      rcases Nat.lt_or_ge j N with h | h
      · exact h
      · exfalso
        have e : N - j = 0 := by omega
        rw [e] at hkap
        exact hkap { s with heap := h₂, toks := tk₂ } ⟨fun _ _ _ e => e, fun b o e => hk₂ b o (Nat.ne_of_lt (Nat.lt_of_lt_of_le (Heap.lt_size e) (Nat.le_trans F₁.above (Nat.le_of_lt hcg)))) (Nat.le_of_lt (Nat.lt_of_lt_of_le (Heap.lt_size e) (Nat.le_trans F₁.above (Nat.le_of_lt (Nat.lt_trans hcg hga))))) (F₁.keep b o e)⟩
    obtain ⟨k₀, hk₀⟩ : ∃ k₀, N - j = k₀ + 1 := ⟨N - j - 1, by omega⟩
    rw [hk₀] at hkap hPv
    have hidx : N - 1 - (k₀ + 1 - 1) = j := by omega
    rw [hidx] at hPv
    have hIs₂ : h₂.IsGen a gn := let ⟨o, nm, qn, ho, r⟩ := hIs₁; ⟨o, nm, qn, hk₂ a o (Nat.ne_of_gt hga) (Nat.le_refl _) ho, r⟩
    have F₂ : Fr g env.locals h₂ m₁ := ⟨F₁.ns.at' fun o e => hk₂ _ o (Nat.ne_of_lt hcg) (Nat.le_of_lt (Nat.lt_trans hcg hga)) e,
      fun b o e => hk₂ b o (Nat.ne_of_lt (Nat.lt_of_lt_of_le (Heap.lt_size e) (Nat.le_trans F₁.above (Nat.le_of_lt hcg)))) (Nat.le_of_lt (Nat.lt_of_lt_of_le (Heap.lt_size e) (Nat.le_trans F₁.above (Nat.le_of_lt (Nat.lt_trans hcg hga))))) (F₁.keep b o e), F₁.above⟩
    refine letGo_gen (s := Shared.setGen _ _ _) hIs₂ ?_
    refine wpAny_assign_Tuple (s := Shared.setGen _ _ _) hh hT rfl rfl fun h₃ hx₃ => ?_
    replace hx₃ : Heap.ExtBut h₂.objs.size h₂ h₃ := hx₃
    have up₃ : ∀ b o, h₂.get? b = some o → h₃.get? b = some o := fun b o x => hx₃ b o (Nat.ne_of_lt (Heap.lt_size x)) x
    have F₃ := F₂.keeps up₃
    have hfp₃ : GenFp Lg a fp₂ h₃ := fun b hb => ⟨(hfp₂ b hb).1, let ⟨o, ho⟩ := (hfp₂ b hb).2; ⟨o, up₃ b o ho⟩⟩
    show wpAny _ A (do holding [v1] (assign (.Name xi pk) env v0); do holding [] (assign (.Name xc pv) env v1); pure ()) _ _ _
    refine wpAny_bind (wpAny_holding (wpAny_assign_Name (wpAny_storeName_local hxi F₃.ns (fun h₄ hn₄ hs₄ => ?_) hp)))
    replace hs₄ : Heap.SameBut env.locals h₃ h₄ := hs₄
    have F₄ := F₃.set hn₄ hs₄
    refine wpAny_bind (wpAny_holding (wpAny_assign_Name (wpAny_storeName_local hxc F₄.ns (fun h₅ hn₅ hs₅ => wpAny_pure ?_) hp)))
    replace hs₅ : Heap.SameBut env.locals h₄ h₅ := hs₅
    have F₅ := F₄.set hn₅ hs₅
    have offL : ∀ b, (b = Lg ∨ a < b) ∨ b = a → b ≠ env.locals := fun b hb => by
      rcases hb with (rfl | hb) | rfl
      · exact Nat.ne_of_gt hcg
      · exact Nat.ne_of_gt (Nat.lt_trans (Nat.lt_trans hcg hga) hb)
      · exact Nat.ne_of_gt (Nat.lt_trans hcg hga)
    have up₅ : ∀ b o, (b = Lg ∨ a < b) ∨ b = a → h₂.get? b = some o → h₅.get? b = some o := fun b o hb e =>
      (hs₅.2 b (offL b hb)).trans ((hs₄.2 b (offL b hb)).trans (up₃ b o e))
    have hfp₅ : GenFp Lg a fp₂ h₅ := fun b hb => ⟨(hfp₂ b hb).1, let ⟨o, ho⟩ := (hfp₂ b hb).2; ⟨o, up₅ b o (.inl (hfp₂ b hb).1) ho⟩⟩
    have hIs₅ : h₅.IsGen a gn := let ⟨o, nm, qn, ho, r⟩ := hIs₂; ⟨o, nm, qn, up₅ a o (.inr rfl) ho, r⟩
    obtain ⟨own, hown, N₅⟩ := own_of F₅.above hcg hga hfp₅ (let ⟨o, _, _, ho, _⟩ := hIs₅; ⟨o, ho⟩)
    have hb₅ : AllBare ((gens₁.setIfInBounds gn .running).setIfInBounds gn gs₂) := bare_set (bare_set hb₁ rfl) hbare
    refine wpAny_mono (step j v0 v1 m₁ h₅ _ _ own hjN hPv hJ hb₅ F₅ N₅) (fun f s₃ hend => ?_) fun _ _ e => e
    have fin : (∃ h' tk' m', s₃ = { s with heap := h', toks := tk', gens := (gens₁.setIfInBounds gn .running).setIfInBounds gn gs₂ } ∧ Fr g env.locals h' m' ∧ News g env.locals h' own ∧ J (j + 1) m') →
        ∃ m, m < N + 1 - j ∧ ∃ h' tk gens m' j fp gs', s₃ = { s with heap := h', toks := tk, gens := gens } ∧ AllBare gens ∧ gens[gn]? = some gs' ∧ h'.IsGen a gn ∧ Fr g env.locals h' m' ∧ J j m' ∧ j ≤ N ∧ m = N + 1 - j ∧ GenFp Lg a fp h' ∧
          ∀ s'' : Shared, Alike g (a :: fp) h' s''.heap → gs'.Goes (model prog w) A.in1 (GR Lg a) (GY g Lg a P N) (N - j) (.send .none) s'' := by
      clear hend
      rintro ⟨h₆, tk₆, m₆, rfl, F₆, N₆, hJ₆⟩
      have up₆ : ∀ b o, b ∈ a :: fp₂ → h₅.get? b = some o → h₆.get? b = some o := fun b o hb e => by
        rw [← hown] at hb
        obtain ⟨p, hp, rfl⟩ := List.mem_map.mp hb
        have e1 := (N₅ p hp).1
        rw [e] at e1
        cases e1
        exact (N₆ p hp).1
      refine ⟨N + 1 - (j + 1), by omega, h₆, tk₆, _, m₆, j + 1, fp₂, gs₂, rfl, hb₅, gens_set (gens_set hgs₁), let ⟨o, nm, qn, ho, r⟩ := hIs₅; ⟨o, nm, qn, up₆ a o (.head _) ho, r⟩, F₆, hJ₆, hjN, rfl,
        fun b hb => ⟨(hfp₂ b hb).1, let ⟨o, ho⟩ := (hfp₅ b hb).2; ⟨o, up₆ b o (.tail _ hb) ho⟩⟩, fun s'' hal => ?_⟩
      have e : N - (j + 1) = k₀ := by omega
      rw [e]
      refine hkap s'' ⟨fun b hb o ho => hal.1 b hb o (up₆ b o hb (up₅ b o ?_ ho)), hal.2⟩
      rcases List.mem_cons.mp hb with rfl | hb
      · exact .inr rfl
      · exact .inl (hfp₂ b hb).1
    cases f with
    | ret v => exact hend
    | brk => exact hend
    | cont => exact fin hend
    | next => exact fin hend
  · rintro s₂ ⟨hz, h₂, tk₂, rfl, hk₂⟩ h' hk'
    have hjN : j = N := by omega
    subst hjN
    refine wpAny_execs_nil ?_
    have F₂ : Fr g env.locals h₂ m₁ := ⟨F₁.ns.at' fun o e => hk₂ _ o (Nat.ne_of_lt hcg) (Nat.le_of_lt (Nat.lt_trans hcg hga)) e,
      fun b o e => hk₂ b o (Nat.ne_of_lt (Nat.lt_of_lt_of_le (Heap.lt_size e) (Nat.le_trans F₁.above (Nat.le_of_lt hcg)))) (Nat.le_of_lt (Nat.lt_of_lt_of_le (Heap.lt_size e) (Nat.le_trans F₁.above (Nat.le_of_lt (Nat.lt_trans hcg hga))))) (F₁.keep b o e), F₁.above⟩
    exact hR h' _ m₁ _ (bare_set (bare_set hb₁ rfl) rfl) (F₂.keeps hk') hJ
end
end

end
local macro_rules | `(tactic| walk_at "mine pad") => `(tactic| skip)
theorem startG3 : True := by
  w_top off
  exact trivial
section
set_option maxRecDepth 100000
section
theorem fillG3 : PySem.Challenge.rw_sc0089_01 = PySem.Challenge.rw_sc0089_01 ∧ Mine.hd.heap_39 = Mine.hd.heap_39 := by
  k_fill
  exact ⟨rfl, rfl⟩
abbrev iterEnv (L : Addr) : Env := envOf (Str.ofString "_iter_escaped_chars") (scopeAt 8) L 42 (.ref 41)
def IterP (x : Str) (j : Nat) (v0 v1 : Value) : Prop := ∃ t u c, v0 = .int (j : Int) t ∧ v1 = .str ⟨#[c]⟩ u ∧ (codes x)[j]? = some c
local macro_rules | `(tactic| walk_at "call type:enumerate") => `(tactic| walk_at "mine r1")

local macro_rules | `(tactic| walk_at "eval Tuple") => `(tactic| (refine wpAny_Tuple ?_))
def iterFor : Stmt := (bodyAt 8).getD 2 default
def forTarget : Stmt → PySem.Expr
  | .For t _ _ _ _ => t
  | _ => default
def iterK0 (f : Flow) : Sem Fin := .pure (.done (.ret (match f with | .ret v => v | _ => .none)))
def iterH0 (env : Env) (e : Value) : Sem Fin := (leaving env e).wrap (fun _ => .raise e) .raise id id
def iterK1 (env : Env) (f : Flow) : Sem Fin := match f with
  | .next => (execs ((bodyAt 8).drop 3) env).wrap iterK0 (iterH0 env) id id
  | f => iterK0 f

set_option maxHeartbeats 4000000 in
theorem iter_loop (w : World) (mean : ExcName → Option Value) (mg mb : Str → Option Value) (x : Str) (t : Tok) (A : Around) (hh : A.handled = none) (g : Heap) (L a e it : Addr) (hLa : L < a) (hae : a < e) (hai : a < it) (hei : e ≠ it) (c0 : Code) (p0 : Pos)
    (X : (Mine.hd.heap_39 w.params).In g) (T : Top Mine.hd.view_39 [Str.ofString "Whitespace"] mean mg mb g) (hx : x.length ≤ 1000) (hesc : ∀ c ∈ codes x, c ≠ 92)
    (St : Nat → Heap → Prop) (D : ∀ A : Around, A.handled = none → Draws PySem.Challenge.pw_sc0089_01 w A it [it] x.length (fun i v => ∃ c u, x.cps[i]? = some c ∧ v = .str ⟨#[c]⟩ u) St) :
    ∀ (k j : Nat) (s₀ : Shared) (h : Heap) (tk : Nat) (m : Str → Option Value), x.length - j = k → j ≤ x.length → (∃ old, IsEnum h e it (j : Int) old) → St j h → Fr g L h m → Has m [("addr", .str x t), ("escape", .bool false)] →
      (∀ b o, b ≠ L → b ≤ a → s₀.heap.get? b = some o → h.get? b = some o) →
      Seg (model PySem.Challenge.pw_sc0089_01 w) A (GR L a) (GY g L a (IterP x) x.length) (x.length - j) s₀ (.forLoop (forTarget iterFor) (.ref e) (forBody iterFor) [] (iterEnv L))
        ((model PySem.Challenge.pw_sc0089_01 w).den (.forLoop (forTarget iterFor) (.ref e) (forBody iterFor) [] (iterEnv L)))
        [.ret (afterLoop (iterEnv L) (iterK1 (iterEnv L)) (iterH0 (iterEnv L)) id id) none false [] c0 p0 []] { s₀ with heap := h, toks := tk } := by
  intro k
  induction k with
  | zero =>
    intro j s₀ h tk m hk hj he hst F H hkeep
    have hjx : j = x.length := by omega
    subst hjx
    have hA' : (A.over (.forLoop (forTarget iterFor) (.ref e) (forBody iterFor) [] (iterEnv L)) [.ret (afterLoop (iterEnv L) (iterK1 (iterEnv L)) (iterH0 (iterEnv L)) id id) none false [] c0 p0 []]).handled = none := hh
    have W := WalksT.enumerateD (D (A.over (.forLoop (forTarget iterFor) (.ref e) (forBody iterFor) [] (iterEnv L)) [.ret (afterLoop (iterEnv L) (iterK1 (iterEnv L)) (iterH0 (iterEnv L)) id id) none false [] c0 p0 []]).in1 hA') e hei (by simpa using hei) (by simp)
    refine gseg_turn (W.done _ _ _ ⟨he, hst⟩ fun h₁ tk₁ hk₁ => ?_)
    have offw : ∀ b : Addr, b ≤ a → b ∉ [e, it] := fun b hb hm => by
      rcases List.mem_cons.mp hm with rfl | hm
      · exact absurd hae (Nat.not_lt.mpr hb)
      · rw [List.mem_singleton.mp hm] at hb
        exact absurd hai (Nat.not_lt.mpr hb)
    have hga : ∀ b o, g.get? b = some o → b ≤ a := fun b o e => Nat.le_of_lt (Nat.lt_trans (Nat.lt_of_lt_of_le (Heap.lt_size e) F.above) hLa)
    have F₁ : Fr g L h₁ m := ⟨F.ns.at' fun o e => hk₁ _ o (offw _ (Nat.le_of_lt hLa)) e, fun b o e => hk₁ b o (offw _ (hga b o e)) (F.keep b o e), F.above⟩
    have hkeep₁ : ∀ b o, b ≠ L → b ≤ a → s₀.heap.get? b = some o → h₁.get? b = some o := fun b o hb hba e => hk₁ b o (offw b hba) (hkeep b o hb hba e)
    replace F₁ := H.fr F₁
    have N₁ : News g L h₁ [] := News.nil
    clear hk₁ W hA' F H he hst hkeep
    dsimp only [kstB] at F₁
    refine seg_again rfl ?_
    show Seg _ _ _ _ _ _ _ (leafOf (.ok .next)) _ _
    refine seg_leaf (.ok .next) ?_
    show Seg _ _ _ _ _ _ _ ((execs [Stmt.If _ _ _ _] _).wrap _ _ _ _) _ _
    refine seg_execs_cons (gseg_If ?_)
    dsimp only
    k_steps
    exact seg_end (.ok (.ret .none)) ⟨rfl, Nat.sub_self _, _, _, rfl, hkeep₁⟩
  | succ k ih =>
    intro j s₀ h tk m hk hj he hst F H hkeep
    have hlt : j < x.length := by omega
    have hA' : (A.over (.forLoop (forTarget iterFor) (.ref e) (forBody iterFor) [] (iterEnv L)) [.ret (afterLoop (iterEnv L) (iterK1 (iterEnv L)) (iterH0 (iterEnv L)) id id) none false [] c0 p0 []]).handled = none := hh
    have W := WalksT.enumerateD (D (A.over (.forLoop (forTarget iterFor) (.ref e) (forBody iterFor) [] (iterEnv L)) [.ret (afterLoop (iterEnv L) (iterK1 (iterEnv L)) (iterH0 (iterEnv L)) id id) none false [] c0 p0 []]).in1 hA') e hei (by simpa using hei) (by simp)
    refine gseg_turn (W.item j _ _ _ hlt ⟨he, hst⟩ fun T1 vals h₁ tk₁ hPt hTn hT hMid hk₁ => ?_)
    obtain ⟨tj, v1, ⟨c, u, hc, rfl⟩, rfl⟩ := hPt
    refine W.go _ _ _ j T1 _ _ _ hMid fun h₂ hst₂ hk₂ => ?_
    have ht₂ : h₂.IsTuple T1 #[.int (j : Int) tj, .str ⟨#[c]⟩ u] := hT.at fun o e => hk₂ T1 o (W.apart j T1 h₁ hMid) e
    have offw : ∀ b : Addr, b ≤ a → b ∉ [e, it] := fun b hb hm => by
      rcases List.mem_cons.mp hm with rfl | hm
      · exact absurd hae (Nat.not_lt.mpr hb)
      · rw [List.mem_singleton.mp hm] at hb
        exact absurd hai (Nat.not_lt.mpr hb)
    have hga : ∀ b o, g.get? b = some o → b ≤ a := fun b o e => Nat.le_of_lt (Nat.lt_trans (Nat.lt_of_lt_of_le (Heap.lt_size e) F.above) hLa)
    have up₂ : ∀ b o, b ≤ a → h.get? b = some o → h₂.get? b = some o := fun b o hb e => hk₂ b o (offw b hb) (hk₁ b o (offw b hb) e)
    refine wpAny_assign_Tuple hA' ht₂ rfl rfl fun h₃ hx₃ => ?_
    replace hx₃ : Heap.ExtBut h₂.objs.size h₂ h₃ := hx₃
    have up₃ : ∀ b o, h₂.get? b = some o → h₃.get? b = some o := fun b o x => hx₃ b o (Nat.ne_of_lt (Heap.lt_size x)) x
    have F₃ : Fr g L h₃ m := ⟨F.ns.at' fun o e => up₃ _ o (up₂ L o (Nat.le_of_lt hLa) e), fun b o e => up₃ b o (up₂ b o (hga b o e) (F.keep b o e)), F.above⟩
    show wpAny _ _ (do holding [Value.str ⟨#[c]⟩ u] (assign (.Name (Str.ofString "pos") _) (iterEnv L) (.int (j : Int) tj)); do holding [] (assign (.Name (Str.ofString "ch") _) (iterEnv L) (.str ⟨#[c]⟩ u)); pure ()) _ _ _
    refine wpAny_bind (wpAny_holding (wpAny_assign_Name (wpAny_storeName_local (by rfl) F₃.ns (fun h₄ hn₄ hs₄ => ?_) (by rfl))))
    replace hs₄ : Heap.SameBut L h₃ h₄ := hs₄
    have F₄ := F₃.set hn₄ hs₄
    refine wpAny_bind (wpAny_holding (wpAny_assign_Name (wpAny_storeName_local (by rfl) F₄.ns (fun h₅ hn₅ hs₅ => wpAny_pure ?_) (by rfl))))
    replace hs₅ : Heap.SameBut L h₄ h₅ := hs₅
    have F₅ := F₄.set hn₅ hs₅
    have up₅ : ∀ b o, b ≠ L → h₃.get? b = some o → h₅.get? b = some o := fun b o hb e => (hs₅.2 b hb).trans ((hs₄.2 b hb).trans e)
    have H₅ := (H.push (x := "pos") (v := .int (j : Int) tj) (by rfl)).push (x := "ch") (v := .str ⟨#[c]⟩ u) (by rfl)
    replace F₅ := H₅.fr F₅
    have N₅ : News g L h₅ [] := News.nil
    have hc92 : c ≠ 92 := hesc c (by rw [← Array.getElem?_toList] at hc; exact List.mem_of_getElem? hc)
    have hst₅ := W.frame _ _ _ hst₂ fun b hb o e => up₅ b o (by
      rcases List.mem_cons.mp hb with rfl | hb
      · exact Nat.ne_of_gt (Nat.lt_trans hLa hae)
      · rw [List.mem_singleton.mp hb]; exact Nat.ne_of_gt (Nat.lt_trans hLa hai)) (up₃ b o e)
    have hkeep₅ : ∀ b o, b ≠ L → b ≤ a → s₀.heap.get? b = some o → h₅.get? b = some o := fun b o hb hba e => up₅ b o hb (up₃ b o (up₂ b o hba (hkeep b o hb hba e)))
    clear hs₅ hn₅ hs₄ hn₄ F₄ F₃ hx₃ up₃ up₂ up₅ hst₂ hk₂ hk₁ ht₂ hMid hT W hA' F H he hst hkeep
    dsimp only [kstB] at F₅
    obtain ⟨k₀, hk₀⟩ : ∃ k₀, x.length - j = k₀ + 1 := ⟨x.length - j - 1, by omega⟩
    rw [hk₀]
    show Seg _ _ _ _ _ _ _ ((execs [Stmt.If _ _ _ _] _).wrap _ _ _ _) _ _
    dsimp only
    refine seg_execs_cons (gseg_If ?_)
    k_steps
    refine seg_execs_cons (gseg_If ?_)
    k_steps
    · exfalso
      rename ((⟨#[c]⟩ : Str) == _) = true => he
      have he' : (⟨#[c]⟩ : Str) == ⟨#[92]⟩ := he
      rw [one_inj] at he'
      exact hc92 he'
    refine seg_execs_cons (seg_Expr_Yield rfl rfl rfl ?_)
    k_steps
    rename_i kap hkap
    obtain ⟨⟨old, he₅⟩, hit₅⟩ := hst₅
    refine ⟨h₅.objs.size, _, _, [L, e, it], rfl, ⟨_, Heap.get?_push_size _ rfl, rfl, _, rfl⟩, ?_, ⟨_, _, rfl, fun b o hb hba e => Heap.get?_push_of_some _ (hkeep₅ b o hb hba e)⟩, ?_, fun s'' hal => ?_⟩
    · refine ⟨tj, u, c, ?_, rfl, ?_⟩
      · rw [show x.length - 1 - k₀ = j by omega]
      · rw [show x.length - 1 - k₀ = j by omega]
        exact (Array.getElem?_toList ..).trans hc
    · intro b hb
      rcases List.mem_cons.mp hb with rfl | hb
      · obtain ⟨o, _, _, ho, _⟩ := F₅.ns
        exact ⟨.inl rfl, o, Heap.get?_push_of_some _ ho⟩
      rcases List.mem_cons.mp hb with rfl | hb
      · exact ⟨.inr hae, _, Heap.get?_push_of_some _ he₅⟩
      · rw [List.mem_singleton.mp hb]
        obtain ⟨o, ho⟩ := (D A hh).live _ _ hit₅
        exact ⟨.inr hai, o, Heap.get?_push_of_some _ ho⟩
    · have al : ∀ b ∈ [L, e, it], ∀ o, h₅.get? b = some o → s''.heap.get? b = some o := fun b hb o ho => hal.1 b (.tail _ hb) o (Heap.get?_push_of_some _ ho)
      have ih' := ih (j + 1) s'' s''.heap s''.toks _ (by omega) (by omega) ⟨old, al e (by simp) _ he₅⟩
        ((D A hh).frame _ _ _ hit₅ fun b hb o ho => al b (by rw [List.mem_singleton.mp hb]; simp) o ho)
        ⟨F₅.ns.at' fun o ho => al L (by simp) o ho, hal.2, F₅.above⟩ (by walk_at "mine has") (fun _ _ _ _ e => e)
      rw [show x.length - (j + 1) = k₀ by omega] at ih'
      exact hkap .none s'' (seg_again rfl ih')

set_option maxHeartbeats 4000000 in
theorem iter_goes (w : World) (mean : ExcName → Option Value) (mg mb : Str → Option Value) (x : Str) (t : Tok) (A : Around) (hh : A.handled = none) (g : Heap) (L a : Addr) (hLa : L < a) (m : Str → Option Value) (s : Shared)
    (X : (Mine.hd.heap_39 w.params).In g) (T : Top Mine.hd.view_39 [Str.ofString "Whitespace"] mean mg mb g) (F : Fr g L s.heap m) (H : Has m [("addr", .str x t)]) (hx : x.length ≤ 1000) (hesc : ∀ c ∈ codes x, c ≠ 92) (ha : ∃ o, s.heap.get? a = some o) :
    GenState.Goes (model PySem.Challenge.pw_sc0089_01 w) A (GR L a) (GY g L a (IterP x) x.length) x.length (.fresh (.func (bodyAt 8) (iterEnv L))) (.send .none) s := by
  refine ⟨rfl, ?_⟩
  replace F := H.fr F
  have N : News g L s.heap [] := News.nil
  dsimp only [kstB] at F
  refine seg_func ?_
  delta iterEnv
  conv in (occs := *) (bodyAt 8) => all_goals whnf
  conv in (occs := *) (scopeAt 8) => all_goals whnf
  obtain ⟨oa, hoa⟩ := ha
  have hasz : a < s.heap.objs.size := Heap.lt_size hoa
  refine seg_execs_cons (gseg_stmt (wpAny_Assign_Name (wpAny_Constant_int (wpAny_storeName_local (by rfl) F.ns (fun h₁ hn₁ hs₁ => ?_) (by rfl)))))
  replace hs₁ : Heap.SameBut L s.heap h₁ := hs₁
  have F₁ := F.set hn₁ hs₁
  dsimp only
  refine seg_execs_cons (gseg_stmt (wpAny_Assign_Name (wpAny_Constant_bool (wpAny_storeName_local (by rfl) F₁.ns (fun h₂ hn₂ hs₂ => ?_) (by rfl)))))
  replace hs₂ : Heap.SameBut L h₁ h₂ := hs₂
  have F₂ := F₁.set hn₂ hs₂
  dsimp only
  have up₂ : ∀ b o, b ≠ L → s.heap.get? b = some o → h₂.get? b = some o := fun b o hb e => (hs₂.2 b hb).trans ((hs₁.2 b hb).trans e)
  have hsz₂ : h₂.objs.size = s.heap.objs.size := by rw [hs₂.1, hs₁.1]
  have N₂ : News g L h₂ [] := News.nil
  clear hn₁ hn₂ hs₁ hs₂ F₁ F N
  refine seg_execs_cons (gseg_For ?_ ?_)
  · k_steps
    unfold Held
    rename Fr _ _ _ _ => F₃
    try dsimp only
    refine call_enumerate_str fun h₃ he hit hsz hk => ?_
    replace he : IsEnum h₃ (h₂.objs.size + 1) h₂.objs.size 0 .none := he
    replace hit : h₃.IsStrIter h₂.objs.size (strIterType x) x t 0 := hit
    replace hk : ∀ b o, h₂.get? b = some o → h₃.get? b = some o := hk
    refine wpAny_pyIter_enum he ?_
    intro p
    have F₄ := F₃.keeps hk
    have hL2 : ∀ b o, b ≠ L → b ≤ a → s.heap.get? b = some o → h₃.get? b = some o := fun b o hb _ e => hk b o (up₂ b o hb e)
    have hai : a < h₂.objs.size := hsz₂ ▸ hasz
    cases hal : x.cps.all (· < 128)
    · have hit' : h₃.IsStrIter h₂.objs.size "str_iterator" x t 0 := by simpa [strIterType, hal] using hit
      exact iter_loop w mean mg mb x t A hh g L a (h₂.objs.size + 1) h₂.objs.size hLa (Nat.lt_succ_of_lt hai) hai (Nat.succ_ne_self _) _ p X T hx hesc _ (fun A' hA' => Draws.strWide hA' h₂.objs.size x t) x.length 0 s h₃ _ _ (Nat.sub_zero _) (Nat.zero_le _) ⟨_, he⟩ hit' F₄ (by walk_at "mine has") hL2
    · have hit' : h₃.IsStrIter h₂.objs.size "str_ascii_iterator" x t 0 := by simpa [strIterType, hal] using hit
      exact iter_loop w mean mg mb x t A hh g L a (h₂.objs.size + 1) h₂.objs.size hLa (Nat.lt_succ_of_lt hai) hai (Nat.succ_ne_self _) _ p X T hx hesc _ (fun A' hA' => Draws.strAscii hA' h₂.objs.size x t) x.length 0 s h₃ _ _ (Nat.sub_zero _) (Nat.zero_le _) ⟨_, he⟩ hit' F₄ (by walk_at "mine has") hL2
  · intro x; rfl
end

end
local macro_rules | `(tactic| walk_at "mine pad") => `(tactic| skip)
theorem startC10 : True := by
  w_top off
  exact trivial
section
set_option maxRecDepth 100000
section
theorem fill10 : PySem.Challenge.rw_sc0089_01 = PySem.Challenge.rw_sc0089_01 ∧ Mine.hd.heap_39 = Mine.hd.heap_39 := by
  k_fill
  exact ⟨rfl, rfl⟩
/-- the end of a def that may leave generators behind -/
def LeaveG (g : Heap) (R : Value → Heap → Prop) (v : Value) (s' s : Shared) : Prop :=
  ∃ h' tk' gens', s' = { s with heap := h', toks := tk', gens := gens' } ∧ AllBare gens' ∧ g.StaysIn h' ∧ R v h'
def ExtG (w : World) (mean : ExcName → Option Value) (mg mb : Str → Option Value) (f : Addr) (vs : List Value) (pre : Heap → Prop) (R : Value → Heap → Prop) (dd : Nat) : Prop :=
  ∀ (dp un : Nat) (gd : Option (List Code)) (cn : Str) (cs : Scope) (a : Addr) (ccd : Value) (cl : List (Str × Addr)) (outer : List Env) (A₀ : Around) (base h₀ : Heap) (L : Addr) (m : Str → Option Value) (s : Shared) (Q E : Value → Shared → Prop),
    Below A₀ base outer h₀ → Fr h₀ L s.heap m → (Mine.hd.heap_39 w.params).In h₀ → Top Mine.hd.view_39 [Str.ofString "Whitespace"] mean mg mb h₀ → cs.kind = .function → pre s.heap → AllBare s.gens →
    dp + dd < recursionLimit → un + 8 * dd < cLine →
    (∀ v h' tk' gens', AllBare gens' → s.heap.StaysIn h' → R v h' → Q v { s with heap := h', toks := tk', gens := gens' }) →
    wpAny (model PySem.Challenge.pw_sc0089_01 w) (ktrTop dp un gd cn cs L a ccd cl outer) (call (.ref f) vs) Q E s
theorem leaveG_ {g h' : Heap} {R : Value → Heap → Prop} {v : Value} {s : Shared} {L : Addr} {m : Str → Option Value} {tk' : Nat} {gens' : Array GenState} (F : Fr g L h' m) (hb : AllBare gens') (r : R v h') :
    LeaveG g R v { s with heap := h', toks := tk', gens := gens' } s := ⟨h', tk', gens', rfl, hb, F.keep, r⟩

section
variable {prog : Program} {w : World} {A A₀ : Around} {E : Value → Shared → Prop} {s : Shared} {K : Frag} {L : Addr} {h₀ base : Heap} {m mg mb : Str → Option Value} {p : Program} {loose : List Str} {mean : ExcName → Option Value} {Q : Value → Shared → Prop}
theorem code_extG {env : Env} {outer : List Env} {name qual : Str} {params : Arguments} {body : List Stmt} {scope : Scope} {dV kV doc pm cdv ct oc : Value} {an od : Option Addr} {osl : Array (Option Value)} {f : Addr} {vs : List Value} {binds : List (Str × Value)}
    {R : Value → Heap → Prop}
    (B : Below A₀ base outer h₀) (F : Fr h₀ L s.heap m) (X₀ : K.In h₀) (T : Top p loose mean mg mb h₀) (hA : A.frames = some (env :: outer)) (hf : env.frame = some L) (hke : env.scope.kind = .function)
    (hret : ∀ v h' tk' gens', AllBare gens' → s.heap.StaysIn h' → R v h' → Q v { s with heap := h', toks := tk', gens := gens' })
    (ho : K.lookup f = some ⟨oc, od, .func (fnOf name qual params body scope dV kV doc pm an cdv ct), osl⟩) (hcd : codeIn K cdv qual = true) (hroom : A.depth < recursionLimit)
    (hbind : BindsTo s (fnOf name qual params body scope dV kV doc pm an cdv ct) ⟨vs, []⟩ binds) (hloc : ∀ y ∈ binds, scope.names.lookup y.1 = some .local)
    (h : ∀ h₁ tk₁, Fr s.heap s.heap.objs.size h₁ (fun y => binds.reverse.lookup y) → News s.heap s.heap.objs.size h₁ [] → Below A base (env :: outer) s.heap → K.In s.heap → Top p loose mean mg mb s.heap →
      wpAny (model prog w) (A.deeper (envOf qual scope s.heap.objs.size f cdv)) (execs body (envOf qual scope s.heap.objs.size f cdv))
        (fun fl s' => LeaveG s.heap R (match fl with | .ret v => v | _ => .none) s' s)
        (fun e s' => wpAny (model prog w) (A.deeper (envOf qual scope s.heap.objs.size f cdv)) (leaving (envOf qual scope s.heap.objs.size f cdv) e) (fun _ s'' => E e s'') (fun e' s'' => E e' s'') s')
        { s with heap := h₁, toks := tk₁ })
    (hco : scope.isCoroutine = false) (hgen : scope.isGenerator = false) (hk : scope.kind = .function)
    (hcell : ∀ x ∈ scope.names, x.2 ≠ .cell) : wpAny (model prog w) A (call (.ref f) vs) Q E s := by
  refine wpAny_call ?_
  have BG : Below A base (env :: outer) s.heap := by
    have B₁ := pushX B F hf hke
    exact ⟨hA, B₁.stays, B₁.frames⟩
  refine codeAny_call_def (fd := fnOf name qual params body scope dV kV doc pm an cdv ct) (body := body) (binds := binds) hroom ((X₀.keeps F.keep) _ _ ho) rfl (T.nolimit.keeps F.keep) (codeRec_of (X₀.keeps F.keep) hcd) rfl hbind hcell hloc (fun h₁ hns hk₁ => ?_) hco hgen hk
  refine wpAny_mono (h h₁ _ ⟨hns, hk₁, Nat.le_refl _⟩ News.nil BG (X₀.keeps F.keep) (T.keeps F.keep)) (fun fl s' hl => ?_) fun _ _ y => y
  obtain ⟨h', tk', gens', rfl, hb, st, r⟩ := hl
  exact hret _ h' tk' gens' hb st r
theorem code_gen {name qual : Str} {params : Arguments} {body : List Stmt} {scope : Scope} {dV kV doc pm cdv ct oc : Value} {an od : Option Addr} {osl : Array (Option Value)} {f : Addr} {vs : List Value} {binds : List (Str × Value)}
    (F : Fr h₀ L s.heap m) (X₀ : K.In h₀) (T : Top p loose mean mg mb h₀)
    (ho : K.lookup f = some ⟨oc, od, .func (fnOf name qual params body scope dV kV doc pm an cdv ct), osl⟩) (hcd : codeIn K cdv qual = true) (hroom : A.depth < recursionLimit)
    (hbind : BindsTo s (fnOf name qual params body scope dV kV doc pm an cdv ct) ⟨vs, []⟩ binds) (hloc : ∀ y ∈ binds, scope.names.lookup y.1 = some .local)
    (h : ∀ h₁ tk, h₁.Ns s.heap.objs.size (fun y => binds.reverse.lookup y) → h₁.objs.size = s.heap.objs.size + 2 → (∀ b o, s.heap.get? b = some o → h₁.get? b = some o) → h₁.IsGen (s.heap.objs.size + 1) s.gens.size →
      Q (.ref (s.heap.objs.size + 1)) { s with heap := h₁, toks := tk, gens := s.gens.push (.fresh (.func body (envOf qual scope s.heap.objs.size f cdv))) })
    (hco : scope.isCoroutine = false) (hgen : scope.isGenerator = true) (hk : scope.kind = .function)
    (hcell : ∀ x ∈ scope.names, x.2 ≠ .cell) : wpAny (model prog w) A (call (.ref f) vs) Q E s := by
  refine wpAny_call ?_
  refine codeAny_call_generator (fd := fnOf name qual params body scope dV kV doc pm an cdv ct) (body := body) hroom ((X₀.keeps F.keep) _ _ ho) rfl hco hgen rfl (codeRec_of (X₀.keeps F.keep) hcd) ?_
  refine hbind _ _ _ _ ?_
  refine wpAny_newFunctionEnv hcell hloc (fun h₁ hns₁ hsb₁ => ?_) hk
  replace hsb₁ : Heap.SameBut s.heap.objs.size (s.heap.push { cls := .type "frame", data := .dict #[] }) h₁ := hsb₁
  have hsz : h₁.objs.size = s.heap.objs.size + 1 := by rw [hsb₁.1, Heap.size_push]
  have up : ∀ b o, s.heap.get? b = some o → h₁.get? b = some o := fun b o e => hsb₁.extBut b o (Nat.ne_of_lt (Heap.lt_size e)) (Heap.get?_push_of_some _ e)
  refine ⟨(T.nolimit.keeps F.keep).keeps up, ?_⟩
  have hsz' : (s.heap.objs.size + 1 : Nat) = h₁.objs.size := hsz.symm
  show Q (.ref h₁.objs.size) _
  rw [← hsz']
  refine h _ _ (hns₁.push _) (by rw [Heap.size_push, hsz]) (fun b o e => Heap.get?_push_of_some _ (up b o e)) ?_
  rw [hsz']
  exact ⟨_, _, _, Heap.get?_push_size _ rfl, rfl, rfl, rfl⟩
end

/-- the call that makes the generator -/
theorem call_iter {w : World} {A : Around} {E : Value → Shared → Prop} {s : Shared} {h₀ : Heap} {L : Addr} {m mg mb : Str → Option Value} {mean : ExcName → Option Value} {x : Str} {t : Tok} {Q : Value → Shared → Prop}
    (F : Fr h₀ L s.heap m) (X : (Mine.hd.heap_39 w.params).In h₀) (T : Top Mine.hd.view_39 [Str.ofString "Whitespace"] mean mg mb h₀) (hroom : A.depth < recursionLimit)
    (h : ∀ h' tk m', h'.Ns s.heap.objs.size m' → Has m' [("addr", .str x t)] → h'.objs.size = s.heap.objs.size + 2 → (∀ b o, s.heap.get? b = some o → h'.get? b = some o) → h'.IsGen (s.heap.objs.size + 1) s.gens.size →
      Q (.ref (s.heap.objs.size + 1)) { s with heap := h', toks := tk, gens := s.gens.push (.fresh (.func (bodyAt 8) (iterEnv s.heap.objs.size))) }) :
    wpAny (model PySem.Challenge.pw_sc0089_01 w) A (call (.ref 42) [.str x t]) Q E s := by
  k_dflt (refine' code_gen F X T ?k6 ?k7 hroom ?k9 ?kB ?_ ?c2 ?c3 ?c4 ?c5; (case k6 => k_is); (case k7 => k_is); (case k9 => exact BindsTo.of_eq rfl); (case c5 => decide); (case kB => exact locs rfl); (case c2 => exact rfl); (case c3 => exact rfl); (case c4 => exact rfl))
  intro h₁ tk hns hsz hup hg
  exact h h₁ tk _ hns ⟨rfl, trivial⟩ hsz hup hg
end

end
local macro_rules | `(tactic| walk_at "mine enterG") => `(tactic| (refine' code_extG ?k1 ?k2 ?k3 ?k5 ?kA ?kF ?kK ?kR ?k6 ?k7 ?k8 ?k9 ?kB ?_ ?c2 ?c3 ?c4 ?c5; (case kA => exact rfl); (case kF => exact rfl); (case kK => assumption); (case kR => assumption); (case k1 => k_asm); (case k2 => k_asm); (case k3 => k_asm); (case k5 => k_asm); (case k6 => k_is); (case k7 => k_is); (case k8 => ktr_room); (case k9 => exact BindsTo.of_eq rfl); (case c5 => decide); (case kB => exact locs rfl); (case c2 => exact rfl); (case c3 => exact rfl); (case c4 => exact rfl); k_whole; intro h' tk' F' N' B' X' T'; (try dsimp only); (try k_fold)))
local macro_rules | `(tactic| walk_at "mine pad") => `(tactic| skip)
theorem startC11 : True := by
  w_top off
  exact trivial
section
set_option maxRecDepth 100000
section
theorem fill11 : PySem.Challenge.rw_sc0089_01 = PySem.Challenge.rw_sc0089_01 ∧ Mine.hd.heap_39 = Mine.hd.heap_39 := by
  k_fill
  exact ⟨rfl, rfl⟩
local macro_rules | `(tactic| walk_at "execs cons") => `(tactic| walk_at "mine r0")
local macro_rules | `(tactic| walk_at "call ref") => `(tactic| walk_at "mine r1")

set_option maxHeartbeats 4000000 in
theorem strip_ext (w : World) (mean : ExcName → Option Value) (mg mb : Str → Option Value) (x : Str) (t : Tok) :
    Ext w mean mg mb 49 [.str x t] (fun _ => x.length ≤ 1000 ∧ ∀ c ∈ codes x, c ≠ 34) (fun v _ => v = .str x t) 1 := by
  unfold Ext
  intro dp un gd cn cs ad ccd cl outer A₀ base h₀ L m s Q E B F X T hk hpre hd hu hret
  obtain ⟨hx, hq⟩ := hpre
  k_dflt (walk_at "mine enter")
  clear hret
  k_steps
  · walk_at "mine end"
    rfl
  · exfalso
    rename (Builtin.Str.occurrences x _ 0 x.length 1).isEmpty = false => he
    have he' : (Builtin.Str.occurrences x ⟨#[34]⟩ 0 x.length 1).isEmpty = false := he
    rw [empty_one] at he'
    simp only [Bool.not_eq_false', decide_eq_true_eq] at he'
    exact hq 34 he' rfl

/-! plain: the brackets counted -/
def chkGo : List Nat → Int → Bool
  | [], o => o == 0
  | c :: cs, o => if c = 40 then chkGo cs (o + 1) else if c = 41 then (if o - 1 < 0 then false else chkGo cs (o - 1)) else chkGo cs o
local macro_rules | `(tactic| walk_at "call ref") => `(tactic| (k_here; k_dflt (refine' ext_use (strip_ext _ _ _ _ _ _) ?k1 ?k2 ?k3 ?k4 ?k5 ?kK ?kP ?kd ?ku ?_; (case k1 => k_asm); (case k2 => k_asm); (case k3 => k_asm); (case k4 => k_asm); (case k5 => k_asm); (case kK => exact rfl); (case kP => assumption); (case kd => ktr_room); (case ku => ktr_units)); intro v9 h9 tk9 F9 N9 st9 r9; subst r9; (try dsimp only)))
theorem bare_push {gens : Array GenState} {y : GenState} (h : AllBare gens) (hy : y.bare = true) : AllBare (gens.push y) := by
  intro z hz
  rcases Array.mem_push.mp hz with hz | rfl
  · exact h z hz
  · exact hy
theorem par40 {c : Nat} : ((⟨#[c]⟩ : Str) == Str.ofString "(") = decide (c = 40) := by
  rw [Bool.eq_iff_iff, decide_eq_true_eq]
  exact one_inj (n := 40)
theorem par41 {c : Nat} : ((⟨#[c]⟩ : Str) == Str.ofString ")") = decide (c = 41) := by
  rw [Bool.eq_iff_iff, decide_eq_true_eq]
  exact one_inj (n := 41)
abbrev chkEnv (L : Addr) : Env := envOf (Str.ofString "_check_parenthesis") (scopeAt 10) L 56 (.ref 55)

set_option maxHeartbeats 4000000 in
theorem check_ext (w : World) (mean : ExcName → Option Value) (mg mb : Str → Option Value) (x : Str) (t : Tok) :
    ExtG w mean mg mb 56 [.str x t] (fun _ => x.length ≤ 1000 ∧ ∀ c ∈ codes x, c ≠ 34 ∧ c ≠ 92) (fun v _ => v = .bool (chkGo (codes x) 0)) 4 := by
  unfold ExtG
  intro dp un gd cn cs ad ccd cl outer A₀ base h₀ L m s Q E B F X T hk hpre hb hd hu hret
  obtain ⟨hx, hq⟩ := hpre
  have hq34 : x.length ≤ 1000 ∧ ∀ c ∈ codes x, c ≠ 34 := ⟨hx, fun c hc => (hq c hc).1⟩
  k_dflt (walk_at "mine enterG")
  clear hret
  k_steps
  unfold Held
  try dsimp only
  rename Fr _ _ _ _ => F1
  rename News _ _ _ _ => N1
  rename (Mine.hd.heap_39 w.params).In s.heap => X1
  rename Top _ _ _ _ _ s.heap => T1
  rw [execs_cons]
  refine wpAny_bind (wpAny_For ?_ ?_)
  · k_steps
    unfold Held
    try dsimp only
    rename Fr _ _ _ _ => F1
    refine call_iter F1 X1 T1 (by ktr_room) ?_
    intro h₂ tk₂ m₂ hns₂ H₂ hsz₂ up₂ hg₂
    dsimp only at *
    refine wpAny_pyIter_gen hg₂ ?_
    have hLc := F1.ns.lt
    obtain ⟨oL, hoL⟩ : ∃ o, h₂.get? _ = some o := let ⟨o, _, _, ho, _⟩ := hns₂; ⟨o, ho⟩
    obtain ⟨oa, hoa⟩ : ∃ o, h₂.get? _ = some o := let ⟨o, _, _, ho, _⟩ := hg₂; ⟨o, ho⟩
    have hgo := fun (s'' : Shared) hal => iter_goes w mean mg mb x t (Around.in1 ((ktrTop dp un gd cn cs L ad ccd cl outer).deeper (chkEnv s.heap.objs.size))) rfl s.heap _ _ (Nat.lt_succ_self _) m₂ s'' X1 T1 ⟨hns₂.at' fun o ho => (hal : Alike s.heap [_, _] h₂ s''.heap).1 _ (.tail _ (.head _)) o ho, hal.2, Nat.le_of_lt hLc⟩ H₂ hx (fun c hc => (hq c hc).2) ⟨oa, hal.1 _ (.head _) oa hoa⟩
    refine gen_loop (g := s.heap) (fp₀ := [_]) rfl (by ktr_room) rfl rfl rfl hLc (Nat.lt_succ_self _) T1.nolimit hg₂ (Array.getElem?_push_size ..) (fun b hb => ?_) hgo (bare_push hb rfl) (F1.keeps up₂) (fun j m' => ∃ o t, Has m' [("opens", .int o t)] ∧ chkGo (codes x) 0 = chkGo ((codes x).drop j) o) ⟨0, _, by walk_at "mine has", rfl⟩ ?_ ?_
    · rw [List.mem_singleton.mp hb]
      exact ⟨.inl rfl, oL, hoL⟩
    · rintro j v0 v1 m₁ h tk gens own hj ⟨tj, u, c, rfl, rfl, hc⟩ ⟨o, to, H, hch⟩ hbare F3 N3
      refine wpAny_passesOwn (E := ek) (by dsimp only [ek]; passes_own) ?_
      replace F3 := ((H.push (x := "pos") (v := .int (j : Int) tj) (by rfl)).push (x := "ch") (v := .str ⟨#[c]⟩ u) (by rfl)).fr F3
      dsimp only [kstB] at F3
      have hdr := drop_at (l := codes x) (i := j) (d := 0) (by rw [codes_length]; exact hj)
      have hgd : (codes x).getD j 0 = c := by simp [hc]
      rw [hgd] at hdr
      rw [hdr] at hch
      clear F1 N1
      k_steps
      all_goals (simp only [par40, par41, decide_eq_true_eq, decide_eq_false_iff_not] at *)
      rotate_left 1
      · try dsimp only
        refine wpAny_pure ?_
        k_unfold
        try dsimp only
        refine leaveG_ (by assumption) hbare ?_
        rw [hch]
        simp only [chkGo]
        rw [if_neg (by assumption), if_pos (by assumption), if_pos (by omega)]
      all_goals (
        try dsimp only
        unfold Mid
        refine ⟨_, _, _, rfl, by assumption, by assumption, _, _, by walk_at "mine has", ?_⟩
        rw [hch]
        simp only [chkGo]
        first
          | (rw [if_pos (by assumption)]; done)
          | (rw [if_neg (by assumption), if_pos (by assumption), if_neg (by omega)]; done)
          | (rw [if_neg (by assumption), if_neg (by assumption)]; done))
    · rintro h tk m' gens hbare F3 ⟨o, to, H, hch⟩
      replace F3 := H.fr F3
      dsimp only [kstB] at F3
      have N3 : News s.heap s.heap.objs.size h [] := News.nil
      rw [List.drop_of_length_le (by rw [codes_length]; exact Nat.le_refl _)] at hch
      clear F1 N1
      dsimp only
      k_steps
      try dsimp only
      k_unfold
      try dsimp only
      refine leaveG_ F3 hbare ?_
      rw [hch]
      rfl
  · intro _; rfl
end

end
theorem startG4 : True := by
  w_top off
  exact trivial
section
set_option maxRecDepth 100000
section
/-- a turn's end in a loop that may leave generators behind -/
def TurnG (G : Array GenState → Prop) (s : Shared) (g : Heap) (L I : Addr) (oI : Obj) (J : (Str → Option Value) → List (Addr × Obj) → Prop) (s₃ : Shared) : Prop :=
  ∃ h' tk' gens' m' nx news', s₃ = { s with heap := h', toks := tk', gens := gens' } ∧ G gens' ∧ Fr g L h' m' ∧ News g L h' news' ∧ (∀ p ∈ nx, p ∈ news') ∧ (I, oI) ∈ news' ∧ (∀ p ∈ nx, p.1 ≠ I) ∧ J m' nx
theorem turnG_ {G : Array GenState → Prop} {s : Shared} {g h' : Heap} {L I : Addr} {oI : Obj} {J : (Str → Option Value) → List (Addr × Obj) → Prop} {tk' : Nat} {gens' : Array GenState} {m' : Str → Option Value} {nx news' : List (Addr × Obj)}
    (hb : G gens') (F : Fr g L h' m') (N : News g L h' news') (hn : ∀ p ∈ nx, p ∈ news') (hI : (I, oI) ∈ news') (hoff : ∀ p ∈ nx, p.1 ≠ I) (hj : J m' nx) :
    Mid (TurnG G s g L I oI J) { s with heap := h', toks := tk', gens := gens' } := ⟨h', tk', gens', m', nx, news', rfl, hb, F, N, hn, hI, hoff, hj⟩

section
variable {prog : Program} {w : World} {A : Around} {s : Shared} {env : Env}
theorem gloop (G : Array GenState → Prop) {Rr : Result → Shared → Prop} {g : Heap} {x : Str} {px : Pos} {body : List Stmt} {I : Addr} {fp : List Addr} {n : Nat} {P : Nat → Value → Prop} {St : Nat → Heap → Prop} {m : Str → Option Value} {news : List (Addr × Obj)}
    (W : Walks prog w A I fp [I] n P St) (hx : env.kindOf x = some .local) (hp : (env.scope.kind == .class || (env.scope.kind == .module && env.locals != env.globals)) = false)
    (hI : g.get? I = none) (hIL : I ≠ env.locals) (hfp : ∀ b ∈ fp, b = I ∨ ∃ o, g.get? b = some o) (hlive : ∀ i h, St i h → ∃ o, h.get? I = some o)
    (hst : St 0 s.heap) (F : Fr g env.locals s.heap m) (N : News g env.locals s.heap news) (hnI : ∀ p ∈ news, p.1 ≠ I) (hb : G s.gens)
    (J : Nat → (Str → Option Value) → List (Addr × Obj) → Prop) (h0 : J 0 m news)
    (step : ∀ i v m₁ nx h tk gens oI, i < n → P i v → J i m₁ nx → (∀ p ∈ nx, p.1 ≠ I) → G gens → Fr g env.locals h (fun y => if y = x then some v else m₁ y) → News g env.locals h (nx ++ [(I, oI)]) →
      wpAny (model prog w) A (execs body env) (fun f s₃ => match f with
        | .ret v => Rr (.ok (.ret v)) s₃
        | .brk => Rr (.ok .next) s₃
        | _ => Mid (TurnG G s g env.locals I oI (J (i + 1))) s₃)
        (notedBy (model prog w) A env fun e s' => Rr (.error e) s') { s with heap := h, toks := tk, gens := gens })
    (hR : ∀ h' tk m' nx gens, G gens → Fr g env.locals h' m' → News g env.locals h' nx → J n m' nx → Rr (.ok .next) { s with heap := h', toks := tk, gens := gens }) :
    codeAny (model prog w) A (.forLoop (.Name x px) (.ref I) body [] env) Rr s := by
  refine codeAny_forLoop
    (fun k s' => ∃ h' tk gens m' nx i, s' = { s with heap := h', toks := tk, gens := gens } ∧ G gens ∧ St i h' ∧ Fr g env.locals h' m' ∧ News g env.locals h' nx ∧ (∀ p ∈ nx, p.1 ≠ I) ∧ J i m' nx ∧ i ≤ n ∧ k = n + 1 - i) ?_ (n + 1)
    ⟨s.heap, s.toks, s.gens, m, news, 0, rfl, hb, hst, F, N, hnI, h0, Nat.zero_le _, rfl⟩
  rintro k s' ⟨h₁, tk₁, gens₁, m₁, nx, i, rfl, hb₁, hst₁, F₁, N₁, hn₁, hJ, hi, rfl⟩
  have next : ∀ h₂ : Heap, (∀ b o, b ∉ [I] → h₁.get? b = some o → h₂.get? b = some o) → Fr g env.locals h₂ m₁ ∧ News g env.locals h₂ nx := fun h₂ hk =>
    ⟨⟨F₁.ns.at' fun o e => hk _ o (by simpa using hIL.symm) e, fun b o e => hk b o (by
        intro hm
        rw [List.mem_singleton.mp hm, hI] at e
        cases e) (F₁.keep b o e), F₁.above⟩, fun p hp => ⟨hk _ _ (by simpa using hn₁ p hp) (N₁ p hp).1, (N₁ p hp).2⟩⟩
  by_cases hlt : i < n
  · refine W.item i _ _ _ hlt hst₁ fun v h₂ tk₂ hP hst₂ hk₂ => ?_
    obtain ⟨F₂, N₂⟩ := next h₂ hk₂
    refine wpAny_assign_Name (wpAny_storeName_local hx F₂.ns (fun h₃ hn₃ hs₃ => ?_) hp)
    replace hs₃ : Heap.SameBut env.locals h₂ h₃ := hs₃
    have F₃ := F₂.set hn₃ hs₃
    obtain ⟨oI, hoI⟩ := hlive _ _ hst₂
    have hoI₃ : h₃.get? I = some oI := (hs₃.2 I hIL).trans hoI
    have N₃ : News g env.locals h₃ (nx ++ [(I, oI)]) := fun p hp => by
      rcases List.mem_append.mp hp with hp | hp
      · exact (N₂.set hs₃) p hp
      · rw [List.mem_singleton.mp hp]
        exact ⟨hoI₃, hIL, hI⟩
    refine wpAny_mono (step i v m₁ nx h₃ _ gens₁ oI hlt hP hJ hn₁ hb₁ F₃ N₃) (fun f s₃ hend => ?_) fun _ _ e => e
    have fin : TurnG G s g env.locals I oI (J (i + 1)) s₃ → ∃ m, m < n + 1 - i ∧ ∃ h' tk gens m' nx j, s₃ = { s with heap := h', toks := tk, gens := gens } ∧ G gens ∧ St j h' ∧ Fr g env.locals h' m' ∧ News g env.locals h' nx ∧ (∀ p ∈ nx, p.1 ≠ I) ∧ J j m' nx ∧ j ≤ n ∧ m = n + 1 - j := by
      clear hend
      rintro ⟨h₄, tk₄, gens₄, m₄, nx₄, news₄, rfl, hb₄, F₄, N₄, hsub, hIm, hoff, hJ₄⟩
      refine ⟨n + 1 - (i + 1), by omega, h₄, tk₄, gens₄, m₄, nx₄, i + 1, rfl, hb₄, ?_, F₄, fun p hp => N₄ p (hsub p hp), hoff, hJ₄, hlt, rfl⟩
      refine W.frame _ _ _ hst₂ fun b hb o e => ?_
      rcases hfp b hb with rfl | ⟨o', ho'⟩
      · rw [hoI] at e
        cases e
        exact (N₄ _ hIm).1
      · have := F₂.keep b o' ho'
        rw [e] at this
        cases this
        exact F₄.keep b _ ho'
    cases f with
    | ret v => exact hend
    | brk => exact hend
    | cont => exact fin hend
    | next => exact fin hend
  · have hin : i = n := by omega
    subst hin
    refine W.done _ _ _ hst₁ fun h₂ tk₂ hk₂ => wpAny_execs_nil ?_
    obtain ⟨F₂, N₂⟩ := next h₂ hk₂
    exact hR h₂ tk₂ m₁ nx gens₁ hb₁ F₂ N₂ hJ
end

section
variable {w : World} {mean : ExcName → Option Value} {mg mb : Str → Option Value}
theorem extG_use {f : Addr} {vs : List Value} {pre : Heap → Prop} {R : Value → Heap → Prop} {dd : Nat} (C : ExtG w mean mg mb f vs pre R dd)
    {dp un : Nat} {gd : Option (List Code)} {cn : Str} {cs : Scope} {a : Addr} {ccd : Value} {cl : List (Str × Addr)} {outer : List Env} {A₀ : Around} {base h₀ : Heap} {L : Addr} {m : Str → Option Value} {news : List (Addr × Obj)} {s : Shared} {Q E : Value → Shared → Prop}
    (B : Below A₀ base outer h₀) (F : Fr h₀ L s.heap m) (N : News h₀ L s.heap news) (X : (Mine.hd.heap_39 w.params).In h₀) (T : Top Mine.hd.view_39 [Str.ofString "Whitespace"] mean mg mb h₀) (hk : cs.kind = .function) (hpre : pre s.heap) (hb : AllBare s.gens)
    (hd : dp + dd < recursionLimit) (hu : un + 8 * dd < cLine)
    (ret : ∀ v h' tk' gens', AllBare gens' → Fr h₀ L h' m → News h₀ L h' news → s.heap.StaysIn h' → R v h' → Q v { s with heap := h', toks := tk', gens := gens' }) :
    wpAny (model PySem.Challenge.pw_sc0089_01 w) (ktrTop dp un gd cn cs L a ccd cl outer) (call (.ref f) vs) Q E s :=
  C dp un gd cn cs a ccd cl outer A₀ base h₀ L m s Q E B F X T hk hpre hb hd hu fun v h' tk' gens' hb' st r =>
    ret v h' tk' gens' hb' (F.keeps st) (fun p hp => ⟨st _ _ (N p hp).1, (N p hp).2⟩) st r
end
end

end
local macro_rules | `(tactic| walk_at "mine pad") => `(tactic| skip)
local macro_rules | `(tactic| walk_at "mine pad") => `(tactic| skip)
local macro_rules | `(tactic| walk_at "mine pad") => `(tactic| skip)
local macro_rules | `(tactic| walk_at "mine pad") => `(tactic| skip)
theorem startC12 : True := by
  w_top off
  exact trivial
section
set_option maxRecDepth 100000
section
theorem fill12 : PySem.Challenge.rw_sc0089_01 = PySem.Challenge.rw_sc0089_01 ∧ Mine.hd.heap_39 = Mine.hd.heap_39 := by
  k_fill
  exact ⟨rfl, rfl⟩
local macro_rules | `(tactic| walk_at "execs cons") => `(tactic| walk_at "mine r0")
local macro_rules | `(tactic| walk_at "pyIter ref") => `(tactic| walk_at "mine r1")
local macro_rules | `(tactic| walk_at "call ref") => `(tactic| (k_here; k_dflt (refine' extG_use (check_ext _ _ _ _ _ _) ?k1 ?k2 ?k3 ?k4 ?k5 ?kK ?kP ?kb ?kd ?ku ?_; (case k1 => k_asm); (case k2 => k_asm); (case k3 => k_asm); (case k4 => k_asm); (case k5 => k_asm); (case kK => exact rfl); (case kP => assumption); (case kb => assumption); (case kd => ktr_room); (case ku => ktr_units)); intro v9 h9 tk9 gens9 hb9 F9 N9 st9 r9; subst r9; (try dsimp only)))

local macro_rules | `(tactic| walk_at "call builtin:list.append") => `(tactic| (k_here; k_dflt (refine' append_K ?F ?N ?U ?_ ?sz; (case F => k_asm); (case N => k_asm); (case U => exact Upd.head (by assumption)); (case sz => (rw [sizeLine_eq]; omega))); intro h9 F9 N9; (try dsimp only)))
theorem strs_append : ∀ {vs ws : List Value} {xs ys : List Str}, StrsAre vs xs → StrsAre ws ys → StrsAre (vs ++ ws) (xs ++ ys)
  | _, _, _, _, .nil, h => h
  | _, _, _, _, .cons y t h1, h => .cons y t (strs_append h1 h)
def fixP (x : Str) : Str := if chkGo (codes x) 0 = true then x else Str.ofString "('', '')"

set_option maxHeartbeats 4000000 in
theorem pre_ext (w : World) (mean : ExcName → Option Value) (mg mb : Str → Option Value) (hp : Heap) (l : Addr) (vs : List Value) (xs : List Str) :
    ExtG w mean mg mb 63 [.ref l] (fun h => h = hp ∧ hp.IsList l vs.toArray ∧ StrsAre vs xs ∧ xs.length ≤ 1000 ∧ ∀ x ∈ xs, x.length ≤ 1000 ∧ ∀ c ∈ codes x, c ≠ 34 ∧ c ≠ 92)
      (fun v h' => ∃ D vs' k, v = .ref D ∧ hp.get? D = none ∧ h'.get? D = some (listOf (List.toArray vs') k) ∧ StrsAre vs' (xs.map fixP)) 6 := by
  unfold ExtG
  intro dp un gd cn cs ad ccd cl outer A₀ base h₀ L m s Q E B F X T hk hpre hb hd hu hret
  obtain ⟨rfl, hl, hS, hlen, hok⟩ := hpre
  k_dflt (walk_at "mine enterG")
  clear hret
  k_steps
  unfold Held
  try dsimp only
  rename Fr _ _ _ _ => F1
  rename News _ _ _ _ => N1
  rename (Mine.hd.heap_39 w.params).In s.heap => X1
  rename Top _ _ _ _ _ s.heap => T1
  rw [execs_cons]
  refine wpAny_bind (wpAny_For ?_ ?_)
  · k_steps
    unfold Held
    try dsimp only
    rename Fr _ _ _ _ => F1
    rename News _ _ _ _ => N1
    rename Addr => D0
    have hls := hl.at fun o e => F1.keep l o e
    obtain ⟨ol, hol, _⟩ := id hl
    have hll := Heap.lt_size hol
    refine wpAny_pyIter_list hls ?_
    have hlt := F1.ns.lt
    have hne : l ≠ _ := Nat.ne_of_lt (Nat.lt_trans hll hlt)
    refine gloop AllBare (Walks.list rfl _ l hne vs.toArray) rfl rfl (next_is_new F1) (Nat.ne_of_gt hlt) (fun b hb => ?_) (fun i h st => let ⟨o, ho, _⟩ := st.1; ⟨o, ho⟩) ⟨⟨_, Heap.get?_push_size _ rfl, rfl, rfl⟩, hls.at fun o e => Heap.get?_push_of_some _ e⟩ (F1.push _) (fun p hp => ⟨Heap.get?_push_of_some _ (N1 p hp).1, (N1 p hp).2⟩) (fun p hp => Nat.ne_of_lt (Heap.lt_size (N1 p hp).1)) hb
      (fun i m nx => ∃ (D : Addr) (vs' : List Value) (k : Nat), s.heap.get? D = none ∧ Has m [("accepted_values", .ref D)] ∧ nx = [(D, listOf vs'.toArray k)] ∧ StrsAre vs' ((xs.take i).map fixP)) ⟨D0, [], 0, (N1 _ (.head _)).2.2, by walk_at "mine has", rfl, .nil⟩ ?_ ?_
    · rcases List.mem_cons.mp hb with rfl | hb
      · exact .inl rfl
      · rw [List.mem_singleton.mp hb]
        exact .inr ⟨ol, hol⟩
    · rintro i v m₁ nx h tk gens oI hi hv ⟨D, vs', k, hD, H, rfl, hS'⟩ hoff hbare F3 N3
      refine wpAny_passesOwn (E := ek) (by dsimp only [ek]; passes_own) ?_
      have hv' : vs[i]? = some v := by simpa using hv
      have hxl := hS.length
      have hi' : i < xs.length := by simpa [← hxl] using hi
      obtain ⟨x, hx⟩ : ∃ x, xs[i]? = some x := ⟨xs[i], by simp [hi']⟩
      obtain ⟨t, hv''⟩ := hS.at hx
      rw [hv'] at hv''
      cases hv''
      replace F3 := (H.push (x := "v") (v := .str x t) (by rfl)).fr F3
      dsimp only [kstB] at F3
      have hxm : x ∈ xs := List.mem_of_getElem? hx
      have hxok := hok x hxm
      clear F1 N1
      simp only [List.cons_append, List.nil_append] at N3
      have hoffI : ∀ p ∈ [(_, oI)], p.1 ≠ D := fun p hp => by
        rw [List.mem_singleton.mp hp]
        exact (hoff _ (.head _)).symm
      have hDI := hoff _ (.head _)
      have hsz : vs'.toArray.size ≤ 1000 := by
        have := hS'.length
        simp only [List.length_map, List.length_take] at this
        rw [List.size_toArray]
        omega
      have hS'' : ∀ y u, y = fixP x → StrsAre (vs' ++ [.str y u]) ((xs.take (i + 1)).map fixP) := fun y u e => by
        rw [List.take_add_one, hx, List.map_append]
        exact strs_append hS' (by rw [e]; exact .cons _ _ .nil)
      k_steps
      all_goals (
        try dsimp only
        rename News _ _ _ _ => N9
        rw [List.push_toArray] at N9
        refine turnG_ (by assumption) (by assumption) N9 (nx := [(D, _)]) (fun p hp => by rw [List.mem_singleton.mp hp]; exact .head _) (.tail _ (.head _)) (fun p hp => by rw [List.mem_singleton.mp hp]; exact hDI) ⟨D, _, _, hD, by walk_at "mine has", rfl, hS'' _ _ ?_⟩
        unfold fixP
        first
          | rw [if_pos (by assumption)]
          | (rw [if_neg (by simp [*])]))
    · rintro h tk m' nx gens hbare F3 N3 ⟨D, vs', k, hD, H, rfl, hS'⟩
      replace F3 := H.fr F3
      dsimp only [kstB] at F3
      clear F1 N1
      dsimp only
      k_steps
      try dsimp only
      k_unfold
      try dsimp only
      refine leaveG_ F3 hbare ⟨D, vs', k, rfl, hD, (N3 _ (.head _)).1, ?_⟩
      rw [List.take_of_length_le (by have := hS.length; simp [this])] at hS'
      exact hS'
  · intro _; rfl
end

end
theorem startK2 : True := by
  w_top off
  exact trivial
section
set_option maxRecDepth 100000
section
section
variable {prog : Program} {w : World} {A : Around} {E : Value → Shared → Prop} {s : Shared} {h₀ : Heap} {L D : Addr} {m : Str → Option Value} {news rest : List (Addr × Obj)} {its : Array Value} {ns : List Int} {i x : Int} {u tx : Tok} {k : Nat}
theorem get_at {value slice : PySem.Expr} {Q : Value → Shared → Prop} (N : News h₀ L s.heap news) (hm : (D, listOf its k) ∈ news) (hI : IntsAre its.toList ns) (h0 : 0 ≤ i) (h1 : i < (ns.length : Int)) (hb : i < 2 ^ 63) (h : ∀ t, Q (.int (ns.getD i.toNat 0) t) s)
    (hs : subscripted slice false (.ref D) (.int i u) = operate [.ref D, .int i u] (getItem (.ref D) (.int i u)) := by with_unfolding_all rfl) :
    wpAny (model prog w) A (subscriptTail value slice (.ref D) (.int i u)) Q E s := by
  have hl : s.heap.IsList D its := News.isList N hm
  have hlt : i.toNat < ns.length := by omega
  obtain ⟨t, ht⟩ := hI.get i.toNat (ns.getD i.toNat 0) (by simp [hlt])
  refine tail_any hl.typeIs slot_list_getitem.lookup (wpAny_getItem_list hl h0 hb ?_ (h t)) hs
  rw [← Array.getElem?_toList]
  exact ht
theorem ints_set {vs : List Value} {ns : List Int} (h : IntsAre vs ns) (j : Nat) (x : Int) (t : Tok) : IntsAre (vs.set j (.int x t)) (ns.set j x) := by
  induction h generalizing j with
  | nil => exact .nil
  | cons n t' _ ih =>
    cases j with
    | zero => exact .cons _ _ (by assumption)
    | succ j => exact .cons _ _ (ih j)
theorem put_at {Q : Unit → Shared → Prop} (F : Fr h₀ L s.heap m) (N : News h₀ L s.heap ((D, listOf its k) :: rest)) (hoff : ∀ p ∈ rest, p.1 ≠ D) (hI : IntsAre its.toList ns) (h0 : 0 ≤ i) (h1 : i < (ns.length : Int)) (hb : i < 2 ^ 63)
    (h : ∀ h' its', Fr h₀ L h' m → News h₀ L h' ((D, listOf its' k) :: rest) → IntsAre its'.toList (ns.set i.toNat x) → Q () { s with heap := h' }) :
    wpAny (model prog w) A (setItem (.ref D) (.int i u) (.int x tx)) Q E s := by
  have z := N _ (.head _)
  have hz := hI.length
  rw [Array.length_toList] at hz
  refine ki_setAt z.1 h0 hb (by omega) (h _ (its.setIfInBounds i.toNat (.int x tx)) (F.change (Heap.SameBut.update ..) z.2.1 z.2.2) (ki_turn (pre := []) _ N (fun _ h => nomatch h) hoff rfl ?_) ?_)
  · simp
  · rw [Array.toList_setIfInBounds]
    exact ints_set hI _ _ _
theorem cat_ints {l b : Addr} {its its2 : Array Value} {ns ms : List Int} {k k2 : Nat} {Q : Value → Shared → Prop} (F : Fr h₀ L s.heap m) (N : News h₀ L s.heap news) (hl : (l, listOf its k) ∈ news) (hb : (b, listOf its2 k2) ∈ news)
    (hi : IntsAre its.toList ns) (hj : IntsAre its2.toList ms) (hsz : ns.length + ms.length ≤ 16777216)
    (h : ∀ h' D' its', Fr h₀ L h' m → News h₀ L h' ((D', listOf its' 0) :: news) → (∀ p ∈ news, p.1 ≠ D') → IntsAre its'.toList (ns ++ ms) → Q (.ref D') { s with heap := h' }) :
    wpAny (model prog w) A (binaryOp .Add (.ref l) (.ref b)) Q E s := by
  refine add_arrays_ints F N (News.isList N hl) (News.isList N hb) hi hj (fun h' F' N' hI => h h' _ _ F' N' (fun p hp => Nat.ne_of_lt (Heap.lt_size (N p hp).1)) hI) (by rw [sizeLine_eq]; exact hsz)
theorem foldl_rep (v : Value) : ∀ (j : Nat) (acc : Array Value), (List.foldl (fun x1 x2 => x1 ++ x2) acc (List.replicate j #[v])).toList = acc.toList ++ List.replicate j v
  | 0, acc => by simp
  | j + 1, acc => by
      rw [List.replicate_succ, List.foldl_cons, foldl_rep v j]
      simp [List.replicate_succ]
theorem ints_rep (n : Int) (t : Tok) : ∀ j : Nat, IntsAre (List.replicate j (.int n t)) (List.replicate j n)
  | 0 => .nil
  | j + 1 => .cons _ _ (ints_rep n t j)
theorem rep_one {l : Addr} {n y : Int} {t : Tok} {k : Nat} {Q : Value → Shared → Prop} (F : Fr h₀ L s.heap m) (N : News h₀ L s.heap news) (hl : (l, listOf #[.int n t] k) ∈ news) (h0 : 0 ≤ y) (h1 : y ≤ 100000)
    (h : ∀ h' D' its', Fr h₀ L h' m → News h₀ L h' ((D', listOf its' 0) :: news) → (∀ p ∈ news, p.1 ≠ D') → IntsAre its'.toList (List.replicate y.toNat n) → Q (.ref D') { s with heap := h' }) :
    wpAny (model prog w) A (binaryOp .Mult (.ref l) (.int y u)) Q E s := by
  refine mul_list F N (N.get hl) (by omega) (by omega) (by simp only [List.size_toArray, List.length_singleton]; omega) (fun h' F' N' => h h' _ _ F' N' (fun p hp => Nat.ne_of_lt (Heap.lt_size (N p hp).1)) ?_)
  rw [if_neg (by simp), foldl_rep]
  exact ints_rep _ _ _
end
end

end
local macro_rules | `(tactic| walk_at "mine pad") => `(tactic| skip)
theorem startW1 : True := by
  w_top off
  exact trivial
section
set_option maxRecDepth 100000
section
theorem fillW1 : PySem.Challenge.rw_sc0089_01 = PySem.Challenge.rw_sc0089_01 ∧ Mine.hd.heap_39 = Mine.hd.heap_39 := by
  k_fill
  exact ⟨rfl, rfl⟩
/-- the body and the scope of a class's method -/
def methAt (i j : Nat) : List Stmt × Scope := match PySem.Challenge.pw_sc0089_01.main.body[i]? with
  | some (.ClassDef _ _ _ b _ _ _ _ _ _ _) => (match b[j]? with
    | some (.FunctionDef _ _ b' _ _ _ sc _ _ _) => (b', sc)
    | _ => ([], default))
  | _ => ([], default)
abbrev wsEnv (L : Addr) : Env := envOf (Str.ofString "Whitespace.__init__") (methAt 13 1).2 L 80 (.ref 79)
def wsFor : Stmt := (methAt 13 1).1.getD 4 default

/-! plain: the runs of blanks counted -/
def wsGrow (b : Nat) (cs : List Int) : List Int := if cs.length ≤ b then cs ++ List.replicate (b - cs.length + 1) 0 else cs
def wsBump (b : Nat) (cs : List Int) : List Int := (wsGrow b cs).set b ((wsGrow b cs).getD b 0 + 1)
def wsGo : List Nat → Nat → Nat → Nat → List Int → Nat × Nat × Nat × List Int
  | [], n, nt, b, cs => (n, nt, b, cs)
  | c :: r, n, nt, b, cs => if c = 32 then wsGo r (n + 1) nt (b + 1) cs else if c = 9 then wsGo r (n + 1) (nt + 1) 0 (wsBump b cs) else (n, nt, b, cs)

local macro_rules | `(tactic| walk_at "subscriptTail") => `(tactic| ((with_reducible show wpAny _ _ (subscriptTail _ _ (Value.ref _) (Value.int _ _)) _ _ _); (rename News _ _ _ _ => N9); refine get_at N9 (by exact .head _) (by assumption) (by omega) (by omega) (by omega) ?_; intro t9; (try dsimp only)))
local macro_rules | `(tactic| walk_at "setItem ref int") => `(tactic| ((rename Fr _ _ _ _ => F9); (rename News _ _ _ _ => N9); refine put_at F9 N9 (by assumption) (by assumption) (by omega) (by omega) (by omega) ?_; intro h9 its9 F8 N8 I8; (try dsimp only)))

theorem all_lt {d : Addr} {l : List (Addr × Obj)} (h : AllLt d l) : ∀ p ∈ l, p.1 < d := by
  induction l with
  | nil => exact fun _ hp => nomatch hp
  | cons q r ih =>
    intro p hp
    have h1 : q.1 < d ∧ AllLt d r := h
    rcases List.mem_cons.mp hp with rfl | hp
    · exact h1.1
    · exact ih h1.2 p hp
theorem flat_rep {α : Type} (a : α) : ∀ n : Nat, (List.replicate n [a]).flatten = List.replicate n a
  | 0 => rfl
  | n + 1 => by rw [List.replicate_succ, List.flatten_cons, flat_rep a n, List.replicate_succ]; rfl
theorem sign_eq {c n : Nat} (he : ((⟨#[c]⟩ : Str) == ⟨#[n]⟩) = true) : c = n := one_inj.mp he
theorem sign_ne {c n : Nat} (he : ((⟨#[c]⟩ : Str) == ⟨#[n]⟩) = false) : c ≠ n := fun h => by
  rw [one_inj.mpr h] at he
  cases he
theorem led_sub0 {q r : Addr × Obj} {led : List (Addr × Obj)} : ∀ p ∈ q :: led, p ∈ q :: (led ++ [r]) := fun p hp => by
  rcases List.mem_cons.mp hp with rfl | hp
  · exact .head _
  · exact .tail _ (List.mem_append_left _ hp)
theorem led_in0 {q r : Addr × Obj} {led : List (Addr × Obj)} : r ∈ q :: (led ++ [r]) := .tail _ (List.mem_append_right _ (.head _))
theorem led_sub3 {q q1 q2 q3 r : Addr × Obj} {led : List (Addr × Obj)} : ∀ p ∈ q :: led, p ∈ q :: q1 :: q2 :: q3 :: (led ++ [r]) := fun p hp => by
  rcases List.mem_cons.mp hp with rfl | hp
  · exact .head _
  · exact .tail _ (.tail _ (.tail _ (.tail _ (List.mem_append_left _ hp))))
theorem led_in3 {q q1 q2 q3 r : Addr × Obj} {led : List (Addr × Obj)} : r ∈ q :: q1 :: q2 :: q3 :: (led ++ [r]) := .tail _ (.tail _ (.tail _ (.tail _ (List.mem_append_right _ (.head _)))))

set_option maxHeartbeats 4000000 in
theorem ws_loop (w : World) (mean : ExcName → Option Value) (mg mb : Str → Option Value) (x : Str) (A : Around) (hh : A.handled = none) (g : Heap) (L I D0 XS : Addr) (px : Pos) (led : List (Addr × Obj)) (m : Str → Option Value) (s : Shared) (Rr : Result → Shared → Prop) (St : Nat → Heap → Prop) (tS tT t0 t1 t2 : Tok)
    (W : Walks PySem.Challenge.pw_sc0089_01 w A I [I] [I] x.cps.size (SignAt x) St) (hlive : ∀ i h, St i h → ∃ o, h.get? I = some o) (hst : St 0 s.heap)
    (X : (Mine.hd.heap_39 w.params).In g) (T : Top Mine.hd.view_39 [Str.ofString "Whitespace"] mean mg mb g) (hx : x.length ≤ 1000)
    (hI : g.get? I = none) (hIL : I ≠ L) (hledI : ∀ p ∈ led, p.1 ≠ I) (hDI : D0 ≠ I)
    (F : Fr g L s.heap m) (H : Has m [("self", .ref XS), ("S", .str (Str.ofString " ") tS), ("T", .str (Str.ofString "\t") tT), ("count", .ref D0), ("n", .int 0 t0), ("nt", .int 0 t1), ("b", .int 0 t2)])
    (N : News g L s.heap ((D0, listOf #[] 0) :: led)) (hled : ∀ p ∈ led, p.1 ≠ D0)
    (hQ : ∀ h' tk' m' (D : Addr) its k n nt b cs tn tnt tb, Fr g L h' m' → Has m' [("self", .ref XS), ("count", .ref D), ("n", .int ((n : Nat) : Int) tn), ("nt", .int ((nt : Nat) : Int) tnt), ("b", .int ((b : Nat) : Int) tb)] →
      News g L h' ((D, listOf its k) :: led) → (∀ p ∈ led, p.1 ≠ D) → IntsAre its.toList cs → cs.length ≤ x.length → b ≤ x.length → wsGo (codes x) 0 0 0 [] = (n, nt, b, cs) → Rr (.ok .next) { s with heap := h', toks := tk' }) :
    codeAny (model PySem.Challenge.pw_sc0089_01 w) A (.forLoop (.Name (Str.ofString "ch") px) (.ref I) (forBody wsFor) [] (wsEnv L)) Rr s := by
  refine gloop (· = s.gens) W rfl rfl hI hIL (fun b hb => .inl (List.mem_singleton.mp hb)) hlive hst F N (fun p hp => ?_) rfl
    (fun i m nx => ∃ (n nt b : Nat) (cs : List Int) (D : Addr) (its : Array Value) (k : Nat) (tn tnt tb : Tok), Has m [("self", .ref XS), ("S", .str (Str.ofString " ") tS), ("T", .str (Str.ofString "\t") tT), ("count", .ref D), ("n", .int ((n : Nat) : Int) tn), ("nt", .int ((nt : Nat) : Int) tnt), ("b", .int ((b : Nat) : Int) tb)] ∧
      nx = (D, listOf its k) :: led ∧ (∀ p ∈ led, p.1 ≠ D) ∧ D ≠ I ∧ IntsAre its.toList cs ∧ cs.length ≤ i ∧ b ≤ i ∧ wsGo (codes x) 0 0 0 [] = wsGo ((codes x).drop i) n nt b cs)
    ⟨0, 0, 0, [], D0, #[], 0, t0, t1, t2, H, rfl, hled, hDI, .nil, by simp, by simp, rfl⟩ ?_ ?_
  · rcases List.mem_cons.mp hp with rfl | hp
    · exact hDI
    · exact hledI p hp
  · rintro i v m₁ nx h tk gens oI hi ⟨c, u, hc, rfl⟩ ⟨n, nt, b, cs, D, its, k, tn, tnt, tb, H', rfl, hledD, hDI', hIs, hcs, hb, hgo⟩ hoff rfl F3 N3
    replace F3 := (H'.push (x := "ch") (v := .str ⟨#[c]⟩ u) (by rfl)).fr F3
    dsimp only [kstB] at F3
    have hi' : i < x.length := hi
    have hdr := drop_at (l := codes x) (i := i) (d := 0) (by rw [codes_length]; exact hi)
    have hgd : (codes x).getD i 0 = c := by
      have : (codes x)[i]? = some c := (Array.getElem?_toList ..).trans hc
      simp [this]
    rw [hgd] at hdr
    rw [hdr] at hgo
    have hoffD : ∀ p ∈ led ++ [(I, oI)], p.1 ≠ D := fun p hp => by
      rcases List.mem_append.mp hp with hp | hp
      · exact hledD p hp
      · rw [List.mem_singleton.mp hp]; exact hDI'.symm
    have hsz : its.size = cs.length := by rw [← hIs.length, Array.length_toList]
    have hoffI : ∀ o : Obj, ∀ p ∈ (D, o) :: led, p.1 ≠ I := fun o p hp => by
      rcases List.mem_cons.mp hp with rfl | hp
      · exact hDI'
      · exact hledI p hp
    simp only [List.cons_append] at N3
    conv in (forBody wsFor) => whnf
    k_steps
    · have hc32 : c = 32 := by
        rename ((⟨#[c]⟩ : Str) == _) = true => he
        exact sign_eq (n := 32) he
      try dsimp only
      rename News _ _ _ _ => N9
      refine turnG_ rfl (by assumption) N9 (nx := (D, listOf its k) :: led) led_sub0 led_in0 (hoffI _) ⟨n + 1, nt, b + 1, cs, D, its, k, _, _, _, by walk_at "mine has", rfl, hledD, hDI', hIs, by omega, by omega, ?_⟩
      rw [hgo, hc32]
      rfl
    · have hc9 : c = 9 := by
        rename ((⟨#[c]⟩ : Str) == Str.ofString "\t") = true => he
        exact sign_eq (n := 9) he
      rename _ < _ ∧ _ < _ ∧ _ < _ ∧ AllLt _ (led ++ [(I, oI)]) => hal
      have hal' := all_lt hal.2.2.2
      try dsimp only
      rename News _ _ _ _ => N9
      refine turnG_ rfl (by assumption) N9 (nx := (_, listOf _ _) :: led) led_sub3 led_in3 (fun p hp => ?_) ⟨n + 1, nt + 1, 0, wsBump b cs, _, _, _, _, _, _, by walk_at "mine has", rfl, fun p hp => Nat.ne_of_lt (hal' p (List.mem_append_left _ hp)), Nat.ne_of_gt (hal' _ (List.mem_append_right _ (.head _))), ?_, ?_, by omega, ?_⟩
      · rcases List.mem_cons.mp hp with rfl | hp
        · exact Nat.ne_of_gt (hal' _ (List.mem_append_right _ (.head _)))
        · exact hledI p hp
      · have e : cs ++ (List.replicate ((b : Int) - cs.length + 1).toNat [(0 : Int)]).flatten = wsGrow b cs := by
          unfold wsGrow
          rw [if_pos (by omega), flat_rep, show ((b : Int) - cs.length + 1).toNat = b - cs.length + 1 by omega]
        rename IntsAre (List.set _ _ _) _ => hi9
        rw [e] at hi9 ⊢
        exact hi9
      · unfold wsBump
        rw [List.length_set]
        unfold wsGrow
        split <;> (try simp) <;> omega
      · rw [hgo, hc9]
        rfl
    · have hc9 : c = 9 := by
        rename ((⟨#[c]⟩ : Str) == Str.ofString "\t") = true => he
        exact sign_eq (n := 9) he
      have hgr : wsGrow b cs = cs := by
        unfold wsGrow
        rw [if_neg (by omega)]
      rename IntsAre _ (cs.set _ _) => hI9
      rw [Int.toNat_natCast] at hI9
      try dsimp only
      rename News _ _ _ _ => N9
      refine turnG_ rfl (by assumption) N9 (nx := (D, listOf _ k) :: led) led_sub0 led_in0 (hoffI _) ⟨n + 1, nt + 1, 0, wsBump b cs, D, _, k, _, _, _, by walk_at "mine has", rfl, hledD, hDI', ?_, ?_, by omega, ?_⟩
      · unfold wsBump
        rw [hgr]
        exact hI9
      · unfold wsBump
        rw [hgr, List.length_set]
        omega
      · rw [hgo, hc9]
        rfl
    · have hc32 : c ≠ 32 := by
        rename ((⟨#[c]⟩ : Str) == Str.ofString " ") = false => he
        exact sign_ne (n := 32) he
      have hc9 : c ≠ 9 := by
        rename ((⟨#[c]⟩ : Str) == Str.ofString "\t") = false => he
        exact sign_ne (n := 9) he
      try dsimp only
      rename News _ _ _ _ => N9
      refine hQ _ _ _ D its k n nt b cs tn tnt tb (by assumption) (by walk_at "mine has") (fun p hp => N9 p (led_sub0 p hp)) hledD hIs (by omega) (by omega) ?_
      rw [hgo]
      simp only [wsGo]
      rw [if_neg hc32, if_neg hc9]
  · rintro h tk m₁ nx gens rfl F3 N3 ⟨n, nt, b, cs, D, its, k, tn, tnt, tb, H', rfl, hledD, hDI', hIs, hcs, hb, hgo⟩
    rw [List.drop_of_length_le (by rw [codes_length]; exact Nat.le_refl _)] at hgo
    obtain ⟨a1, a2, a3, a4, a5, a6, a7, _⟩ := H'
    exact hQ h tk m₁ D its k n nt b cs tn tnt tb F3 ⟨a1, a4, a5, a6, a7, trivial⟩ N3 hledD hIs hcs hb hgo
theorem ws_iter (w : World) (mean : ExcName → Option Value) (mg mb : Str → Option Value) (x : Str) (t : Tok) (A : Around) (hh : A.handled = none) (g : Heap) (L D0 XS : Addr) (px : Pos) (led : List (Addr × Obj)) (m : Str → Option Value) (s : Shared) (Rr : Result → Shared → Prop) (E : Value → Shared → Prop) (tS tT t0 t1 t2 : Tok)
    (X : (Mine.hd.heap_39 w.params).In g) (T : Top Mine.hd.view_39 [Str.ofString "Whitespace"] mean mg mb g) (hx : x.length ≤ 1000)
    (F : Fr g L s.heap m) (H : Has m [("self", .ref XS), ("S", .str (Str.ofString " ") tS), ("T", .str (Str.ofString "\t") tT), ("count", .ref D0), ("n", .int 0 t0), ("nt", .int 0 t1), ("b", .int 0 t2)])
    (N : News g L s.heap ((D0, listOf #[] 0) :: led)) (hled : AllLt D0 led)
    (hQ : ∀ h' tk' m' (D : Addr) its k n nt b cs tn tnt tb, Fr g L h' m' → Has m' [("self", .ref XS), ("count", .ref D), ("n", .int ((n : Nat) : Int) tn), ("nt", .int ((nt : Nat) : Int) tnt), ("b", .int ((b : Nat) : Int) tb)] →
      News g L h' ((D, listOf its k) :: led) → (∀ p ∈ led, p.1 ≠ D) → IntsAre its.toList cs → cs.length ≤ x.length → b ≤ x.length → wsGo (codes x) 0 0 0 [] = (n, nt, b, cs) → Rr (.ok .next) { s with heap := h', toks := tk' }) :
    wpAny (model PySem.Challenge.pw_sc0089_01 w) A (pyIter (.str x t)) (fun it s₂ => codeAny (model PySem.Challenge.pw_sc0089_01 w) A (.forLoop (.Name (Str.ofString "ch") px) it (forBody wsFor) [] (wsEnv L)) Rr s₂) E s := by
  refine wpAny_pyIter_strU ?_
  have N1 : News g L (s.heap.push { cls := .type (strIterType x), data := .fields #[.str x t, .int 0 0] }) ((D0, listOf #[] 0) :: led) := fun p hp => ⟨Heap.get?_push_of_some _ (N p hp).1, (N p hp).2⟩
  have hne : ∀ p ∈ led, p.1 ≠ D0 := fun p hp => Nat.ne_of_lt (all_lt hled p hp)
  cases hal : x.cps.all (· < 128)
  · exact ws_loop w mean mg mb x A hh g L s.heap.objs.size D0 XS px led m _ Rr _ tS tT t0 t1 t2 (Walks.strWide hh s.heap.objs.size x t) (fun i h st => let ⟨o, ho, _⟩ := st; ⟨o, ho⟩)
      (by simp only [strIterType, hal]; exact ⟨_, Heap.get?_push_size _ rfl, rfl, rfl⟩) X T hx (next_is_new F) (Nat.ne_of_gt F.ns.lt) (fun p hp => Nat.ne_of_lt (Heap.lt_size (N p (.tail _ hp)).1)) (Nat.ne_of_lt (Heap.lt_size (N _ (.head _)).1)) (F.push _) H N1 hne hQ
  · exact ws_loop w mean mg mb x A hh g L s.heap.objs.size D0 XS px led m _ Rr _ tS tT t0 t1 t2 (Walks.strAscii hh s.heap.objs.size x t) (fun i h st => let ⟨o, ho, _⟩ := st; ⟨o, ho⟩)
      (by simp only [strIterType, hal]; exact ⟨_, Heap.get?_push_size _ rfl, rfl, rfl⟩) X T hx (next_is_new F) (Nat.ne_of_gt F.ns.lt) (fun p hp => Nat.ne_of_lt (Heap.lt_size (N p (.tail _ hp)).1)) (Nat.ne_of_lt (Heap.lt_size (N _ (.head _)).1)) (F.push _) H N1 hne hQ
end

end
local macro_rules | `(tactic| walk_at "mine pad") => `(tactic| skip)
theorem startW2 : True := by
  w_top off
  exact trivial
section
set_option maxRecDepth 100000
section
theorem fillW2 : PySem.Challenge.rw_sc0089_01 = PySem.Challenge.rw_sc0089_01 ∧ Mine.hd.heap_39 = Mine.hd.heap_39 := by
  k_fill
  exact ⟨rfl, rfl⟩
local macro_rules | `(tactic| walk_at "execs cons") => `(tactic| walk_at "mine r0")
local macro_rules | `(tactic| walk_at "pyIter str") => `(tactic| walk_at "mine r1")
local macro_rules | `(tactic| walk_at "call ref") => `(tactic| (k_here; k_dflt (refine' call_cls ?k1 ?k2 ?k3 ?k4 ?k5 ?k6 ?_; (case k1 => k_asm); (case k2 => k_asm); (case k3 => k_asm); (case k4 => k_is); (case k5 => k_is); (case k6 => k_is); k_whole; intro x' d' h' F' N' l1 l2; (try k_lt l1); (try k_lt2 l2); (try k_sweep); ktr_enter)))
local macro_rules | `(tactic| k_all) => `(tactic| (intro p hp; (have hlt9 := all_lt (by assumption) p hp); k_ne))

section
variable {prog : Program} {w : World} {A : Around} {E : Value → Shared → Prop} {s : Shared} {h₀ : Heap} {L : Addr} {m : Str → Option Value} {news : List (Addr × Obj)} {Q : Value → Shared → Prop}
theorem tup_of {l : Addr} {its : Array Value} {k : Nat} (F : Fr h₀ L s.heap m) (N : News h₀ L s.heap news) (hm : (l, listOf its k) ∈ news) (hsz : its.size ≤ 16777216)
    (h : ∀ (D : Addr) h', Fr h₀ L h' m → News h₀ L h' ((D, { cls := .type "tuple", data := .seq its }) :: news) → (∀ p ∈ news, p.1 < D) → Q (.ref D) { s with heap := h' }) :
    wpAny (model prog w) A (call (.type "tuple") [.ref l]) Q E s := by
  refine call_tuple_list (News.isList N hm) (fun h' hk => ?_) (by rw [sizeLine_eq]; exact hsz)
  have F' : Fr h₀ L h' m := F.keeps hk
  have N' : News h₀ L h' news := fun p hp => ⟨hk _ _ (N p hp).1, (N p hp).2⟩
  exact h _ _ (F'.push _) (N'.push F' _) fun p hp => Heap.lt_size (N' p hp).1
end
local macro_rules | `(tactic| walk_at "call type:tuple") => `(tactic| (k_here; (with_reducible show wpAny _ _ (call (Value.type _) [Value.ref _]) _ _ _); k_dflt (refine' tup_of ?k1 ?k2 ?k3 ?k4 ?_; (case k1 => k_asm); (case k2 => k_asm); (case k3 => k_mem); (case k4 => omega); k_whole); intro D' h' F' N' l1; (try k_lt l1); (try k_sweep)))

/-- the dict of a Whitespace -/
abbrev wsEntries (P : Params) (x : Str) (t : Tok) (n nt : Nat) (TN : Addr) (sm : Bool) (tn tnt k1 k2 k3 k4 k5 : Tok) : List DictEntry :=
  [⟨PyData.keyHash P (Str.ofString "raw"), .str (Str.ofString "raw") k1, .str x t⟩, ⟨PyData.keyHash P (Str.ofString "n"), .str (Str.ofString "n") k2, .int (n : Int) tn⟩, ⟨PyData.keyHash P (Str.ofString "nt"), .str (Str.ofString "nt") k3, .int (nt : Int) tnt⟩,
    ⟨PyData.keyHash P (Str.ofString "norm"), .str (Str.ofString "norm") k4, .ref TN⟩, ⟨PyData.keyHash P (Str.ofString "is_simple"), .str (Str.ofString "is_simple") k5, .bool sm⟩]
abbrev tupObj (its : Array Value) : Obj := { cls := .type "tuple", data := .seq its }
theorem mem_pick {a b c d e f : Addr × Obj} {l : List (Addr × Obj)} : ∀ p ∈ a :: b :: e :: f :: l, p ∈ a :: b :: c :: d :: e :: f :: l := fun p hp => by
  rcases List.mem_cons.mp hp with rfl | hp
  · exact .head _
  rcases List.mem_cons.mp hp with rfl | hp
  · exact .tail _ (.head _)
  · exact .tail _ (.tail _ (.tail _ (.tail _ hp)))

set_option maxHeartbeats 4000000 in
theorem ws_make (w : World) (mean : ExcName → Option Value) (mg mb : Str → Option Value) (x : Str) (t : Tok) (hx : x.length ≤ 1000)
    (dp un : Nat) (gd : Option (List Code)) (cn : Str) (cs : Scope) (a : Addr) (ccd : Value) (cl : List (Str × Addr)) (outer : List Env) (A₀ : Around) (base h₀ : Heap) (L : Addr) (m : Str → Option Value) (led : List (Addr × Obj)) (s : Shared) (Q E : Value → Shared → Prop)
    (B : Below A₀ base outer h₀) (F : Fr h₀ L s.heap m) (X : (Mine.hd.heap_39 w.params).In h₀) (N : News h₀ L s.heap led) (T : Top Mine.hd.view_39 [Str.ofString "Whitespace"] mean mg mb h₀) (hk : cs.kind = .function) (hd : dp + 4 < recursionLimit) (hu : un + 8 * 4 < cLine)
    (ret : ∀ h' tk' (XO dx TN TC : Addr) its n nt b cs sm tb tn tnt k1 k2 k3 k4 k5, Fr h₀ L h' m →
      News h₀ L h' ((TN, tupObj #[.ref TC, .int ((b : Nat) : Int) tb]) :: (TC, tupObj its) :: (XO, instObj 125 dx) :: (dx, dictOf (wsEntries w.params x t n nt TN sm tn tnt k1 k2 k3 k4 k5) 5) :: led) → (∀ p ∈ led, p.1 < dx) → dx < XO → XO < TC → TC < TN →
      IntsAre its.toList cs → wsGo (codes x) 0 0 0 [] = (n, nt, b, cs) → cs.length ≤ x.length → b ≤ x.length → Q (.ref XO) { s with heap := h', toks := tk' }) :
    wpAny (model PySem.Challenge.pw_sc0089_01 w) (ktrTop dp un gd cn cs L a ccd cl outer) (call (.ref 125) [.str x t]) Q E s := by
  k_steps
  unfold Held
  try dsimp only
  rw [execs_cons]
  refine wpAny_bind (wpAny_For ?_ ?_)
  · k_steps
    unfold Held
    try dsimp only
    rename Fr _ _ _ _ => F1
    rename News _ _ _ _ => N1
    rename (Mine.hd.heap_39 w.params).In _ => X1
    rename Top _ _ _ _ _ _ => T1
    rename _ < _ ∧ _ < _ ∧ _ < _ ∧ AllLt _ led => hal
    refine ws_iter w mean mg mb x t _ rfl _ _ _ _ _ _ _ _ _ _ _ _ _ _ _ X1 T1 hx F1 (by walk_at "mine has") N1 hal ?_
    intro h2 tk2 m2 D2 its2 k2 n2 nt2 b2 cs2 tn2 tnt2 tb2 F2 H2 N2 hne2 hI2 hcs2 hb2 hgo2
    replace F2 := H2.fr F2
    clear F1 N1 H2
    dsimp only [kstB] at F2
    have hd1 := neN (hne2 _ (.head _))
    have hd2 := neN (hne2 _ (.tail _ (.head _)))
    have hd3 := neN (hne2 _ (.tail _ (.tail _ (.head _))))
    have hd4 : ∀ p ∈ led, p.1 ≠ D2 := fun p hp => hne2 p (.tail _ (.tail _ (.tail _ hp)))
    dsimp only at hd1 hd2 hd3
    have hsz2 : its2.size ≤ 1000 := by
      have := hI2.length
      rw [Array.length_toList] at this
      omega
    try dsimp only
    k_steps
    rename Fr h₀ L _ m => kF
    rename News h₀ L _ _ => kN
    rename _ < _ ∧ _ < _ ∧ _ < _ ∧ _ < _ ∧ AllLt _ led => ha1
    rename _ < _ ∧ _ < _ ∧ _ < _ ∧ _ < _ ∧ _ < _ ∧ AllLt _ led => ha2
    rename ∀ p ∈ led, p.1 < _ => ha3
    rename @LT.lt Nat _ _ _ => ha4
    exact ret _ _ _ _ _ _ _ n2 nt2 b2 cs2 _ _ _ _ _ _ _ _ _ kF (fun p hp => kN p (mem_pick p hp)) ha3 ha4 ha1.2.2.1 ha2.1 hI2 hgo2 hcs2 hb2
  · intro _; rfl
end

end
local macro_rules | `(tactic| walk_at "mine steps") => `(tactic| repeat' (first | (k_unfold; (try dsimp only)) | (k_end; wrow_close) | (walk1; (try dsimp only)) | (dsimp only; walk1) | (leave1; walk_say "STEP leave1"; try dsimp only) | fail "no step"))
local macro_rules | `(tactic| walk_at "mine r3") => `(tactic| (k_here; (rename Fr _ _ _ _ => lF'); (with_unfolding_all refine' For_invVF lF' ?k1 ?k2 ?_ ?k3 ?k4; (case k1 => exact rfl); (case k2 => exact rfl); (case k3 => intro _; exact rfl); (case k4 => (dsimp only [ek]; passes_own)); k_whole)))
local macro_rules | `(tactic| walk_at "mine pad") => `(tactic| skip)
local macro_rules | `(tactic| walk_at "mine pad") => `(tactic| skip)
local macro_rules | `(tactic| walk_at "mine pad") => `(tactic| skip)
theorem startW3 : True := by
  w_top off
  exact trivial
section
set_option maxRecDepth 100000
section
theorem fillW3 : PySem.Challenge.rw_sc0089_01 = PySem.Challenge.rw_sc0089_01 ∧ Mine.hd.heap_39 = Mine.hd.heap_39 := by
  k_fill
  exact ⟨rfl, rfl⟩
section
variable {prog : Program} {w : World} {A : Around} {E : Value → Shared → Prop} {s : Shared} {h₀ : Heap} {L D : Addr} {news : List (Addr × Obj)} {its : Array Value} {ns : List Int} {i : Int} {u : Tok}
theorem len_T {Q : Value → Shared → Prop} (N : News h₀ L s.heap news) (hm : (D, tupObj its) ∈ news) (hsz : its.size ≤ 1000000) (h : ∀ t, Q (.int (its.size : Int) t) { s with toks := s.toks + 1 + 1 }) :
    wpAny (model prog w) A (call (.builtin "len") [.ref D]) Q E s :=
  len_tuple ⟨_, N.get hm, rfl, _, rfl⟩ (by omega) (h _)
theorem get_atT {value slice : PySem.Expr} {Q : Value → Shared → Prop} (N : News h₀ L s.heap news) (hm : (D, tupObj its) ∈ news) (hI : IntsAre its.toList ns) (h0 : 0 ≤ i) (h1 : i < (ns.length : Int)) (hb : i < 2 ^ 63) (h : ∀ t, Q (.int (ns.getD i.toNat 0) t) s)
    (hs : subscripted slice false (.ref D) (.int i u) = operate [.ref D, .int i u] (getItem (.ref D) (.int i u)) := by with_unfolding_all rfl) :
    wpAny (model prog w) A (subscriptTail value slice (.ref D) (.int i u)) Q E s := by
  have hl : s.heap.IsTuple D its := ⟨_, N.get hm, rfl, _, rfl⟩
  have hlt : i.toNat < ns.length := by omega
  obtain ⟨t, ht⟩ := hI.get i.toNat (ns.getD i.toNat 0) (by simp [hlt])
  have hz := hI.length
  rw [Array.length_toList] at hz
  have hx : its[i.toNat]? = some (.int (ns.getD i.toNat 0) t) := by rw [← Array.getElem?_toList]; exact ht
  exact tail_any hl.typeIs slot_tuple_getitem.lookup (getItem_tuple hl (by omega) hb (seqIndex_of h0 (by omega)) hx (h t)) hs
end
local macro_rules | `(tactic| walk_at "subscriptTail") => `(tactic| ((with_reducible show wpAny _ _ (subscriptTail _ _ (Value.ref _) (Value.int _ _)) _ _ _); (rename News _ _ _ _ => N9); refine get_atT N9 (by first | with_reducible assumption | exact List.mem_append_left _ (by with_reducible assumption)) (by with_reducible assumption) (by omega) (by omega) (by omega) ?_; intro t9; (try dsimp only)))
local macro_rules | `(tactic| walk_at "call builtin:len") => `(tactic| ((with_reducible show wpAny _ _ (call _ [Value.ref _]) _ _ _); (rename News _ _ _ _ => N9); refine len_T N9 (by first | with_reducible assumption | exact List.mem_append_left _ (by with_reducible assumption)) (by omega) ?_; intro t9; (try dsimp only)))
local macro_rules | `(tactic| walk_at "execs cons") => `(tactic| walk_at "mine r0")

local macro_rules | `(tactic| walk_at "pyIter ref") => `(tactic| walk_at "mine r1")
local macro_rules | `(tactic| walk_at "exec For Name Call cons nil") => `(tactic| walk_at "mine r3")
/-! plain: the columns -/
def ilPart (cs : List Int) : Nat → Int
  | 0 => 0
  | i + 1 => ilPart cs i + (((i + 2) / 2 : Nat) : Int) * cs.getD (i + 2) 0
def ilOf (cs : List Int) (b nt : Nat) : Int := (b : Int) + 2 * (ilPart cs (cs.length - 2) + (nt : Int))

set_option maxHeartbeats 4000000 in
theorem il_call (w : World) (mean : ExcName → Option Value) (mg mb : Str → Option Value) (x : Str) (t t2 : Tok)
    (dp un : Nat) (gd : Option (List Code)) (cn : Str) (cs : Scope) (a : Addr) (ccd : Value) (cl : List (Str × Addr)) (outer : List Env) (A₀ : Around) (base h₀ : Heap) (L XO dx TN TC : Addr) (m : Str → Option Value) (led : List (Addr × Obj)) (s : Shared) (Q E : Value → Shared → Prop) (its : Array Value) (b n nt : Nat) (tb tn tnt k1 k2 k3 k4 k5 : Tok) (sm : Bool) (ks : List Int)
    (B : Below A₀ base outer h₀) (F : Fr h₀ L s.heap m) (X : (Mine.hd.heap_39 w.params).In h₀) (N : News h₀ L s.heap led) (T : Top Mine.hd.view_39 [Str.ofString "Whitespace"] mean mg mb h₀) (hk : cs.kind = .function) (hd : dp + 4 < recursionLimit) (hu : un + 8 * 4 < cLine)
    (h1 : (TN, tupObj #[.ref TC, .int ((b : Nat) : Int) tb]) ∈ led) (h2 : (TC, tupObj its) ∈ led) (h3 : (XO, instObj 125 dx) ∈ led) (h4 : (dx, dictOf (wsEntries w.params x t n nt TN sm tn tnt k1 k2 k3 k4 k5) 5) ∈ led)
    (hI : IntsAre its.toList ks) (hlen : ks.length ≤ 100) (hbd : ∀ c ∈ ks, 0 ≤ c ∧ c ≤ 1000) (hb : b ≤ 1000) (hnt : nt ≤ 1000) (hil : ∀ i, 0 ≤ ilPart ks i ∧ ilPart ks i ≤ 100000)
    (ret : ∀ h' tk' t', Fr h₀ L h' m → News h₀ L h' led → Q (.int (ilOf ks b nt) t') { s with heap := h', toks := tk' }) :
    wpAny (model PySem.Challenge.pw_sc0089_01 w) (ktrTop dp un gd cn cs L a ccd cl outer) (call (.ref 94) [.ref XO, .int 2 t2]) Q E s := by
  refine wpAny_call ?_
  k_dflt ktr_enter
  have hsz : its.size = ks.length := by rw [← hI.length, Array.length_toList]
  walk_at "mine steps"
  unfold Held
  rw [execs_cons]
  refine wpAny_bind ?_
  walk_at "mine steps"
  unfold Held
  rename IsRange _ _ _ _ _ _ _ _ => hRg
  rename Fr _ _ _ _ => F1
  rename News _ _ _ _ => N1
  refine iter_rangeJ (n := ks.length - 2) (fun i m nx => nx = led ∧ ∃ t, Has m [("self", .ref XO), ("tabsize", .int 2 t2), ("trailing", .int (b : Int) tb), ("count", .ref TC), ("il", .int (ilPart ks i) t)]) rfl hRg (small_one (by omega) (by omega) (by omega) (by omega)) (by rw [rangeSize_nat]; omega) F1 N1 ⟨rfl, _, by walk_at "mine has"⟩ ?_ ?_
  · rintro i ti m₁ nx h tk own hi hoff ⟨rfl, tl, H⟩ F2 N2
    replace F2 := (H.push (x := "i") (v := .int (2 + (i : Int)) ti) (by rfl)).fr F2
    clear F1 N1 H
    dsimp only [kstB] at F2
    walk_at "mine steps"
    try dsimp only
    have hil1 : ilPart ks i + (2 + (i : Int)).fdiv 2 * ks.getD (2 + (i : Int)).toNat 0 = ilPart ks (i + 1) := by
      rw [Int.fdiv_eq_ediv_of_nonneg _ (by omega), show (2 + (i : Int)).toNat = i + 2 by omega, show (2 + (i : Int)) / 2 = (((i + 2) / 2 : Nat) : Int) by omega]
      rfl
    rename Fr _ _ _ _ => F9
    rename News _ _ _ _ => N9
    rw [hil1] at F9
    exact endN_ nx F9 N9 (fun p hp => List.mem_append_left _ hp) (fun p hp => List.mem_append_right _ hp) rfl ⟨rfl, _, by walk_at "mine has"⟩
  · rintro m₁ nx h tk ⟨rfl, tl, H⟩ F2 N2
    replace F2 := H.fr F2
    clear F1 N1 H
    dsimp only [kstB] at F2
    dsimp only
    walk_at "mine steps"
    exact ret _ _ _ (by assumption) (by assumption)
end

end
local macro_rules | `(tactic| walk_at "mine pad") => `(tactic| skip)
theorem startR1 : True := by
  w_top off
  exact trivial
section
set_option maxRecDepth 100000
section
theorem fillR1 : PySem.Challenge.rw_sc0089_01 = PySem.Challenge.rw_sc0089_01 ∧ Mine.hd.heap_39 = Mine.hd.heap_39 := by
  k_fill
  exact ⟨rfl, rfl⟩
local macro_rules | `(tactic| walk_at "execs cons") => `(tactic| walk_at "mine r0")
local macro_rules | `(tactic| walk_at "pyIter ref") => `(tactic| walk_at "mine r1")
local macro_rules | `(tactic| walk_at "exec For Name Call cons nil") => `(tactic| walk_at "mine r3")

/-! plain: the row -/
def rowPart (p d : Nat) : Nat → List Nat
  | 0 => []
  | i + 1 => rowPart p d i ++ [if 2 * (rowPart p d i).count 40 = i then 40 else if (rowPart p d i).count 40 = p then 41 else if d / 2 ^ i % 2 = 1 then 40 else 41]
theorem rowPart_length (p d : Nat) : ∀ i, (rowPart p d i).length = i
  | 0 => rfl
  | i + 1 => by simp [rowPart, rowPart_length p d i]

theorem cnt_count (c : Nat) : ∀ l : List Nat, cnt c l = ((l.count c : Nat) : Int)
  | [] => rfl
  | n :: r => by
      rw [cnt_cons, cnt_count c r, List.count_cons]
      by_cases e : n = c
      · simp [e]; omega
      · simp [e]
theorem count_codes (x : Str) (c : Nat) : Txt.count x ⟨#[c]⟩ = (((codes x).count c : Nat) : Int) := by rw [count_cnt, cnt_count]; rfl
theorem codes_app (x y : Str) : codes (x ++ y) = codes x ++ codes y := by
  show (x.cps ++ y.cps).toList = _
  rw [Array.toList_append]; rfl
theorem fdiv_pow (d i : Nat) : (((d : Int).fdiv (2 ^ (i : Int).toNat)).fmod 2) = ((d / 2 ^ i % 2 : Nat) : Int) := by
  rw [Int.toNat_natCast, Int.fdiv_eq_ediv_of_nonneg _ (by exact_mod_cast Nat.zero_le _), Int.fmod_eq_emod_of_nonneg _ (by decide)]
  norm_cast
theorem item_par (k : Nat) (h : k < 2) : codes (Txt.item ")(" (k : Int)) = [if k = 1 then 40 else 41] := by
  match k, h with
  | 0, _ => decide
  | 1, _ => decide
theorem row_open {p d i : Nat} {row : Str} (h : codes row = rowPart p d i) (e : 2 * Txt.count row "(" = (i : Int)) : codes (row ++ "(") = rowPart p d (i + 1) := by
  have e' : Txt.count row "(" = _ := count_codes row 40
  rw [h] at e'
  have : 2 * (rowPart p d i).count 40 = i := by omega
  rw [codes_app, h, rowPart, if_pos this]; rfl
theorem row_close {p d i : Nat} {row : Str} (h : codes row = rowPart p d i) (e : 2 * Txt.count row "(" ≠ (i : Int)) (e2 : Txt.count row "(" = (p : Int)) : codes (row ++ ")") = rowPart p d (i + 1) := by
  have e' : Txt.count row "(" = _ := count_codes row 40
  rw [h] at e'
  have h1 : ¬ 2 * (rowPart p d i).count 40 = i := by omega
  have h2 : (rowPart p d i).count 40 = p := by omega
  rw [codes_app, h, rowPart, if_neg h1, if_pos h2]; rfl
theorem row_digit {p d i : Nat} {row : Str} (h : codes row = rowPart p d i) (e : 2 * Txt.count row "(" ≠ (i : Int)) (e2 : Txt.count row "(" ≠ (p : Int)) :
    codes (row ++ Txt.item ")(" (((d : Int).fdiv (2 ^ (i : Int).toNat)).fmod 2)) = rowPart p d (i + 1) := by
  have e' : Txt.count row "(" = _ := count_codes row 40
  rw [h] at e'
  have h1 : ¬ 2 * (rowPart p d i).count 40 = i := by omega
  have h2 : ¬ (rowPart p d i).count 40 = p := by omega
  rw [codes_app, h, rowPart, if_neg h1, if_neg h2, fdiv_pow, item_par _ (Nat.mod_lt _ (by decide))]

set_option maxHeartbeats 4000000 in
theorem row_ext (w : World) (mean : ExcName → Option Value) (mg mb : Str → Option Value) (p d : Nat) (tp td : Tok) :
    Ext w mean mg mb 136 [.int (p : Int) tp, .int (d : Int) td] (fun _ => p ≤ 5 ∧ d < 1024) (fun v _ => ∃ x t, v = .str x t ∧ codes x = rowPart p d (2 * p)) 2 := by
  unfold Ext
  intro dp un gd cn cs ad ccd cl outer A₀ base h₀ L m s Q E B F X T hk hpre hd hu hret
  obtain ⟨hp, hdg⟩ := hpre
  k_dflt (walk_at "mine enter")
  clear hret
  walk_at "mine steps"
  unfold Held
  rw [execs_cons]
  refine wpAny_bind ?_
  walk_at "mine steps"
  unfold Held
  rename IsRange _ _ _ _ _ _ _ _ => hRg
  rename Fr _ _ _ _ => F1
  rename News _ _ _ _ => N1
  refine iter_rangeJ (n := 2 * p) (fun i m nx => nx = [] ∧ ∃ row t, Has m [("pairs", .int (p : Int) tp), ("digits", .int (d : Int) td), ("row", .str row t)] ∧ codes row = rowPart p d i) rfl hRg (small_one (by omega) (by omega) (by omega) (by omega)) (by rw [rangeSize_nat]; omega) F1 N1 ⟨rfl, _, _, by walk_at "mine has", rfl⟩ ?_ ?_
  · rintro i ti m₁ nx h tk own hi hoff ⟨rfl, row, tr, H, hrow⟩ F2 N2
    rw [Int.zero_add] at F2
    replace F2 := (H.push (x := "place") (v := .int (i : Int) ti) (by rfl)).fr F2
    clear F1 N1 H
    dsimp only [kstB] at F2
    simp only [List.nil_append] at N2
    have hlen : row.length = i := by rw [← codes_length, hrow, rowPart_length]
    walk_at "mine steps"
    all_goals
      rename Fr _ _ _ _ => F3
      rename News _ _ _ _ => N3
      exact endN_ [] F3 N3 (fun _ hp => nomatch hp) (fun _ h => h) rfl ⟨rfl, _, _, by walk_at "mine has", by first | exact row_open hrow (by assumption) | exact row_close hrow (by assumption) (by assumption) | exact row_digit hrow (by assumption) (by assumption)⟩
  · rintro m₁ nx h tk ⟨rfl, row, tr, H, hrow⟩ F2 N2
    replace F2 := H.fr F2
    clear F1 N1 H
    dsimp only [kstB] at F2
    dsimp only
    walk_at "mine steps"
    walk_at "mine end"
    exact ⟨row, tr, rfl, hrow⟩
end

end
theorem startK3 : True := by
  w_top off
  exact trivial
section
set_option maxRecDepth 100000
section
section
variable {prog : Program} {w : World} {A : Around} {E : Value → Shared → Prop} {s : Shared} {h₀ : Heap} {L : Addr} {m : Str → Option Value} {env : Env} {news : List (Addr × Obj)}
theorem compL {α : Type} {K : ItemKind α} {elt iter : PySem.Expr} {x : Str} {px : Pos} {scope : Scope} {cl : List (Str × Addr)} {pos : Pos} {Q : Value → Shared → Prop} (as : List α) (d : α → PyData) (ax : Addr) {vs : List Value}
    (F : Fr h₀ L s.heap m) (N : News h₀ L s.heap news) (hl : s.heap.IsList ax vs.toArray) (hi : AreOf K vs as) (hsz : as.length ≤ 1000000)
    (hiter : wpAny (model prog w) A (eval iter env) (fun v s₁ => v = .ref ax ∧ s₁ = s) E s)
    (helt : ∀ C a v s₂ m₂ E', s.heap.objs.size ≤ C → a ∈ as → K.is a v → s₂.heap.Ns (compEnvC scope cl C env).locals m₂ → m₂ x = some v → Fr h₀ L s₂.heap m → News h₀ L s₂.heap news →
        wpAny (model prog w) A (eval elt (compEnvC scope cl C env)) (fun y s₃ => Carried y (d a) ∧ Keeps s₂ s₃) E' s₂)
    (hQ : ∀ D (ys : List Value) k h' tk, Fr h₀ L h' m → News h₀ L h' ((D, listOf ys.toArray k) :: news) → (∀ p ∈ news, p.1 ≠ D) → CarriedAll ys (as.map d) → Q (.ref D) { s with heap := h', toks := tk })
    (hh : A.handled = none) (hclos : closureFor scope env = pure cl) (hcell : ∀ y ∈ scope.names, y.2 ≠ .cell) (hkind : scope.kind = .function)
    (hnames : ∀ y ∈ scope.names, y.2 = .local → scope.names.lookup y.1 = some .local) (hx : scope.names.lookup x = some .local)
    (hs : ∀ x, foldedSetIterable iter env x = pure x) :
    wpAny (model prog w) A (eval (.ListComp elt [⟨.Name x px, iter, [], 0⟩] scope pos) env) Q E s := by
  refine wpAny_ListComp_free (K.lift fun _ => true) (fun v y => ∃ a, K.is a v ∧ Carried y (d a)) hclos hcell hkind hnames hx (wpAny_mono hiter (fun xv s₁ h₁ => ?_) fun _ _ e => e) hs
  obtain ⟨rfl, rfl⟩ := h₁
  have hlt : ax < s₁.heap.objs.size := by obtain ⟨_, e, _⟩ := hl; exact Heap.lt_size e
  have up : ∀ (s₃ : Shared), (∀ b o, b ∉ [s₁.heap.objs.size] → (s₁.heap.push { cls := .type "list_iterator", data := .fields #[.ref ax, .int 0 0] }).get? b = some o → s₃.heap.get? b = some o) → ∀ b o, s₁.heap.get? b = some o → s₃.heap.get? b = some o :=
    fun s₃ hk b o e => hk b o (fun hm => by rcases List.mem_cons.mp hm with rfl | hm; exact Nat.lt_irrefl _ (Heap.lt_size e); cases hm) (Heap.get?_push_of_some _ e)
  refine wpAny_pyIter_list hl ⟨s₁.heap.objs.size, [s₁.heap.objs.size, ax], [s₁.heap.objs.size], vs.toArray.size, _, _, rfl, Walks.list hh _ _ (Nat.ne_of_lt hlt) vs.toArray, (by rw [List.size_toArray, hi.length, sizeLine_eq]; omega), ⟨⟨_, Heap.get?_push_size _ rfl, rfl, rfl⟩, hl.push _⟩, ?_, ⟨?_, ?_⟩, ?_⟩
  · intro b hb
    show b < (s₁.heap.push _).objs.size
    rw [Heap.size_push]
    rcases List.mem_cons.mp hb with rfl | hb
    · exact Nat.lt_succ_self _
    · rcases List.mem_cons.mp hb with rfl | hb
      · exact Nat.lt_succ_of_lt hlt
      · cases hb
  · intro C i v s₃ m₃ E' _ hP hn hm hk _
    obtain ⟨a, hmem, ha⟩ := hi.memD v (by simpa using Array.mem_of_getElem? hP)
    rw [ItemKind.lift_is ha]
    exact wpAny_tests_nil ⟨rfl, ⟨_, _, rfl, fun _ _ e => e⟩⟩
  · intro C i v s₃ m₃ E' hC hP hp hn hm hk _
    obtain ⟨a, hmem, ha⟩ := hi.memD v (by simpa using Array.mem_of_getElem? hP)
    exact wpAny_mono (helt C a v s₃ m₃ E' (Nat.le_of_succ_le (by simpa [Heap.size_push] using hC)) hmem ha hn hm (F.keeps (up s₃ hk)) (N.grown (up s₃ hk))) (fun y s₄ h₄ => ⟨⟨a, ha, h₄.1⟩, h₄.2⟩) fun _ _ e => e
  · intro D h' tk ys vs' hnew hlD hplD hlen hP hF hk
    have e : vs' = vs := by simpa using list_of_places hlen hP
    subst e
    have keep : ∀ b o, s₁.heap.get? b = some o → h'.get? b = some o := up { s₁ with heap := h' } hk
    obtain ⟨k, hpl⟩ := hplD
    have hne : ∀ p ∈ news, p.1 ≠ D := fun p hp e => by rw [← e, Heap.get?_push_of_some _ (N p hp).1] at hnew; cases hnew
    have hD0 : h₀.get? D = none := by
      cases e : h₀.get? D with
      | none => rfl
      | some o' => rw [Heap.get?_push_of_some _ (F.keep _ _ e)] at hnew; cases hnew
    have hDL : D ≠ L := by
      rintro rfl
      obtain ⟨oL, _, _, hL, _⟩ := F.ns
      rw [Heap.get?_push_of_some _ hL] at hnew; cases hnew
    refine hQ D ys.toList k h' tk (F.keeps keep) ?_ hne (by have := hi.paired (fun _ => true) d _ hF; rwa [show as.filter (fun _ => true) = as by simp] at this)
    intro p hp
    rcases List.mem_cons.mp hp with rfl | hp
    · exact ⟨by rw [hpl], hDL, hD0⟩
    · exact (N.grown keep) p hp

theorem compR {elt iter : PySem.Expr} {x : Str} {px : Pos} {scope : Scope} {cl : List (Str × Addr)} {pos : Pos} {Q : Value → Shared → Prop} (_F : Fr h₀ L s.heap m) (_N : News h₀ L s.heap news) (n : Nat) (d : Int → PyData)
    (hiter : wpAny (model prog w) A (eval iter env) (fun xv s₁ => ∃ r t u v h1 tk1 b, xv = .ref r ∧ s₁ = { s with heap := h1, toks := tk1 } ∧ IsRange h1 r 0 b 1 t u v ∧ b = (n : Int) ∧ Fr h₀ L h1 m ∧ News h₀ L h1 news) E s) (hsz : n ≤ 1000000)
    (helt : ∀ C a v s₂ m₂ E', 0 ≤ a → a < (n : Int) → ItemKind.int.is a v → s₂.heap.Ns (compEnvC scope cl C env).locals m₂ → m₂ x = some v → Fr h₀ L s₂.heap m → News h₀ L s₂.heap news →
        wpAny (model prog w) A (eval elt (compEnvC scope cl C env)) (fun y s₃ => Carried y (d a) ∧ Keeps s₂ s₃) E' s₂)
    (hQ : ∀ D (ys : List Value) k h' tk, Fr h₀ L h' m → News h₀ L h' ((D, listOf ys.toArray k) :: news) → (∀ p ∈ news, p.1 ≠ D) → CarriedAll ys ((rangeInts 0 1 n).map d) → Q (.ref D) { s with heap := h', toks := tk })
    (hh : A.handled = none) (hclos : closureFor scope env = pure cl) (hcell : ∀ y ∈ scope.names, y.2 ≠ .cell) (hkind : scope.kind = .function)
    (hnames : ∀ y ∈ scope.names, y.2 = .local → scope.names.lookup y.1 = some .local) (hx : scope.names.lookup x = some .local)
    (hs : ∀ x, foldedSetIterable iter env x = pure x) :
    wpAny (model prog w) A (eval (.ListComp elt [⟨.Name x px, iter, [], 0⟩] scope pos) env) Q E s := by
  refine ListComp_DCr (h₀ := h₀) (L := L) (m := m) (pz := fun _ => true) (d := d) hh hclos hcell hkind hnames hx (wpAny_mono hiter (fun xv s₁ h₁ => ?_) fun _ _ e => e) hs
  obtain ⟨r, t, u, v, h1, tk1, b, rfl, rfl, hR, rfl, F, N⟩ := h₁
  refine ⟨news, r, 0, n, 1, t, u, v, n, rfl, hR, small_one (by omega) (by omega) (by omega) (by omega), by rw [rangeSize_nat]; omega, by rw [sizeLine_eq]; omega, F, N, ?_, ?_, ?_⟩
  · intro C a v s₂ m₂ E' _ _ _ _ _ _
    exact wpAny_tests_nil ⟨rfl, ⟨_, _, rfl, fun _ _ e => e⟩⟩
  · intro C a v s₂ m₂ E' _ hm ha _ hn hv hk
    have ⟨h0, h1⟩ : 0 ≤ a ∧ a < (n : Int) := by
      simp only [rangeInts, List.mem_map, List.mem_range] at hm
      obtain ⟨i, hi, rfl⟩ := hm
      omega
    exact helt C a v s₂ m₂ E' h0 h1 ha hn hv (F.keeps hk) (N.grown hk)
  · intro D ys h' tk F' N' hD0 hlD hnp hc
    have hDL := hnp.ne_locals F'
    obtain ⟨⟨k, hpl⟩, hne⟩ := hnp
    refine hQ D ys k h' tk F' ?_ hne (by rwa [show (rangeInts 0 1 n).filter (fun _ => true) = rangeInts 0 1 n by simp] at hc)
    intro p hp
    rcases List.mem_cons.mp hp with rfl | hp
    · exact ⟨hpl, hDL, hD0⟩
    · exact N' p hp
theorem compRT {elt iter c : PySem.Expr} {x : Str} {px : Pos} {scope : Scope} {cl : List (Str × Addr)} {pos : Pos} {Q : Value → Shared → Prop} (_F : Fr h₀ L s.heap m) (_N : News h₀ L s.heap news) (n : Nat) (pz : Int → Bool) (d : Int → PyData)
    (hiter : wpAny (model prog w) A (eval iter env) (fun xv s₁ => ∃ r t u v h1 tk1 b, xv = .ref r ∧ s₁ = { s with heap := h1, toks := tk1 } ∧ IsRange h1 r 0 b 1 t u v ∧ b = (n : Int) ∧ Fr h₀ L h1 m ∧ News h₀ L h1 news) E s) (hsz : n ≤ 1000000)
    (htest : ∀ C a v s₂ m₂ E', 0 ≤ a → a < (n : Int) → ItemKind.int.is a v → s₂.heap.Ns (compEnvC scope cl C env).locals m₂ → m₂ x = some v → Fr h₀ L s₂.heap m → News h₀ L s₂.heap news →
        wpAny (model prog w) A (isTrue c (compEnvC scope cl C env) (eval c (compEnvC scope cl C env))) (fun b s₃ => b = pz a ∧ Keeps s₂ s₃) E' s₂)
    (helt : ∀ C a v s₂ m₂ E', 0 ≤ a → a < (n : Int) → ItemKind.int.is a v → s₂.heap.Ns (compEnvC scope cl C env).locals m₂ → m₂ x = some v → Fr h₀ L s₂.heap m → News h₀ L s₂.heap news →
        wpAny (model prog w) A (eval elt (compEnvC scope cl C env)) (fun y s₃ => Carried y (d a) ∧ Keeps s₂ s₃) E' s₂)
    (hQ : ∀ D (ys : List Value) k h' tk, Fr h₀ L h' m → News h₀ L h' ((D, listOf ys.toArray k) :: news) → (∀ p ∈ news, p.1 ≠ D) → CarriedAll ys (((rangeInts 0 1 n).filter pz).map d) → Q (.ref D) { s with heap := h', toks := tk })
    (hh : A.handled = none) (hclos : closureFor scope env = pure cl) (hcell : ∀ y ∈ scope.names, y.2 ≠ .cell) (hkind : scope.kind = .function)
    (hnames : ∀ y ∈ scope.names, y.2 = .local → scope.names.lookup y.1 = some .local) (hx : scope.names.lookup x = some .local)
    (hs : ∀ x, foldedSetIterable iter env x = pure x) :
    wpAny (model prog w) A (eval (.ListComp elt [⟨.Name x px, iter, [c], 0⟩] scope pos) env) Q E s := by
  refine ListComp_DCr (h₀ := h₀) (L := L) (m := m) (pz := pz) (d := d) hh hclos hcell hkind hnames hx (wpAny_mono hiter (fun xv s₁ h₁ => ?_) fun _ _ e => e) hs
  obtain ⟨r, t, u, v, h1, tk1, b, rfl, rfl, hR, rfl, F, N⟩ := h₁
  have mem : ∀ a, a ∈ rangeInts 0 1 n → 0 ≤ a ∧ a < (n : Int) := by
    intro a hm
    simp only [rangeInts, List.mem_map, List.mem_range] at hm
    obtain ⟨i, hi, rfl⟩ := hm
    omega
  refine ⟨news, r, 0, n, 1, t, u, v, n, rfl, hR, small_one (by omega) (by omega) (by omega) (by omega), by rw [rangeSize_nat]; omega, by rw [sizeLine_eq]; omega, F, N, ?_, ?_, ?_⟩
  · intro C a v s₂ m₂ E' _ hm ha hn hv hk
    exact wpAny_tests_one (htest C a v s₂ m₂ E' (mem a hm).1 (mem a hm).2 ha hn hv (F.keeps hk) (N.grown hk))
  · intro C a v s₂ m₂ E' _ hm ha _ hn hv hk
    exact helt C a v s₂ m₂ E' (mem a hm).1 (mem a hm).2 ha hn hv (F.keeps hk) (N.grown hk)
  · intro D ys h' tk F' N' hD0 hlD hnp hc
    have hDL := hnp.ne_locals F'
    obtain ⟨⟨k, hpl⟩, hne⟩ := hnp
    refine hQ D ys k h' tk F' ?_ hne hc
    intro p hp
    rcases List.mem_cons.mp hp with rfl | hp
    · exact ⟨hpl, hDL, hD0⟩
    · exact N' p hp
end
end

end
local macro_rules | `(tactic| walk_at "mine enterC") => `(tactic| ((refine' code_defC ?k1 ?k2 ?k3 ?k4 ?k5 ?kA ?kF ?kK ?k6 ?k7 ?k8 ?k9 ?kB ?kD ?_ ?c2 ?c3 ?c4; (case kA => exact rfl); (case kF => exact rfl); (case kK => assumption); (case k1 => k_asm); (case k2 => k_asm); (case k3 => k_asm); (case k4 => k_asm); (case k5 => k_asm); (case k6 => k_is); (case k7 => k_is); (case k8 => ktr_room); (case k9 => exact BindsTo.of_eq rfl); (case kB => exact rfl); (case kD => decide +kernel); (case c2 => exact rfl); (case c3 => exact rfl); (case c4 => exact rfl); k_whole; intro g' L' h' tk' cells' FG' F' N' Y' B' X' T' l1; (try k_lt l1); k_cells Y'; (try simp only [List.cons_append, List.nil_append] at N'); (try dsimp only); (try k_fold))))
local macro_rules | `(tactic| walk_at "mine pad") => `(tactic| skip)
local macro_rules | `(tactic| walk_at "mine pad") => `(tactic| skip)
local macro_rules | `(tactic| walk_at "mine pad") => `(tactic| skip)
local macro_rules | `(tactic| walk_at "mine pad") => `(tactic| skip)
theorem startN1 : True := by
  w_top off
  exact trivial
section
set_option maxRecDepth 100000
section
theorem fillN1 : PySem.Challenge.rw_sc0089_01 = PySem.Challenge.rw_sc0089_01 ∧ Mine.hd.heap_39 = Mine.hd.heap_39 := by
  k_fill
  exact ⟨rfl, rfl⟩

local macro_rules | `(tactic| walk_at "call builtin:str.join") => `(tactic| walk_at "mine r1")

theorem codes_joinS : ∀ ts : List Str, codes (Str.join "" ts) = (ts.map codes).flatten
  | [] => rfl
  | [x] => by rw [join_one]; simp
  | x :: y :: r => by
      rw [join_cons_cons, codes_app, codes_app, codes_joinS (y :: r), show codes ("" : Str) = [] by decide]
      simp
theorem codes_joinE (ts : List Str) : codes (Txt.join "" ts) = (ts.map codes).flatten := by
  rw [← codes_joinS, show Txt.join "" ts = Str.join "" ts from eq_of_beq (join_plain_closes "" ts)]
theorem pull_if (l : List Str) : (l.map fun a => if (a == ("(" : Str)) = true then PyData.str "a" else PyData.str "A") = (l.map fun a => if (a == ("(" : Str)) = true then ("a" : Str) else "A").map PyData.str := by
  rw [List.map_map]
  refine List.map_congr_left fun a _ => ?_
  show _ = PyData.str (if _ then _ else _)
  split <;> rfl
theorem signs_map (x : Str) (f : Str → Str) (g : Nat → Nat) (h : ∀ c, codes (f ⟨#[c]⟩) = [g c]) : ((signs x).map f).map codes = (codes x).map fun c => [g c] := by
  unfold signs
  rw [List.map_map, List.map_map]
  exact List.map_congr_left fun c _ => h c
theorem flatten_one {α : Type} (l : List Nat) (g : Nat → α) : (l.map fun c => [g c]).flatten = l.map g := by
  induction l with
  | nil => rfl
  | cons a r ih => simp [ih]

set_option maxHeartbeats 4000000 in
theorem let_ext (w : World) (mean : ExcName → Option Value) (mg mb : Str → Option Value) (x : Str) (tx : Tok) :
    Ext w mean mg mb 146 [.str x tx] (fun _ => x.length ≤ 100) (fun v _ => ∃ y t, v = .str y t ∧ codes y = (codes x).map fun c => if c = 40 then 97 else 65) 2 := by
  unfold Ext
  intro dp un gd cn cs ad ccd cl outer A₀ base h₀ L m s Q E B F X T hk hpre hd hu hret
  k_dflt (walk_at "mine enter")
  clear hret
  walk_at "mine steps"
  unfold Held
  rename CarriedAll _ _ => hc
  rename Fr _ _ _ _ => F9
  rename Heap.IsList _ _ _ => hl
  rw [pull_if, List.filter_eq_self.mpr (by intro a _; rfl)] at hc
  have hlen : ((signs x).map fun a => if (a == ("(" : Str)) = true then ("a" : Str) else "A").length = x.length := by rw [List.length_map, signs_length]
  refine join_list hl (StrsAre.of_carried hc) (by
    rw [sumLen_of_ones _ (by intro a ha; obtain ⟨b, _, rfl⟩ := List.mem_map.mp ha; split <;> rfl), hlen]
    rw [show ("" : Str).length = 0 by decide]
    omega) ?_
  intro t' k
  try dsimp only
  walk_at "mine steps"
  walk_at "mine end"
  refine ⟨_, _, rfl, ?_⟩
  rw [codes_joinE, signs_map x _ (fun c => if c = 40 then 97 else 65), flatten_one]
  intro c
  by_cases e : c = 40
  · subst e; rfl
  · have : ((⟨#[c]⟩ : Str) == ("(" : Str)) = false := by
      rw [beq_eq_false_iff_ne]
      intro h
      exact e (by have := congrArg codes h; rw [show codes ("(" : Str) = [40] by decide] at this; simpa [codes] using this)
    rw [this]
    simp [e]; rfl

local macro_rules | `(tactic| walk_at "eval ListComp") => `(tactic| walk_at "mine r1")
theorem ints_carried : ∀ {vs : List Value} {ns : List Int}, CarriedAll vs (ns.map PyData.int) → IntsAre vs ns
  | [], [], _ => .nil
  | _ :: _, [], h => by cases h
  | [], _ :: _, h => by cases h
  | v :: vs, y :: ys, h => by
    cases h with
    | cons hc hr =>
      cases hc with
      | int x t => exact .cons _ _ (ints_carried hr)
theorem lt_mem {l : List (Addr × Obj)} {c : Addr} {p : Addr × Obj} (h : ∀ p ∈ l, p.1 < c) (hp : p ∈ l) : @LT.lt Nat _ p.1 c := h p hp
local macro_rules | `(tactic| k_all) => `(tactic| (intro p hp; (have hlt8 := lt_mem (by with_reducible assumption) hp); k_ne))
local macro_rules | `(tactic| walk_at "call type:tuple") => `(tactic| (k_here; (with_reducible show wpAny _ _ (call (Value.type _) [Value.ref _]) _ _ _); k_dflt (refine' tup_of ?k1 ?k2 ?k3 ?k4 ?_; (case k1 => k_asm); (case k2 => k_asm); (case k3 => k_mem); (case k4 => omega); k_whole); intro D' h' F' N' l1; (try k_lt l1); (try k_sweep)))
local macro_rules | `(tactic| walk_at "eval Name") => `(tactic| ((with_reducible show wpAny _ _ (eval (Expr.Name _ _) (compEnvC _ _ _ _)) _ _ _); refine ldVarK (by with_reducible assumption) (by with_reducible assumption) ?_ rfl rfl (by decide)))
/-- plain: the greatest length, and the counts -/
def maxLen : List Str → Nat
  | [] => 0
  | x :: r => max x.length (maxLen r)
def normOf (xs : List Str) : List Int := (List.range (maxLen xs + 1)).map fun (i : Nat) => (((xs.map fun x => (x.length : Int)).count ((i : Nat) : Int) : Nat) : Int)
theorem maxLen_ge : ∀ {xs : List Str} {x : Str}, x ∈ xs → x.length ≤ maxLen xs
  | y :: r, x, h => by
    rcases List.mem_cons.mp h with rfl | h
    · exact Nat.le_max_left _ _
    · exact Nat.le_trans (maxLen_ge h) (Nat.le_max_right _ _)
theorem maxLen_le {B : Nat} : ∀ {xs : List Str}, (∀ x ∈ xs, x.length ≤ B) → maxLen xs ≤ B
  | [], _ => Nat.zero_le _
  | y :: r, h => Nat.max_le.mpr ⟨h y (.head _), maxLen_le fun x hx => h x (.tail _ hx)⟩
theorem maxLen_eq {xs : List Str} {M : Int} (h : M ∈ xs.map fun x => (x.length : Int)) (hb : ∀ a ∈ xs.map fun x => (x.length : Int), a ≤ M) : M = (maxLen xs : Int) := by
  obtain ⟨x, hx, rfl⟩ := List.mem_map.mp h
  have h1 := maxLen_ge hx
  have h2 : maxLen xs ≤ x.length := maxLen_le fun y hy => by
    have := hb _ (List.mem_map.mpr ⟨y, hy, rfl⟩)
    omega
  omega
theorem normOf_eq (xs : List Str) : normOf xs = (rangeInts 0 1 (maxLen xs + 1)).map fun a => (((xs.map fun x => (x.length : Int)).count a : Nat) : Int) := by
  unfold normOf rangeInts
  rw [List.map_map]
  refine List.map_congr_left fun i _ => ?_
  show _ = (((xs.map fun x => (x.length : Int)).count (0 + ((i : Nat) : Int) * 1) : Nat) : Int)
  rw [Int.mul_one, Int.zero_add]

set_option maxHeartbeats 4000000 in
theorem norm_call (w : World) (mean : ExcName → Option Value) (mg mb : Str → Option Value) (vs : List Value) (xs : List Str) (l : Addr) (ol : Obj)
    (dp un : Nat) (gd : Option (List Code)) (cn : Str) (cs : Scope) (a : Addr) (ccd : Value) (cl : List (Str × Addr)) (outer : List Env) (A₀ : Around) (base h₀ : Heap) (L : Addr) (m : Str → Option Value) (led : List (Addr × Obj)) (s : Shared) (Q E : Value → Shared → Prop)
    (B : Below A₀ base outer h₀) (F : Fr h₀ L s.heap m) (X : (Mine.hd.heap_39 w.params).In h₀) (N : News h₀ L s.heap led) (T : Top Mine.hd.view_39 [Str.ofString "Whitespace"] mean mg mb h₀) (hk : cs.kind = .function) (hd : dp + 4 < recursionLimit) (hu : un + 8 * 4 < cLine)
    (kk : Nat) (hm : (l, ol) ∈ led) (hoc : ol.cls = .type "list") (hod : ol.data = .seq vs.toArray kk) (hs : StrsAre vs xs) (hn : xs.length ≤ 10) (hn0 : 0 < xs.length) (hx : ∀ x ∈ xs, x.length ≤ 10)
    (ret : ∀ h' tk' TN TC its t', Fr h₀ L h' m → News h₀ L h' ((TN, tupObj #[.ref TC, .int 0 t']) :: (TC, tupObj its) :: led) → IntsAre its.toList (normOf xs) → Q (.ref TN) { s with heap := h', toks := tk' }) :
    wpAny (model PySem.Challenge.pw_sc0089_01 w) (ktrTop dp un gd cn cs L a ccd cl outer) (call (.ref 141) [.ref l]) Q E s := by
  refine wpAny_call ?_
  k_dflt (walk_at "mine enterC")
  walk_at "mine steps"
  unfold Held
  rename Fr _ _ _ (bindL _ _ _) => F1
  rename News _ _ _ (_ :: led) => N1
  rename (Mine.hd.heap_39 w.params).In _ => X1
  rename Top _ _ _ _ _ _ => T1
  refine compL (K := .str) xs (fun x => .int (x.length : Int)) l F1 N1 ⟨ol, N1.get (List.mem_cons_of_mem _ hm), hoc, kk, hod⟩ hs.areOf (by omega) ?_ ?_ ?_ rfl rfl (by decide) rfl (by decide) rfl (fun _ => rfl)
  · walk_at "mine steps"
  · rintro C a v s₂ m₂ E' hC ha ⟨t, rfl⟩ hns hv F2 N2
    walk_at "mine steps"
    · exact .int _ _
    · exact ⟨_, _, rfl, fun _ _ e => e⟩
  · intro D ys k h2 tk2 F2 N2 hne hc
    clear F1 N1
    have hd1 := neN (hne _ (.head _))
    dsimp only at hd1
    walk_at "mine steps"
    unfold Held
    rename Fr _ _ _ (bindL _ _ _) => F3
    rename News _ _ _ (_ :: _ :: led) => N3
    have hI : IntsAre ys (xs.map fun x => (x.length : Int)) := ints_carried (by rw [List.map_map]; exact hc)
    have hlD := News.isList N3 (.head _)
    have hmx := maxLen_le hx
    refine compR F3 N3 (maxLen xs + 1) (fun a => .int (((xs.map fun x => (x.length : Int)).count a : Nat) : Int)) ?_ (by omega) ?_ ?_ rfl (by with_unfolding_all rfl) (by decide) rfl (by decide) rfl (fun _ => rfl)
    · walk_at "mine steps"
      · rename _ ∈ List.map _ xs => hM
        have := maxLen_eq hM (by assumption)
        omega
      · assumption
      · assumption
    · rintro C a v s₂ m₂ E' h0 h1 ⟨t, rfl⟩ hns hv F4 N4
      walk_at "mine steps"
      · exact .int _ _
      · exact ⟨_, _, rfl, fun _ _ e => e⟩
    · intro D2 ys2 k2 h4 tk4 F4 N4 hne2 hc2
      have hI2 : IntsAre ys2 (normOf xs) := by rw [normOf_eq]; exact ints_carried (by rw [List.map_map]; exact hc2)
      have hsz2 : ys2.toArray.size ≤ 11 := by
        rw [List.size_toArray, hI2.length, normOf, List.length_map, List.length_range]
        omega
      walk_at "mine steps"
      rename Fr h₀ L _ m => kF
      rename News h₀ L _ (_ :: _ :: _ :: _ :: _ :: led) => kN
      exact ret _ _ _ _ ys2.toArray _ kF (fun p hp => kN p (by
        rcases List.mem_cons.mp hp with rfl | hp
        · exact .head _
        · rcases List.mem_cons.mp hp with rfl | hp
          · exact .tail _ (.head _)
          · exact .tail _ (.tail _ (.tail _ (.tail _ (.tail _ hp)))))) hI2
end

end
local macro_rules | `(tactic| walk_at "mine pad") => `(tactic| skip)
local macro_rules | `(tactic| walk_at "mine pad") => `(tactic| skip)
local macro_rules | `(tactic| walk_at "mine pad") => `(tactic| skip)
theorem startL1 : True := by
  w_top off
  exact trivial
section
set_option maxRecDepth 100000
section
theorem fillL1 : PySem.Challenge.rw_sc0089_01 = PySem.Challenge.rw_sc0089_01 ∧ Mine.hd.heap_39 = Mine.hd.heap_39 := by
  k_fill
  exact ⟨rfl, rfl⟩
abbrev lawCells (L : Addr) : List (Str × Addr) := [(Str.ofString "kept", L + 5), (Str.ofString "texts", L + 4), (Str.ofString "height", L + 3), (Str.ofString "place", L + 2), (Str.ofString "row", L + 1)]
abbrev lawEnv (L : Addr) : Env := envX (Str.ofString "law") (scopeAt 18) L 151 (.ref 150) (lawCells L)
abbrev lawA (dp un : Nat) (gd : Option (List Code)) (L : Addr) : Around := ktrTop dp un gd (Str.ofString "law") (scopeAt 18) L 151 (.ref 150) (lawCells L) []
theorem lawEnv_eq (L : Addr) : envOfC (Str.ofString "law") (scopeAt 18) L 151 (.ref 150) = lawEnv L := by rfl
abbrev cells5 (L : Addr) (o1 o2 o3 o4 o5 : Obj) : List (Addr × Obj) := [(L + 5, o5), (L + 4, o4), (L + 3, o3), (L + 2, o2), (L + 1, o1)]
local macro_rules | `(tactic| walk_at "call ref") => `(tactic| walk_at "mine r1")
local macro_rules | `(tactic| walk_at "execs cons") => `(tactic| walk_at "mine r1")

local macro_rules | `(tactic| walk_at "last subscriptTail") => `(tactic| walk_at "mine r1")

theorem fmod_nat (a : Int) (k : Nat) (h : 0 < k) : ∃ r : Nat, r < k ∧ a.fmod (k : Int) = (r : Int) := by
  have h1 := Int.emod_nonneg a (show (k : Int) ≠ 0 by omega)
  have h2 := Int.emod_lt_of_pos a (show (0 : Int) < k by omega)
  refine ⟨(a % (k : Int)).toNat, by omega, ?_⟩
  rw [Int.fmod_eq_emod_of_nonneg _ (by omega)]
  omega

section
variable {w : World} {mean : ExcName → Option Value} {mg mb : Str → Option Value} {dp un : Nat} {gd : Option (List Code)} {A₀ : Around} {base g : Heap} {L : Addr} {m : Str → Option Value} {s : Shared} {Q : Flow → Shared → Prop} {E : Value → Shared → Prop}
  (B : Below A₀ base [] g) (X : (Mine.hd.heap_39 w.params).In g) (T : Top Mine.hd.view_39 [Str.ofString "Whitespace"] mean mg mb g) (hd : dp + 20 < recursionLimit) (hu : un + 8 * 20 < cLine)
include B X T hd hu

set_option maxHeartbeats 4000000 in
theorem seg0 {o1 o2 o3 o4 o5 : Obj} {l : Addr} {vs : List Value} {ns : List Int} (F : Fr g L s.heap m) (N : News g L s.heap (cells5 L o1 o2 o3 o4 o5)) (H : Has m [("script", .ref l)])
    (hl : g.IsList l vs.toArray) (hI : IntsAre vs ns) (hlen : ns.length ≤ 10000000)
    (next : ∀ D h' tk its k ks, Fr g L h' (kstB m [("numbers", .ref D), ("script", .ref l)]) → News g L h' ((D, listOf its k) :: cells5 L o1 o2 o3 o4 o5) → IntsAre its.toList ks → ks.length = 3 →
      wpAny (model PySem.Challenge.pw_sc0089_01 w) (lawA dp un gd L) (execs ((bodyAt 18).drop 1) (lawEnv L)) Q E { s with heap := h', toks := tk }) :
    wpAny (model PySem.Challenge.pw_sc0089_01 w) (lawA dp un gd L) (execs (bodyAt 18) (lawEnv L)) Q E s := by
  replace F := H.fr F
  dsimp only [kstB] at F
  conv in (bodyAt 18) => whnf
  rw [execs_cons]
  refine wpAny_bind ?_
  k_steps
  unfold Held
  refine kba_turn (value' := PySem.Expr.Name (PySem.Str.ofString "_") ⟨0, 0, 0, 0⟩) (fun _ => rfl) ?_
  (refine' kmk_slice_ints ?hF ?hN ?hl ?hp ?hq ?hi ?hm ?hc ?_ ?hs ?ht ?hz)
  (case hF => k_asm)
  (case hN => k_asm)
  (case hl => kmk_list)
  (case hp => kmk_part)
  (case hq => kmk_part)
  (case hi => exact .cons _ _ (.cons _ _ (.cons _ _ .nil)))
  (case hm => exact kmk_from (.cons _ _ (.cons _ _ (.cons _ _ .nil))) (by omega))
  (case hc => exact rfl)
  (case hs => with_unfolding_all rfl)
  (case ht => kmk_pure)
  (case hz => kmk_size)
  intro D3 ws3 h3 F3 N3 l3 hI3 hC3 hL3
  k_lt l3
  k_steps
  unfold Held
  rename Fr _ _ _ _ => F9
  rename News _ _ _ _ => N9
  rename IntsAre _ (_ ++ _) => hI9
  refine next _ _ _ _ _ _ F9 (fun p hp => N9 p (by
    rcases List.mem_cons.mp hp with rfl | hp
    · exact .head _
    · exact .tail _ (.tail _ (.tail _ (.tail _ hp))))) hI9 ?_
  rw [List.length_append, List.length_take, List.length_drop, Int.toNat_natCast]
  simp only [List.length_cons, List.length_nil]
  omega
end
end

end
local macro_rules | `(tactic| walk_at "mine pad") => `(tactic| skip)
local macro_rules | `(tactic| walk_at "mine pad") => `(tactic| skip)
theorem startL2 : True := by
  w_top off
  exact trivial
section
set_option maxRecDepth 100000
section
theorem fillL2 : PySem.Challenge.rw_sc0089_01 = PySem.Challenge.rw_sc0089_01 ∧ Mine.hd.heap_39 = Mine.hd.heap_39 := by
  k_fill
  exact ⟨rfl, rfl⟩
local macro_rules | `(tactic| walk_at "call ref") => `(tactic| walk_at "mine r1")
local macro_rules | `(tactic| walk_at "execs cons") => `(tactic| walk_at "mine r1")

section
variable {w : World} {mean : ExcName → Option Value} {mg mb : Str → Option Value} {dp un : Nat} {gd : Option (List Code)} {A₀ : Around} {base g : Heap} {L : Addr} {m : Str → Option Value} {s : Shared} {Q : Flow → Shared → Prop} {E : Value → Shared → Prop}
  (B : Below A₀ base [] g) (X : (Mine.hd.heap_39 w.params).In g) (T : Top Mine.hd.view_39 [Str.ofString "Whitespace"] mean mg mb g) (hd : dp + 20 < recursionLimit) (hu : un + 8 * 20 < cLine)
include B X T hd hu

set_option maxHeartbeats 4000000 in
theorem seg1 {D : Addr} {led : List (Addr × Obj)} {its : Array Value} {k : Nat} {ks : List Int} {l : Addr} (F : Fr g L s.heap m) (N : News g L s.heap ((D, listOf its k) :: led)) (H : Has m [("numbers", .ref D), ("script", .ref l)]) (hI : IntsAre its.toList ks) (hlen : ks.length = 3)
    (next : ∀ h' tk m' (x mm ww le : Nat) t1 t2 t3 t4 t5, 0 < tk → x < 3072 → mm < 3 + x / 1024 + 2 → ww < 3 → le < 2 * (3 + x / 1024) + 4 * ww → Fr g L h' m' → Has m' [("less", .int (le : Int) t1), ("w", .int (ww : Int) t2), ("m", .int ((1 + mm : Nat) : Int) t3), ("n", .int ((3 + x / 1024 : Nat) : Int) t4), ("x", .int (x : Int) t5)] → News g L h' led →
      wpAny (model PySem.Challenge.pw_sc0089_01 w) (lawA dp un gd L) (execs ((bodyAt 18).drop 6) (lawEnv L)) Q E { s with heap := h', toks := tk }) :
    wpAny (model PySem.Challenge.pw_sc0089_01 w) (lawA dp un gd L) (execs ((bodyAt 18).drop 1) (lawEnv L)) Q E s := by
  replace F := H.fr F
  dsimp only [kstB] at F
  conv in (List.drop 1 _) => whnf
  rw [execs_cons]
  refine wpAny_bind ?_
  walk_at "mine steps"
  unfold Held
  try dsimp only
  rename Fr _ _ _ _ => F1
  rename News _ _ _ _ => N1
  obtain ⟨x, hx, ex⟩ : ∃ x : Nat, x < 3072 ∧ (ks.getD (Int.toNat 0) 0).fmod 3072 = (x : Int) := fmod_nat _ 3072 (by decide)
  rw [ex] at F1
  have en : (3 : Int) + (x : Int).fdiv 1024 = ((3 + x / 1024 : Nat) : Int) := by rw [Int.fdiv_eq_ediv_of_nonneg _ (by omega)]; omega
  rw [execs_cons]
  refine wpAny_bind ?_
  walk_at "mine steps"
  unfold Held
  try dsimp only
  rename Fr _ _ _ _ => F2
  rename News _ _ _ _ => N2
  rw [en] at F2
  obtain ⟨mm, hm, em⟩ : ∃ x1 : Nat, x1 < 3 + x / 1024 + 2 ∧ (ks.getD (Int.toNat 1) 0).fmod (((3 + x / 1024 : Nat) : Int) + 2) = (x1 : Int) := fmod_nat _ (3 + x / 1024 + 2) (by omega)
  have em1 : (1 : Int) + (mm : Int) = ((1 + mm : Nat) : Int) := by omega
  rw [execs_cons]
  refine wpAny_bind ?_
  walk_at "mine steps"
  unfold Held
  try dsimp only
  rename Fr _ _ _ _ => F3
  rename News _ _ _ _ => N3
  rw [em, em1] at F3
  obtain ⟨ww, hw, ew⟩ : ∃ x1 : Nat, x1 < 3 ∧ (ks.getD (Int.toNat 2) 0).fmod 3 = (x1 : Int) := fmod_nat _ 3 (by decide)
  rw [execs_cons]
  refine wpAny_bind ?_
  walk_at "mine steps"
  unfold Held
  try dsimp only
  rename Fr _ _ _ _ => F4
  rename News _ _ _ _ => N4
  rw [ew] at F4
  obtain ⟨le, hl, el⟩ : ∃ x1 : Nat, x1 < 2 * (3 + x / 1024) + 4 * ww ∧ ((ks.getD (Int.toNat 0) 0).fdiv 3072).fmod (2 * ((3 + x / 1024 : Nat) : Int) + 4 * (ww : Int)) = (x1 : Int) := fmod_nat _ (2 * (3 + x / 1024) + 4 * ww) (by omega)
  rw [execs_cons]
  refine wpAny_bind ?_
  walk_at "mine steps"
  unfold Held
  try dsimp only
  rename Fr _ _ _ _ => F5
  rename News _ _ _ _ => N5
  rw [el] at F5
  refine next _ _ _ x mm ww le _ _ _ _ _ (Nat.succ_pos _) hx hm hw hl F5 (by walk_at "mine has") (fun p hp => N5 p (.tail _ hp))
end
end

end
local macro_rules | `(tactic| walk_at "mine pad") => `(tactic| skip)
local macro_rules | `(tactic| walk_at "mine pad") => `(tactic| skip)
local macro_rules | `(tactic| walk_at "mine pad") => `(tactic| skip)
theorem startL3 : True := by
  w_top off
  exact trivial
section
set_option maxRecDepth 100000
section
theorem fillL3 : PySem.Challenge.rw_sc0089_01 = PySem.Challenge.rw_sc0089_01 ∧ Mine.hd.heap_39 = Mine.hd.heap_39 := by
  k_fill
  exact ⟨rfl, rfl⟩
local macro_rules | `(tactic| walk_at "call ref") => `(tactic| walk_at "mine r1")
local macro_rules | `(tactic| walk_at "execs cons") => `(tactic| walk_at "mine r1")

theorem keepToks {α : Type} {M : Model} {A : Around} {t : Sem α} {Q : α → Shared → Prop} {E : Value → Shared → Prop} {s : Shared} (n : Nat) (hn : n ≤ s.toks) (h : wpAny M A t (fun a s' => n ≤ s'.toks → Q a s') E s) : wpAny M A t Q E s :=
  fun Γ p hΓ => Sem.wp_mono _ Γ _ (fun _ _ _ z => z.2 z.1) (fun _ _ _ z => z.2) p s (Sem.wp_toks M Γ n t _ _ p s hn (h Γ p hΓ))

theorem map_free (a b : Nat) : ∀ l : List Nat, a ∉ l → (l.map fun c => if c = a then b else c) = l
  | [], _ => rfl
  | k :: r, h => by
    rw [List.map_cons, map_free a b r fun m => h (List.mem_cons_of_mem _ m), if_neg (show ¬ k = a from fun e => h (e ▸ List.mem_cons_self ..))]
theorem map_join (a b : Nat) : ∀ parts : List Str, (∀ p ∈ parts, a ∉ p.cps.toList) → ((Str.join ⟨#[a]⟩ parts).cps.toList.map fun c => if c = a then b else c) = (Str.join ⟨#[b]⟩ parts).cps.toList
  | [], _ => rfl
  | [p], h => map_free a b _ (h p (List.mem_singleton.mpr rfl))
  | p :: q :: r, h => by
    have ih := map_join a b (q :: r) fun x hx => h x (List.mem_cons_of_mem _ hx)
    show ((p ++ ⟨#[a]⟩ ++ Str.join ⟨#[a]⟩ (q :: r)).cps.toList.map fun c => if c = a then b else c) = (p ++ ⟨#[b]⟩ ++ Str.join ⟨#[b]⟩ (q :: r)).cps.toList
    simp only [Str.cps_append, Array.toList_append, List.map_append]
    rw [ih, map_free a b _ (h p (List.mem_cons_self ..))]
    simp
theorem codes_replace (x : Str) (a b : Nat) : codes (Txt.replace x ⟨#[a]⟩ ⟨#[b]⟩) = (codes x).map fun c => if c = a then b else c := by
  unfold codes
  rw [StrLaws.replace_one, ← map_join a b _ (StrLaws.split_free x a), StrLaws.join_split]
/-- plain: a list cut at a sign -/
def splitC (c : Nat) : List Nat → List (List Nat)
  | [] => [[]]
  | k :: r => if k = c then [] :: splitC c r else match splitC c r with
    | [] => [[k]]
    | p :: ps => (k :: p) :: ps
theorem splitC_free (c : Nat) : ∀ l : List Nat, c ∉ l → splitC c l = [l]
  | [], _ => rfl
  | k :: r, h => by
    rw [splitC, if_neg (show ¬ k = c from fun e => h (e ▸ List.mem_cons_self ..)), splitC_free c r fun m => h (List.mem_cons_of_mem _ m)]
theorem splitC_app (c : Nat) (r : List Nat) : ∀ l : List Nat, c ∉ l → splitC c (l ++ c :: r) = l :: splitC c r
  | [], _ => by rw [List.nil_append, splitC, if_pos rfl]
  | k :: t, h => by
    rw [List.cons_append, splitC, if_neg (show ¬ k = c from fun e => h (e ▸ List.mem_cons_self ..)), splitC_app c r t fun m => h (List.mem_cons_of_mem _ m)]
theorem splitC_join (c : Nat) : ∀ parts : List Str, parts ≠ [] → (∀ p ∈ parts, c ∉ p.cps.toList) → splitC c (codes (Str.join ⟨#[c]⟩ parts)) = parts.map codes
  | [], h, _ => absurd rfl h
  | [p], _, h => splitC_free c _ (h p (List.mem_singleton.mpr rfl))
  | p :: q :: r, _, h => by
    have ih := splitC_join c (q :: r) (by simp) fun x hx => h x (List.mem_cons_of_mem _ hx)
    rw [join_cons_cons, codes_app, codes_app, show codes ⟨#[c]⟩ = [c] from rfl, List.append_assoc, List.singleton_append, splitC_app c _ (codes p) (h p (List.mem_cons_self ..)), ih]
    rfl
theorem replaceK {prog : Program} {w : World} {A : Around} {E : Value → Shared → Prop} {s : Shared} {x y z : Str} {t u v : Nat} {Q : Value → Shared → Prop} (a b : Nat) (h0 : 1 ≤ s.toks) (hu : 1 ≤ u) (huv : u < v) (hyz : (y == z) = false) (hx : x.length ≤ 1000) (hy : y = ⟨#[a]⟩) (hz : z = ⟨#[b]⟩)
    (hq : ∀ (x' : Str) (t' : Tok) (k : Nat), 1 ≤ k → codes x' = ((codes x).map fun c => if c = a then b else c) → x'.length = x.length → Q (.str x' t') { s with toks := k }) : wpAny (model prog w) A (call (.builtin "str.replace") [.str x t, .str y u, .str z v]) Q E s := by
  subst hy
  subst hz
  refine keepToks 1 h0 (SC.replaceW (Nat.ne_of_gt hu) (Nat.ne_of_gt (Nat.lt_trans hu huv)) (Nat.ne_of_lt huv) hyz (by omega) (by show 1 ≤ 14; decide) fun t' k hk => hq _ t' k hk (codes_replace x a b) ?_)
  rw [← codes_length, codes_replace, List.length_map, codes_length]

def leadT (r : List Nat) : List Nat := ((r.map fun c => if c = 40 then 32 else c).map fun c => if c = 41 then 9 else c) ++ [120, 32, 9]
def mirT (r : List Nat) : List Nat := ((r.reverse.map fun c => if c = 41 then 32 else c).map fun c => if c = 40 then 9 else c) ++ [120, 32, 9]
theorem mem_swap {a b c d : Addr × Obj} {l₁ l₂ : List (Addr × Obj)} : ∀ p ∈ l₁ ++ (a :: b :: c :: d :: l₂), p ∈ a :: b :: c :: d :: (l₁ ++ l₂) := fun p hp => by
  simp only [List.mem_append, List.mem_cons] at hp ⊢
  rcases hp with h | h | h | h | h | h <;> simp [h]

section
variable {w : World} {mean : ExcName → Option Value} {mg mb : Str → Option Value} {dp un : Nat} {gd : Option (List Code)} {A₀ : Around} {base g : Heap} {L : Addr} {m : Str → Option Value} {s : Shared} {Q : Flow → Shared → Prop} {E : Value → Shared → Prop}
  (B : Below A₀ base [] g) (X : (Mine.hd.heap_39 w.params).In g) (T : Top Mine.hd.view_39 [Str.ofString "Whitespace"] mean mg mb g) (hd : dp + 20 < recursionLimit) (hu : un + 8 * 20 < cLine)
include B X T hd hu

set_option maxHeartbeats 4000000 in
theorem seg2 {o1 o2 o3 o4 o5 : Obj} {v1 : Option Value} {x mm ww le : Nat} {t1 t2 t3 t4 t5 : Tok} (F : Fr g L s.heap m) (N : News g L s.heap (cells5 L o1 o2 o3 o4 o5)) (d1 : o1.data = .cell v1) (hx : x < 3072) (h0 : 0 < s.toks)
    (H : Has m [("less", .int (le : Int) t1), ("w", .int (ww : Int) t2), ("m", .int ((1 + mm : Nat) : Int) t3), ("n", .int ((3 + x / 1024 : Nat) : Int) t4), ("x", .int (x : Int) t5)])
    (next : ∀ h' tk o1' r t, 0 < tk → codes r = rowPart (3 + x / 1024) (x % 1024) (2 * (3 + x / 1024)) → o1'.data = .cell (some (.str r t)) → Fr g L h' m → News g L h' (cells5 L o1' o2 o3 o4 o5) →
      wpAny (model PySem.Challenge.pw_sc0089_01 w) (lawA dp un gd L) (execs ((bodyAt 18).drop 7) (lawEnv L)) Q E { s with heap := h', toks := tk }) :
    wpAny (model PySem.Challenge.pw_sc0089_01 w) (lawA dp un gd L) (execs ((bodyAt 18).drop 6) (lawEnv L)) Q E s := by
  have F0 := H.fr F
  dsimp only [kstB] at F0
  dsimp only [cells5] at N
  conv in (List.drop 6 _) => whnf
  rw [execs_cons]
  refine wpAny_bind (keepToks 1 h0 ?_)
  walk_at "mine steps"
  unfold Held
  have e1 : (x : Int).fmod 1024 = ((x % 1024 : Nat) : Int) := by rw [Int.fmod_eq_emod_of_nonneg _ (by decide)]; omega
  rw [e1]
  refine ext_use (row_ext w mean mg mb (3 + x / 1024) (x % 1024) _ _) B F N X T rfl ⟨by omega, by omega⟩ (by omega) (by omega) ?_
  rintro v h' tk' F1 N1 st ⟨r, t, rfl, hr⟩
  walk_at "mine steps"
  unfold Held
  rename 1 ≤ _ => hT
  try dsimp only
  exact next _ _ _ r t hT hr (by assumption) (by assumption) (by assumption)

local macro_rules | `(tactic| walk_at "call builtin:str.replace") => `(tactic| (refine replaceK _ _ (by first | omega | (dsimp only; omega)) (by omega) (by omega) (by decide) (by omega) rfl rfl ?_; intro x7 t7 k7 h7 c7 l7))
local macro_rules | `(tactic| walk_at "call ref") => `(tactic| walk_at "mine r1")
set_option maxHeartbeats 4000000 in
theorem seg3 {o1 o2 o3 o4 o5 : Obj} {r : Str} {tr : Tok} {led : List (Addr × Obj)} (F : Fr g L s.heap m) (N : News g L s.heap (cells5 L o1 o2 o3 o4 o5 ++ led)) (d1 : o1.data = .cell (some (.str r tr))) (hr : r.length ≤ 10) (h0 : 0 < s.toks) (hled : ∀ p ∈ led, L + 5 < p.1)
    (next : ∀ h' tk XO dx TN TC its n nt b ks sm tb tn tnt k1 k2 k3 k4 k5 x t, 0 < tk → codes x = leadT (codes r) → wsGo (codes x) 0 0 0 [] = (n, nt, b, ks) → IntsAre its.toList ks → ks.length ≤ x.length → b ≤ x.length → Fr g L h' (fun y => if y = (Str.ofString "lead") then some (.ref XO) else m y) →
      News g L h' (cells5 L o1 o2 o3 o4 o5 ++ ((TN, tupObj #[.ref TC, .int ((b : Nat) : Int) tb]) :: (TC, tupObj its) :: (XO, instObj 125 dx) :: (dx, dictOf (wsEntries w.params x t n nt TN sm tn tnt k1 k2 k3 k4 k5) 5) :: led)) →
      (∀ p ∈ ((TN, tupObj #[.ref TC, .int ((b : Nat) : Int) tb]) :: (TC, tupObj its) :: (XO, instObj 125 dx) :: (dx, dictOf (wsEntries w.params x t n nt TN sm tn tnt k1 k2 k3 k4 k5) 5) :: led), L + 5 < p.1) →
      wpAny (model PySem.Challenge.pw_sc0089_01 w) (lawA dp un gd L) (execs ((bodyAt 18).drop 8) (lawEnv L)) Q E { s with heap := h', toks := tk }) :
    wpAny (model PySem.Challenge.pw_sc0089_01 w) (lawA dp un gd L) (execs ((bodyAt 18).drop 7) (lawEnv L)) Q E s := by
  dsimp only [cells5, List.cons_append, List.nil_append] at N
  conv in (List.drop 7 _) => whnf
  rw [execs_cons]
  refine wpAny_bind (keepToks 1 h0 ?_)
  walk_at "mine steps"
  unfold Held
  rename codes _ = List.map _ (codes r) => hc1
  rename codes _ = List.map _ (codes _) => hc2
  rename _ ≤ _ ∧ _ ≤ _ => hlen
  have hlx : ("x \t" : Str).length = 3 := by decide
  refine ws_make w mean mg mb _ _ (by omega) _ _ _ _ _ _ _ _ _ _ _ _ _ _ _ _ _ _ B F X N T rfl (by omega) (by omega) ?_
  intro h' tk' XO dx TN TC its n nt b ks sm tb tn tnt k1 k2 k3 k4 k5 F1 N1 l1 l2 l3 l4 hI1 hgo hks hb
  have hl5 : @LT.lt Nat _ (L + 5) dx := l1 _ (.head _)
  replace l2 := ltN l2
  replace l3 := ltN l3
  replace l4 := ltN l4
  walk_at "mine steps"
  unfold Held
  rename 1 ≤ _ => hT
  rename Fr _ _ _ _ => F9
  rename News _ _ _ _ => N9
  refine next _ _ XO dx TN TC its n nt b ks sm tb tn tnt k1 k2 k3 k4 k5 _ _ hT ?_ hgo hI1 hks hb F9 (fun p hp => N9 p (mem_swap (l₁ := cells5 L o1 o2 o3 o4 o5) p hp)) ?_
  · rw [codes_app, hc2, hc1]
    rfl
  · intro p hp
    rcases List.mem_cons.mp hp with rfl | hp
    · exact Nat.lt_trans (Nat.lt_trans hl5 l2) (Nat.lt_trans l3 l4)
    rcases List.mem_cons.mp hp with rfl | hp
    · exact Nat.lt_trans (Nat.lt_trans hl5 l2) l3
    rcases List.mem_cons.mp hp with rfl | hp
    · exact Nat.lt_trans hl5 l2
    rcases List.mem_cons.mp hp with rfl | hp
    · exact hl5
    · exact hled p hp
end
end

end
local macro_rules | `(tactic| walk_at "mine pad") => `(tactic| skip)
theorem startL4 : True := by
  w_top off
  exact trivial
section
set_option maxRecDepth 100000
section
theorem fillL4 : PySem.Challenge.rw_sc0089_01 = PySem.Challenge.rw_sc0089_01 ∧ Mine.hd.heap_39 = Mine.hd.heap_39 := by
  k_fill
  exact ⟨rfl, rfl⟩
local macro_rules | `(tactic| walk_at "call ref") => `(tactic| walk_at "mine r1")
local macro_rules | `(tactic| walk_at "execs cons") => `(tactic| walk_at "mine r1")

theorem codes_rev (x : Str) (u : Tok) : codes (Txt.sliceBy x none none (-1, u)) = (codes x).reverse := by
  unfold codes
  rw [step_rev_list]
  refine List.ext_getElem (by simp [Str.length]) fun i h1 h2 => ?_
  simp only [List.length_map, List.length_range] at h1
  have h1' : i < x.cps.size := h1
  have h3 : x.length - 1 - i < x.cps.size := by show x.cps.size - 1 - i < x.cps.size; omega
  simp only [List.getElem_map, List.getElem_range, List.getElem_reverse, Array.length_toList, Array.getElem_toList]
  show x.cps.getD (x.length - 1 - i) 0 = _
  simp only [Array.getD, h3, dif_pos]
  rfl
theorem rev_sliceK {prog : Program} {w : World} {A : Around} {E : Value → Shared → Prop} {s : Shared} {value slice : PySem.Expr} {x : Str} {t : Tok} {h₀ : Heap} {L : Addr} {m : Str → Option Value} {news : List (Addr × Obj)} {Q : Value → Shared → Prop} {uk : Tok} (h0 : 1 ≤ s.toks)
    (hF : Fr h₀ L s.heap m) (hN : News h₀ L s.heap news) (hsz : x.length ≤ 1000)
    (h : ∀ x' h' t' (c : Nat), 1 ≤ c → codes x' = (codes x).reverse → x'.length = x.length → Fr h₀ L h' m → News h₀ L h' news → Q (.str x' t') { s with heap := h', toks := c })
    (hs : subscripted slice false (.str x t) (.ref s.heap.objs.size) = operate [.ref s.heap.objs.size, .str x t] (getItem (.str x t) (.ref s.heap.objs.size)) := by with_unfolding_all rfl)
    (ht : ∀ r, letTemporaryGo value (.str x t) r = pure () := by intro _; with_unfolding_all rfl) :
    wpAny (model prog w) A (subscriptTail value slice (.str x t) (.ref s.heap.objs.size)) Q E { s with heap := s.heap.push { cls := .type "slice", data := .fields #[.none, .none, .int (-1) uk] } } :=
  keepToks 1 h0 (slice_strK_nn hF hN (by decide) (fun h' t' c F N hk => h _ h' t' c hk (codes_rev x uk) (step_rev_len x uk) F N) hs ht (by rw [sizeLine_eq]; omega))

section
variable {w : World} {mean : ExcName → Option Value} {mg mb : Str → Option Value} {dp un : Nat} {gd : Option (List Code)} {A₀ : Around} {base g : Heap} {L : Addr} {m : Str → Option Value} {s : Shared} {Q : Flow → Shared → Prop} {E : Value → Shared → Prop}
  (B : Below A₀ base [] g) (X : (Mine.hd.heap_39 w.params).In g) (T : Top Mine.hd.view_39 [Str.ofString "Whitespace"] mean mg mb g) (hd : dp + 20 < recursionLimit) (hu : un + 8 * 20 < cLine)
include B X T hd hu

local macro_rules | `(tactic| walk_at "call builtin:str.replace") => `(tactic| (refine replaceK _ _ (by first | omega | (dsimp only; omega)) (by omega) (by omega) (by decide) (by omega) rfl rfl ?_; intro x7 t7 k7 h7 c7 l7))
local macro_rules | `(tactic| walk_at "call ref") => `(tactic| walk_at "mine r1")
set_option maxHeartbeats 4000000 in
theorem seg4 {o1 o2 o3 o4 o5 : Obj} {r : Str} {tr : Tok} {led : List (Addr × Obj)} (F : Fr g L s.heap m) (N : News g L s.heap (cells5 L o1 o2 o3 o4 o5 ++ led)) (d1 : o1.data = .cell (some (.str r tr))) (hr : r.length ≤ 10) (h0 : 0 < s.toks) (hled : ∀ p ∈ led, L + 5 < p.1)
    (next : ∀ h' tk XO dx TN TC its n nt b ks sm tb tn tnt k1 k2 k3 k4 k5 x t, 0 < tk → codes x = mirT (codes r) → wsGo (codes x) 0 0 0 [] = (n, nt, b, ks) → IntsAre its.toList ks → ks.length ≤ x.length → b ≤ x.length → Fr g L h' (fun y => if y = (Str.ofString "mirror") then some (.ref XO) else m y) →
      News g L h' (cells5 L o1 o2 o3 o4 o5 ++ ((TN, tupObj #[.ref TC, .int ((b : Nat) : Int) tb]) :: (TC, tupObj its) :: (XO, instObj 125 dx) :: (dx, dictOf (wsEntries w.params x t n nt TN sm tn tnt k1 k2 k3 k4 k5) 5) :: led)) →
      (∀ p ∈ ((TN, tupObj #[.ref TC, .int ((b : Nat) : Int) tb]) :: (TC, tupObj its) :: (XO, instObj 125 dx) :: (dx, dictOf (wsEntries w.params x t n nt TN sm tn tnt k1 k2 k3 k4 k5) 5) :: led), L + 5 < p.1) →
      wpAny (model PySem.Challenge.pw_sc0089_01 w) (lawA dp un gd L) (execs ((bodyAt 18).drop 9) (lawEnv L)) Q E { s with heap := h', toks := tk }) :
    wpAny (model PySem.Challenge.pw_sc0089_01 w) (lawA dp un gd L) (execs ((bodyAt 18).drop 8) (lawEnv L)) Q E s := by
  dsimp only [cells5, List.cons_append, List.nil_append] at N
  conv in (List.drop 8 _) => whnf
  rw [execs_cons]
  refine wpAny_bind (keepToks 1 h0 ?_)
  walk_at "mine steps"
  refine rev_sliceK (s := ⟨s.heap, s.gens, s.drawn, s.toks + 1 + 1, s.os⟩) (uk := s.toks + 1) (x := r) (t := tr) (by dsimp only; omega) F N (by omega) ?_ (by with_unfolding_all rfl) (by intro _; with_unfolding_all rfl)
  intro x8 h8 t8 k8 i8 hc0 l8 F8 N8
  clear F N
  walk_at "mine steps"
  unfold Held
  rename codes _ = List.map _ (codes x8) => hc1
  rename codes _ = List.map _ (codes _) => hc2
  rename _ ≤ _ ∧ _ ≤ _ => hlen
  have hlx : ("x \t" : Str).length = 3 := by decide
  refine ws_make w mean mg mb _ _ (by omega) _ _ _ _ _ _ _ _ _ _ _ _ _ _ _ _ _ _ B F8 X N8 T rfl (by omega) (by omega) ?_
  intro h' tk' XO dx TN TC its n nt b ks sm tb tn tnt k1 k2 k3 k4 k5 F1 N1 l1 l2 l3 l4 hI1 hgo hks hb
  have hl5 : @LT.lt Nat _ (L + 5) dx := l1 _ (.head _)
  replace l2 := ltN l2
  replace l3 := ltN l3
  replace l4 := ltN l4
  walk_at "mine steps"
  unfold Held
  rename 1 ≤ _ => hT
  rename Fr _ _ _ _ => F9
  rename News _ _ _ _ => N9
  refine next _ _ XO dx TN TC its n nt b ks sm tb tn tnt k1 k2 k3 k4 k5 _ _ hT ?_ hgo hI1 hks hb F9 (fun p hp => N9 p (mem_swap (l₁ := cells5 L o1 o2 o3 o4 o5) p hp)) ?_
  · rw [codes_app, hc2, hc1, hc0]
    rfl
  · intro p hp
    rcases List.mem_cons.mp hp with rfl | hp
    · exact Nat.lt_trans (Nat.lt_trans hl5 l2) (Nat.lt_trans l3 l4)
    rcases List.mem_cons.mp hp with rfl | hp
    · exact Nat.lt_trans (Nat.lt_trans hl5 l2) l3
    rcases List.mem_cons.mp hp with rfl | hp
    · exact Nat.lt_trans hl5 l2
    rcases List.mem_cons.mp hp with rfl | hp
    · exact hl5
    · exact hled p hp
end
end

end
local macro_rules | `(tactic| walk_at "mine pad") => `(tactic| skip)
local macro_rules | `(tactic| walk_at "mine pad") => `(tactic| skip)
local macro_rules | `(tactic| walk_at "mine pad") => `(tactic| skip)
local macro_rules | `(tactic| walk_at "mine pad") => `(tactic| skip)
local macro_rules | `(tactic| walk_at "mine pad") => `(tactic| skip)
theorem startL5 : True := by
  w_top off
  exact trivial
section
set_option maxRecDepth 100000
section
theorem fillL5 : PySem.Challenge.rw_sc0089_01 = PySem.Challenge.rw_sc0089_01 ∧ Mine.hd.heap_39 = Mine.hd.heap_39 := by
  k_fill
  exact ⟨rfl, rfl⟩
local macro_rules | `(tactic| walk_at "last subscriptTail") => `(tactic| walk_at "mine r1")
local macro_rules | `(tactic| walk_at "compareOp NotEq ref ref") => `(tactic| walk_at "mine r1")
local macro_rules | `(tactic| walk_at "subscriptTail Name Slice str ref") => `(tactic| walk_at "mine r1")
local macro_rules | `(tactic| walk_at "call ref") => `(tactic| walk_at "mine r1")
local macro_rules | `(tactic| walk_at "execs cons") => `(tactic| walk_at "mine r1")

def normN (ls : List Nat) : List Int := (List.range (ls.foldr max 0 + 1)).map fun (i : Nat) => ((ls.count i : Nat) : Int)
theorem maxLen_fold : ∀ xs : List Str, maxLen xs = (xs.map (·.length)).foldr max 0
  | [] => rfl
  | x :: r => by rw [maxLen, maxLen_fold r]; rfl
theorem count_cast (i : Nat) : ∀ ls : List Nat, (ls.map fun n => ((n : Nat) : Int)).count ((i : Nat) : Int) = ls.count i
  | [] => rfl
  | n :: r => by
    rw [List.map_cons, List.count_cons, List.count_cons, count_cast i r]
    congr 1
    by_cases h : n = i
    · simp [h]
    · have : ¬ ((n : Nat) : Int) = ((i : Nat) : Int) := by omega
      simp [h, this]
theorem normOf_N (xs : List Str) : normOf xs = normN (xs.map (·.length)) := by
  unfold normOf normN
  rw [maxLen_fold]
  refine List.map_congr_left fun i _ => ?_
  rw [← count_cast, List.map_map]
  rfl
theorem StrsDrop : ∀ {vs : List Value} {ys : List Str}, StrsAre vs ys → StrsAre vs.dropLast ys.dropLast
  | _, _, .nil => .nil
  | _, _, .cons x t .nil => .nil
  | _, _, .cons x t (.cons y u h) => .cons x t (StrsDrop (.cons y u h))
theorem split_codes (r : Str) (c : Nat) (hr : 0 < r.length) : (Txt.split r ⟨#[c]⟩).map codes = splitC c (codes r) := by
  have hj := StrLaws.join_split r ⟨#[c]⟩
  have hne : Txt.split r ⟨#[c]⟩ ≠ [] := by
    intro e
    rw [e] at hj
    rw [← hj] at hr
    exact absurd hr (Nat.lt_irrefl 0)
  have := splitC_join c _ hne (StrLaws.split_free r c)
  rw [hj] at this
  exact this.symm
theorem split_lens (r : Str) (c : Nat) (hr : 0 < r.length) : ((Txt.split r ⟨#[c]⟩).dropLast.map (·.length)) = (splitC c (codes r)).dropLast.map List.length := by
  rw [← split_codes r c hr, ← List.map_dropLast, List.map_map]
  rfl
theorem ne_norm {prog : Program} {w : World} {A : Around} {E : Value → Shared → Prop} {s : Shared} {h₀ : Heap} {L a b c d : Addr} {news : List (Addr × Obj)} {Q : Value → Shared → Prop} {its its2 : Array Value} {ks : List Int} {i : Int} {t u : Tok}
    (N : News h₀ L s.heap news) (h1 : (a, tupObj #[.ref b, .int i t]) ∈ news) (h2 : (b, tupObj its) ∈ news) (h3 : (c, tupObj #[.ref d, .int i u]) ∈ news) (h4 : (d, tupObj its2) ∈ news) (hI : IntsAre its.toList ks) (hI2 : IntsAre its2.toList ks) (hu : A.units + 64 < cLine)
    (h : Q (.bool false) s) : wpAny (model prog w) A (compareOp .NotEq (.ref a) (.ref c)) Q E s := by
  have r1 := reads_tuple_at (N.get h1) rfl rfl (.cons (reads_tuple_at (N.get h2) rfl rfl ((ke_carried hI).reads _)) (.cons (Reads.int i t) .nil))
  have r2 := reads_tuple_at (N.get h3) rfl rfl (.cons (reads_tuple_at (N.get h4) rfl rfl ((ke_carried hI2).reads _)) (.cons (Reads.int i u) .nil))
  have sh : SeqAt.shaped (.tuple [.tuple (ks.map PyData.int), .int i]) = true := by
    simp [SeqAt.shaped, PyData.canLay0, PyData.canLayAll0, PyData.depth, PyData.depthAll, ke_canLayAll0, ke_depthAll]
  refine ne_dataH r1 r2 sh sh hu ?_
  simp only [PyData.eqv, PyData.eqvAll, ked_eqvAll, decide_true, beq_self_eq_true, Bool.and_true, Bool.true_and, Bool.not_true]
  exact h
theorem Has.eq {m : Str → Option Value} {ps : List (Str × Value)} (H : Has m ps) : kstB m ps = m := funext fun _ => kstB_eq H.all fun _ => rfl
theorem sliceDropLast (xs : List Value) : slicePick xs.toArray none (some (-1)) none = xs.dropLast.toArray := by
  have e : sliceBounds none (some (-1)) none xs.toArray.size = (((0 : Nat) : Int), ((xs.toArray.size - 1 : Nat) : Int), 1) := by
    simp only [sliceBounds, Option.getD_none, show (1 : Int) > 0 by decide, if_true, if_pos (show (-1 : Int) < 0 by decide)]
    congr 1
    congr 1
    omega
  rw [kmk_pick_nat _ e]
  simp [List.dropLast_eq_take]
theorem cutLast {prog : Program} {w : World} {A : Around} {E : Value → Shared → Prop} {s : Shared} {value slice : PySem.Expr} {h₀ : Heap} {L l : Addr} {m : Str → Option Value} {news : List (Addr × Obj)} {Q : Value → Shared → Prop} {xs : List Value} {u : Tok}
    (F : Fr h₀ L s.heap m) (N : News h₀ L s.heap news) (hl : s.heap.IsList l xs.toArray) (hsz : xs.length ≤ 1000)
    (h : ∀ D h', Fr h₀ L h' m → News h₀ L h' ((D, listOf xs.dropLast.toArray 0) :: news) → (∀ p ∈ news, p.1 < D) → Q (.ref D) { s with heap := h' })
    (hs : subscripted slice false (.ref l) (.ref s.heap.objs.size) = operate [.ref s.heap.objs.size, .ref l] (getItem (.ref l) (.ref s.heap.objs.size))) :
    wpAny (model prog w) A (subscriptTail value slice (.ref l) (.ref s.heap.objs.size)) Q E { s with heap := s.heap.push { cls := .type "slice", data := .fields #[.none, .int (-1) u, .none] } } := by
  refine kba_turn (value' := PySem.Expr.Name (PySem.Str.ofString "_") ⟨0, 0, 0, 0⟩) (fun _ => rfl) ?_
  refine kmk_slice F N hl .none (.int _ _) (fun D h' F' N' l1 => h D h' F' ?_ l1) hs (fun _ => rfl) (by rw [List.size_toArray, sizeLine_eq]; omega)
  rw [← sliceDropLast]
  exact N'
section
variable {w : World} {mean : ExcName → Option Value} {mg mb : Str → Option Value} {dp un : Nat} {gd : Option (List Code)} {A₀ : Around} {base g : Heap} {L : Addr} {m : Str → Option Value} {s : Shared} {Q : Flow → Shared → Prop} {E : Value → Shared → Prop}
  (B : Below A₀ base [] g) (X : (Mine.hd.heap_39 w.params).In g) (T : Top Mine.hd.view_39 [Str.ofString "Whitespace"] mean mg mb g) (hd : dp + 20 < recursionLimit) (hu : un + 8 * 20 < cLine)
include B X T hd hu

local macro_rules | `(tactic| walk_at "last subscriptTail") => `(tactic| walk_at "mine r1")
local macro_rules | `(tactic| walk_at "call ref") => `(tactic| walk_at "mine r1")
local macro_rules | `(tactic| k_mem) => `(tactic| first | with_reducible assumption | assumption | exact List.Mem.head _ | (refine' List.Mem.tail _ ?_; k_mem))
set_option maxHeartbeats 600000 in
theorem seg5 {o1 o2 o3 o4 o5 : Obj} {r : Str} {tr : Tok} {led : List (Addr × Obj)} (F : Fr g L s.heap m) (N : News g L s.heap (cells5 L o1 o2 o3 o4 o5 ++ led)) (d1 : o1.data = .cell (some (.str r tr))) (hr : r.length ≤ 10) (h0 : 0 < s.toks) (hled : ∀ p ∈ led, L + 5 < p.1)
    {XO dx TN TC : Addr} {its : Array Value} {n nt b : Nat} {ks : List Int} {sm : Bool} {tb tn tnt k1 k2 k3 k4 k5 : Tok} {x : Str} {t : Tok} {XO' dx' TN' TC' : Addr} {its' : Array Value} {n' nt' b' : Nat} {ks' : List Int} {sm' : Bool} {tb' tn' tnt' k1' k2' k3' k4' k5' : Tok} {x' : Str} {t' : Tok}
    (H : Has m [("mirror", .ref XO'), ("lead", .ref XO)])
    (h1 : (TN, tupObj #[.ref TC, .int ((b : Nat) : Int) tb]) ∈ led) (h2 : (TC, tupObj its) ∈ led) (h3 : (XO, instObj 125 dx) ∈ led) (h4 : (dx, dictOf (wsEntries w.params x t n nt TN sm tn tnt k1 k2 k3 k4 k5) 5) ∈ led)
    (h1' : (TN', tupObj #[.ref TC', .int ((b' : Nat) : Int) tb']) ∈ led) (h2' : (TC', tupObj its') ∈ led) (h3' : (XO', instObj 125 dx') ∈ led) (h4' : (dx', dictOf (wsEntries w.params x' t' n' nt' TN' sm' tn' tnt' k1' k2' k3' k4' k5') 5) ∈ led)
    (hI : IntsAre its.toList ks) (hr0 : 0 < r.length) (hpl : normN ((splitC 41 (codes r)).dropLast.map List.length) = ks) (hlen : (splitC 41 (codes r)).length ≤ 11 ∧ 2 ≤ (splitC 41 (codes r)).length) (hb : b = 0) (hpl' : normN ((splitC 40 (codes r).reverse).dropLast.map List.length) = ks') (hlen' : (splitC 40 (codes r).reverse).length ≤ 11 ∧ 2 ≤ (splitC 40 (codes r).reverse).length) (hb' : b' = 0)
    (next : ∀ h' tk, 0 < tk → Fr g L h' m → News g L h' (cells5 L o1 o2 o3 o4 o5 ++ led) →
      wpAny (model PySem.Challenge.pw_sc0089_01 w) (lawA dp un gd L) (execs ((bodyAt 18).drop 10) (lawEnv L)) Q E { s with heap := h', toks := tk }) (hI' : IntsAre its'.toList ks') :
    wpAny (model PySem.Challenge.pw_sc0089_01 w) (lawA dp un gd L) (execs ((bodyAt 18).drop 9) (lawEnv L)) Q E s := by
  have F0 := F
  replace F := H.fr F
  dsimp only [kstB] at F
  dsimp only [cells5, List.cons_append, List.nil_append] at N
  conv in (List.drop 9 _) => whnf
  rw [execs_cons]
  refine wpAny_bind (keepToks 1 h0 ?_)
  walk_at "mine steps"
  unfold Held
  rename List.map _ _ = Txt.split r _ => hsp
  rename StrsAre _ _ => hst
  rename Heap.IsList _ _ _ => hil
  rename Fr _ _ _ _ => F1
  rename News _ _ _ _ => N1
  rename Heap => h1
  rename List (Str × Tok) => l
  (refine' cutLast (s := ⟨h1, s.gens, s.drawn, _, s.os⟩) ?gF ?gN ?gl ?gz ?_ ?gs)
  (case gF => exact F1)
  (case gN => exact N1)
  (case gl => exact hil)
  (case gz =>
    have h9 := congrArg List.length (split_codes r 41 hr0)
    rw [List.length_map] at h9
    have h8 := congrArg List.length hsp
    rw [List.length_map] at h8
    have h7 : (Txt.split r ")").length = (Txt.split r ⟨#[41]⟩).length := rfl
    have h6 := hst.length
    rw [List.length_map] at h6
    omega)
  (case gs => with_unfolding_all rfl)
  intro D2 h2 F2 N2 l2
  clear N1 F1 hil
  walk_at "mine steps"
  unfold Held
  have hst2 := StrsDrop hst
  rw [hsp] at hst2
  have h9 := congrArg List.length (split_lens r 41 hr0)
  rw [List.length_map, List.length_map, List.length_dropLast, List.length_dropLast] at h9
  have h7 : Txt.split r ")" = Txt.split r ⟨#[41]⟩ := rfl
  rename ∀ a ∈ List.map _ _, _ => hall
  rw [hsp] at hall
  refine norm_call w mean mg mb _ _ D2 _ _ _ _ _ _ _ _ _ _ _ _ _ _ _ _ _ _ _ B F2 X N2 T rfl (by omega) (by omega) _ (.head _) rfl rfl hst2 (by rw [h7, List.length_dropLast]; omega) (by rw [h7, List.length_dropLast]; omega) (fun y hy => Nat.le_trans (hall y (List.dropLast_subset _ hy)) hr) ?_
  intro h3 tk3 TN2 TC2 its2 t3 F3 N3 hI2
  rw [h7, normOf_N, split_lens r 41 hr0, hpl] at hI2
  clear F2 N2
  subst hb
  walk_at "mine steps"
  unfold Held
  refine ne_norm N3 (by k_mem) (by k_mem) (.head _) (.tail _ (.head _)) hI hI2 (by show un + 64 < cLine; omega) ?_
  walk_at "mine steps"
  unfold Held
  refine rev_sliceK (s := ⟨h3, s.gens, s.drawn, _, s.os⟩) (x := r) (t := tr) (by dsimp only; omega) F3 N3 (by omega) ?_ (by with_unfolding_all rfl) (by intro _; with_unfolding_all rfl)
  intro r2 h4 t4 c4 i4 hc4 l4 F4 N4
  clear F3 N3 hst2 hall hst hsp h9 h7
  have hr2 : splitC 40 (codes r2) = splitC 40 (codes r).reverse := by rw [hc4]
  have hr02 : 0 < r2.length := by omega
  walk_at "mine steps"
  unfold Held
  rename List.map _ _ = Txt.split r2 _ => hsp
  rename StrsAre _ _ => hst
  rename Heap.IsList _ _ _ => hil
  rename Fr _ _ _ _ => F1
  rename News _ _ _ _ => N1
  rename Heap => h1
  rename List (Str × Tok) => l2
  (refine' cutLast (s := ⟨h1, s.gens, s.drawn, _, s.os⟩) ?gF ?gN ?gl ?gz ?_ ?gs)
  (case gF => exact F1)
  (case gN => exact N1)
  (case gl => exact hil)
  (case gz =>
    have h9 := congrArg List.length (split_codes r2 40 hr02)
    rw [List.length_map] at h9
    have h8 := congrArg List.length hsp
    rw [List.length_map] at h8
    have h7 : (Txt.split r2 "(").length = (Txt.split r2 ⟨#[40]⟩).length := rfl
    have h6 := hst.length
    rw [List.length_map] at h6
    rw [hr2] at h9
    omega)
  (case gs => with_unfolding_all rfl)
  intro D4 h5 F5 N5 l5
  clear N1 F1 hil
  walk_at "mine steps"
  unfold Held
  have hst2 := StrsDrop hst
  rw [hsp] at hst2
  have h9 := congrArg List.length (split_lens r2 40 hr02)
  rw [List.length_map, List.length_map, List.length_dropLast, List.length_dropLast, hr2] at h9
  have h7 : Txt.split r2 "(" = Txt.split r2 ⟨#[40]⟩ := rfl
  rename ∀ a ∈ List.map _ _, _ => hall
  rw [hsp] at hall
  refine norm_call w mean mg mb _ _ D4 _ _ _ _ _ _ _ _ _ _ _ _ _ _ _ _ _ _ _ B F5 X N5 T rfl (by omega) (by omega) _ (.head _) rfl rfl hst2 (by rw [h7, List.length_dropLast]; omega) (by rw [h7, List.length_dropLast]; omega) (fun y hy => Nat.le_trans (hall y (List.dropLast_subset _ hy)) (by omega)) ?_
  intro h6 tk6 TN6 TC6 its6 t6 F6 N6 hI6
  rw [h7, normOf_N, split_lens r2 40 hr02, hr2, hpl'] at hI6
  clear F5 N5
  subst hb'
  walk_at "mine steps"
  unfold Held
  refine ne_norm N6 (by k_mem) (by k_mem) (.head _) (.tail _ (.head _)) hI' hI6 (by show un + 64 < cLine; omega) ?_
  walk_at "mine steps"
  unfold Held
  rename 1 ≤ _ => hT
  have F7 : Fr g L h6 m := by
    have e := Has.eq H
    dsimp only [kstB] at e
    rw [← e]
    exact F6
  exact next _ _ hT F7 (fun p hp => N6 p (by repeat' (first | exact hp | refine List.Mem.tail _ ?_)))
end
end

end
theorem startK4 : True := by
  w_top off
  exact trivial
section
set_option maxRecDepth 100000
section
section
variable {prog : Program} {w : World} {A : Around} {E : Value → Shared → Prop} {s : Shared} {h₀ : Heap} {L : Addr} {m : Str → Option Value} {env : Env} {news : List (Addr × Obj)}
/-- what an element's walk leaves: the value, the frame, the same ledger -/
def EltEnd (h₀ : Heap) (L : Addr) (m : Str → Option Value) (s : Shared) (led : List (Addr × Obj)) (R : Value → Prop) (y : Value) (s₃ : Shared) : Prop :=
  ∃ h' tk', s₃ = { s with heap := h', toks := tk' } ∧ Fr h₀ L h' m ∧ News h₀ L h' led ∧ R y
theorem eltEnd_ {h' : Heap} {tk' : Nat} {led all : List (Addr × Obj)} {R : Value → Prop} {y : Value} (F : Fr h₀ L h' m) (N : News h₀ L h' all) (sub : ∀ p ∈ led, p ∈ all) (r : R y) :
    EltEnd h₀ L m s led R y { s with heap := h', toks := tk' } := ⟨h', tk', rfl, F, fun p hp => N p (sub p hp), r⟩
theorem rest_all {elt : PySem.Expr} {x : Str} {scope : Scope} {cl : List (Str × Addr)} {S : List (Addr × Obj) → Prop} {P : Nat → Value → Prop} {Fin : List Value → List (Addr × Obj) → Prop} (R : Nat → Value → Prop) (n : Nat) (hS : S news)
    (step : ∀ i v I oI C oC D ys m₂ h tk (E' : Value → Shared → Prop), i < n → P i v → LCg.NsObj oC m₂ → m₂ x = some v → Fr h₀ L h m → News h₀ L h ((I, oI) :: (C, oC) :: (D, LCg.lst ys) :: news) →
      wpAny (model prog w) A (eval elt (compEnvC scope cl C env)) (EltEnd h₀ L m s ((I, oI) :: (C, oC) :: (D, LCg.lst ys) :: news) (R i)) E' { s with heap := h, toks := tk })
    (fin : ∀ ys, ys.length = n → (∀ i v, ys[i]? = some v → R i v) → Fin ys news) :
    ∀ k i ys, i + k = n → ys.length = i → (∀ j v, ys[j]? = some v → R j v) → LCg.CompRest prog w A h₀ L m env elt x scope cl s S P Fin k i ys news
  | 0, i, ys, hk, hl, hR => fin ys (by omega) hR
  | k + 1, i, ys, hk, hl, hR => by
    intro v I oI C oC D m₂ h tk E' hP hC hx F N off ne
    refine wpAny_mono (step i v I oI C oC D ys m₂ h tk E' (by omega) hP hC hx F N) (fun y s₃ he => ?_) fun _ _ e => e
    obtain ⟨h', tk', rfl, F', N', hy⟩ := he
    refine ⟨h', tk', news, rfl, F', N', off, hS, rest_all R n hS step fin k (i + 1) (ys ++ [y]) (by omega) (by simp [hl]) fun j u hj => ?_⟩
    by_cases hji : j < i
    · exact hR j u (by rwa [List.getElem?_append_left (by omega)] at hj)
    · rw [List.getElem?_append_right (by omega)] at hj
      have : j - ys.length = 0 := by
        by_cases h0 : j - ys.length = 0
        · exact h0
        · rw [List.getElem?_eq_none (by simp; omega)] at hj; cases hj
      rw [this] at hj
      cases hj
      rwa [show j = i by omega]
theorem off1_ne {D : Addr} : ∀ {l : List (Addr × Obj)}, LCg.Off1 D l → ∀ p ∈ l, @Ne Nat p.1 D
  | [], _, _, hq => nomatch hq
  | p :: r, h, q, hq => by
    unfold LCg.Off1 at h
    rcases List.mem_cons.mp hq with e | hq
    · rw [e]; exact h.1
    · exact off1_ne h.2 q hq
theorem compU {elt iter : PySem.Expr} {x : Str} {px : Pos} {scope : Scope} {cl : List (Str × Addr)} {pos : Pos} {Q : Value → Shared → Prop} (F₀ : Fr h₀ L s.heap m) (N₀ : News h₀ L s.heap news) (n : Nat) (R : Nat → Value → Prop)
    (hiter : wpAny (model prog w) A (eval iter env) (fun xv s₁ => ∃ r t u v h1 tk1 b, xv = .ref r ∧ s₁ = { s with heap := h1, toks := tk1 } ∧ IsRange h1 r 0 b 1 t u v ∧ b = (n : Int) ∧ Fr h₀ L h1 m ∧ News h₀ L h1 news) E s) (hsz : n ≤ 1000000)
    (step : ∀ i v I oI C oC D ys m₂ h tk (E' : Value → Shared → Prop), i < n → (∃ t, v = .int (i : Int) t) → LCg.NsObj oC m₂ → m₂ x = some v → Fr h₀ L h m → News h₀ L h ((I, oI) :: (C, oC) :: (D, LCg.lst ys) :: news) →
      wpAny (model prog w) A (eval elt (compEnvC scope cl C env)) (EltEnd h₀ L m s ((I, oI) :: (C, oC) :: (D, LCg.lst ys) :: news) (R i)) E' { s with heap := h, toks := tk })
    (hQ : ∀ D ys h' tk, Fr h₀ L h' m → News h₀ L h' ((D, LCg.lst ys) :: news) → (∀ p ∈ news, @Ne Nat p.1 D) → ys.length = n → (∀ i v, ys[i]? = some v → R i v) → Q (.ref D) { s with heap := h', toks := tk })
    (hh : A.handled = none) (hclos : closureFor scope env = pure cl) (hcell : ∀ y ∈ scope.names, y.2 ≠ .cell) (hkind : scope.kind = .function)
    (hnames : ∀ y ∈ scope.names, y.2 = .local → scope.names.lookup y.1 = some .local) (hx : scope.names.lookup x = some .local)
    (hs : ∀ x, foldedSetIterable iter env x = pure x) :
    wpAny (model prog w) A (eval (.ListComp elt [⟨.Name x px, iter, [], 0⟩] scope pos) env) Q E s := by
  refine LCg.ListComp_U F₀ hclos hcell hkind hnames hx (wpAny_mono hiter (fun xv s₁ h₁ => ?_) fun _ _ e => e) hs
  obtain ⟨r, t, u, v, h1, tk1, b, rfl, rfl, hR, rfl, F, N⟩ := h₁
  refine LCg.CompSrc.range (n := n) hh F N hR (small_one (by omega) (by omega) (by omega) (by omega)) (by rw [rangeSize_nat]; omega) (by rw [sizeLine_eq]; omega) fun g' => ?_
  refine rest_all R n trivial (fun i v I oI C oC D ys m₂ h tk E' hi hP hC hx F N => ?_) (fun ys hl hR => ?_) n 0 [] (by omega) rfl (fun j v hj => by cases hj)
  · obtain ⟨t, rfl⟩ := hP
    refine wpAny_mono (step i _ I oI C oC D ys m₂ h tk E' hi ⟨t, by rw [Int.zero_add]⟩ hC hx F N) (fun y s₃ he => ?_) fun _ _ e => e
    exact he
  · intro D h tk F' N' off
    exact hQ D ys h tk F' N' (off1_ne off) hl hR
end
end

end
local macro_rules | `(tactic| walk_at "mine pad") => `(tactic| skip)
local macro_rules | `(tactic| walk_at "mine pad") => `(tactic| skip)
local macro_rules | `(tactic| walk_at "mine pad") => `(tactic| skip)
theorem startL6 : True := by
  w_top off
  exact trivial
section
set_option maxRecDepth 100000
section
theorem fillL6 : PySem.Challenge.rw_sc0089_01 = PySem.Challenge.rw_sc0089_01 ∧ Mine.hd.heap_39 = Mine.hd.heap_39 := by
  k_fill
  exact ⟨rfl, rfl⟩
local macro_rules | `(tactic| walk_at "compareOp NotEq ref ref") => `(tactic| walk_at "mine r1")
local macro_rules | `(tactic| walk_at "call ref") => `(tactic| walk_at "mine r1")
local macro_rules | `(tactic| walk_at "execs cons") => `(tactic| walk_at "mine r1")

/-- plain: the height at a place -/
def hgt (c : List Nat) (p : Nat) : Int := 2 * (((c.take p).count 40 : Nat) : Int) - (p : Int)
def textAt (c : List Nat) (p k : Nat) : List Nat := c.take p ++ List.replicate k 41
def okPlace (c : List Nat) (n p : Nat) : Bool := ((List.range (n + 1)).all fun k => chkGo (textAt c p k) 0 == decide (((k : Nat) : Int) = hgt c p)) && decide (0 ≤ hgt c p) && decide (hgt c p ≤ (n : Int))
theorem clipUp {n k : Nat} (h : k ≤ n) : Builtin.Str.strSliceIndices none (some (k : Int)) 1 n = List.range k := by
  simp only [Builtin.Str.strSliceIndices, sliceRange, show (1 : Int) > 0 by decide, if_true, show ¬ ((k : Int) < 0) by omega, if_false]
  have e : min (k : Int) n = k := by omega
  rw [e, show max (0 : Int) (k : Int) = k by omega]
  by_cases hz : 0 < (k : Int)
  · rw [if_pos hz]
    have e2 : ((k : Int) - 0 + 1 - 1) / 1 = k := by omega
    rw [e2]
    refine (List.map_congr_left (g := _root_.id) fun j _ => ?_).trans (List.map_id _)
    show (0 + 1 * (j : Int)).toNat = j
    omega
  · rw [if_neg hz]
    have : k = 0 := by omega
    rw [this]; rfl
theorem slice_upto {x : Str} {k : Nat} (h : k ≤ x.length) : codes (Txt.slice x none (some (k : Int))) = (codes x).take k := by
  unfold Txt.slice
  rw [clipUp h, List.length_range]
  split
  · rename_i h
    have : k = x.length := by simpa using h
    rw [List.take_of_length_le]
    rw [codes_length]; omega
  · show (List.filterMap (x.cps[·]?) _) = _
    have := range_filterMap (codes x) k (by rw [codes_length]; omega)
    simpa [codes] using this
def strOf (l : List Nat) : Str := ⟨l.toArray⟩
theorem codes_strOf (l : List Nat) : codes (strOf l) = l := by simp [codes, strOf]
theorem strs_get : ∀ (ys : List Value) (xs : List Str), ys.length = xs.length → (∀ (i : Nat) (v : Value) (x : Str), ys[i]? = some v → xs[i]? = some x → ∃ t, v = .str x t) → StrsAre ys xs
  | [], [], _, _ => .nil
  | [], _ :: _, h, _ => nomatch h
  | _ :: _, [], h, _ => nomatch h
  | y :: ys, x :: xs, h, hR => by
    obtain ⟨t, rfl⟩ := hR 0 y x rfl rfl
    exact .cons x t (strs_get ys xs (Nat.succ.inj h) fun i v z h1 h2 => hR (i + 1) v z h1 h2)
def textsAt (c : List Nat) (p n : Nat) : List Str := (List.range (n + 1)).map fun i => strOf (textAt c p i)
theorem strs_texts {ys : List Value} {n : Nat} {f : Nat → List Nat} (hl : ys.length = n) (hR : ∀ (i : Nat) (v : Value), ys[i]? = some v → ∃ x t, v = .str x t ∧ codes x = f i) : StrsAre ys ((List.range n).map fun i => strOf (f i)) := by
  refine strs_get _ _ (by simp [hl]) fun i v x h1 h2 => ?_
  obtain ⟨y, t, rfl, hy⟩ := hR i v h1
  have hi : i < n := by
    have := (List.getElem?_eq_some_iff.mp h1).1
    omega
  simp [hi] at h2
  subst h2
  exact ⟨t, by rw [codes_inj (hy.trans (codes_strOf (f i)).symm)]⟩
theorem news_one {h₀ h h' : Heap} {L D : Addr} {m : Str → Option Value} {news : List (Addr × Obj)} {o : Obj} (F : Fr h₀ L h m) (hnone : h.get? D = none) (N : News h₀ L h' news) (ho : h'.get? D = some o) : News h₀ L h' ((D, o) :: news) := fun p hp => by
  rcases List.mem_cons.mp hp with rfl | hp
  · refine ⟨ho, ?_, ?_⟩
    · rintro rfl
      obtain ⟨oL, _, _, hL, _⟩ := F.ns
      rw [hnone] at hL; cases hL
    · cases e : h₀.get? D with
      | none => rfl
      | some o' => rw [F.keep _ _ e] at hnone; cases hnone
  · exact N p hp
theorem text_free {c : List Nat} (h : ∀ x ∈ c, x = 40 ∨ x = 41) (p k : Nat) : ∀ x ∈ textAt c p k, x ≠ 34 ∧ x ≠ 92 := fun x hx => by
  rcases List.mem_append.mp hx with hx | hx
  · rcases h x (List.mem_of_mem_take hx) with rfl | rfl <;> decide
  · rw [List.eq_of_mem_replicate hx]; decide
theorem get_lst {prog : Program} {w : World} {A : Around} {E : Value → Shared → Prop} {s : Shared} {h₀ : Heap} {L D : Addr} {news : List (Addr × Obj)} {Q : Value → Shared → Prop} {value slice : PySem.Expr} {ys : List Value} {k i : Nat} {u : Tok} (N : News h₀ L s.heap news) (hm : (D, listOf ys.toArray k) ∈ news) (hi : i < ys.length) (hb : ys.length ≤ 1000)
    (h : ∀ v, ys[i]? = some v → Q v s) (hs : subscripted slice false (.ref D) (.int (i : Int) u) = operate [.ref D, .int (i : Int) u] (getItem (.ref D) (.int (i : Int) u))) :
    wpAny (model prog w) A (subscriptTail value slice (.ref D) (.int (i : Int) u)) Q E s := by
  have hl : s.heap.IsList D ys.toArray := News.isList N hm
  refine tail_any hl.typeIs slot_list_getitem.lookup (wpAny_getItem_list hl (by omega) (by omega) ?_ (h (ys[i]) (by simp [hi]))) hs
  rw [Int.toNat_natCast]
  simp [hi]
theorem strs_at {ys : List Value} {xs : List Str} (h : StrsAre ys xs) {i : Nat} {v : Value} (hv : ys[i]? = some v) : ∃ x t, v = .str x t ∧ xs[i]? = some x := by
  obtain ⟨y, t, e, hy⟩ := StrsAre.item h i v hv
  exact ⟨y, t, e, hy⟩
theorem strs_carried : ∀ {vs : List Value} {ss : List Str}, StrsAre vs ss → CarriedAll vs (ss.map PyData.str)
  | _, _, .nil => .nil
  | _, _, .cons x t h => .cons (.str x t) (strs_carried h)
theorem eqv_strs : ∀ xs : List Str, PyData.eqvAll (xs.map PyData.str) (xs.map PyData.str) = true
  | [] => by simp [PyData.eqvAll]
  | x :: r => by simp [PyData.eqvAll, PyData.eqv, eqv_strs r]
theorem lay_strs : ∀ xs : List Str, (∀ x ∈ xs, PyData.strOk x = true) → PyData.canLayAll0 (xs.map PyData.str) = true
  | [], _ => by simp [PyData.canLayAll0]
  | x :: r, h => by simp [PyData.canLayAll0, PyData.canLay0, lay_strs r fun y hy => h y (List.mem_cons_of_mem _ hy), h x (List.mem_cons_self ..)]
theorem strOk_of {l : List Nat} (h : ∀ c ∈ l, c < 1000) : PyData.strOk (strOf l) = true := by
  simp only [PyData.strOk, strOf, List.all_toArray, List.all_eq_true, decide_eq_true_eq]
  intro c hc
  have := h c hc
  omega
theorem depth_strs : ∀ xs : List Str, PyData.depthAll (xs.map PyData.str) = 0
  | [] => by simp [PyData.depthAll]
  | x :: r => by simp [PyData.depthAll, PyData.depth, depth_strs r]
theorem ne_strs {prog : Program} {w : World} {A : Around} {E : Value → Shared → Prop} {s : Shared} {h₀ : Heap} {L a b : Addr} {news : List (Addr × Obj)} {Q : Value → Shared → Prop} {xs ys : List Value} {k j : Nat} {ss : List Str}
    (N : News h₀ L s.heap news) (h1 : (a, listOf xs.toArray k) ∈ news) (h2 : (b, listOf ys.toArray j) ∈ news) (hI : StrsAre xs ss) (hI2 : StrsAre ys ss) (hso : ∀ x ∈ ss, PyData.strOk x = true) (hu : A.units + 64 < cLine)
    (h : Q (.bool false) s) : wpAny (model prog w) A (compareOp .NotEq (.ref a) (.ref b)) Q E s := by
  have r1 := reads_list_at (N.get h1) rfl rfl ((strs_carried hI).reads _)
  have r2 := reads_list_at (N.get h2) rfl rfl ((strs_carried hI2).reads _)
  have sh : SeqAt.shaped (.list (ss.map PyData.str)) = true := by
    simp [SeqAt.shaped, PyData.canLay0, PyData.depth, lay_strs ss hso, depth_strs]
  refine ne_dataH r1 r2 sh sh hu ?_
  simp only [PyData.eqv, eqv_strs, Bool.not_true]
  exact h
theorem fix_text {c : List Nat} {n p i : Nat} (hok : okPlace c n p = true) (hi : i < n + 1) : fixP (strOf (textAt c p i)) = if ((i : Nat) : Int) = hgt c p then strOf (textAt c p i) else "('', '')" := by
  unfold okPlace at hok
  rw [Bool.and_eq_true, Bool.and_eq_true, List.all_eq_true] at hok
  have := hok.1.1 i (List.mem_range.mpr hi)
  rw [beq_iff_eq] at this
  unfold fixP
  rw [codes_strOf, this]
  by_cases e : ((i : Nat) : Int) = hgt c p
  · simp [e]
  · simp [e]
theorem fix_texts {c : List Nat} {n p : Nat} (hok : okPlace c n p = true) : (textsAt c p n).map fixP = (List.range (n + 1)).map fun i => if ((i : Nat) : Int) = hgt c p then strOf (textAt c p i) else "('', '')" := by
  unfold textsAt
  rw [List.map_map]
  exact List.map_congr_left fun i hi => fix_text hok (List.mem_range.mp hi)
theorem text_small {c : List Nat} (h : ∀ x ∈ c, x = 40 ∨ x = 41) (p k : Nat) : ∀ x ∈ textAt c p k, x = 40 ∨ x = 41 := fun x hx => by
  rcases List.mem_append.mp hx with hx | hx
  · exact h x (List.mem_of_mem_take hx)
  · rw [List.eq_of_mem_replicate hx]; exact .inr rfl
theorem fix_ok {c : List Nat} {n p : Nat} (h : ∀ x ∈ c, x = 40 ∨ x = 41) {x : Str} (hx : x ∈ (List.range (n + 1)).map fun i => if ((i : Nat) : Int) = hgt c p then strOf (textAt c p i) else "('', '')") : PyData.strOk x = true := by
  obtain ⟨i, _, rfl⟩ := List.mem_map.mp hx
  show PyData.strOk (if _ then _ else _) = true
  split
  · exact strOk_of fun y hy => by rcases text_small h p i y hy with rfl | rfl <;> omega
  · decide +kernel
theorem strs_fun {ys : List Value} {n : Nat} {f : Nat → Str} (hl : ys.length = n) (hR : ∀ (i : Nat) (v : Value), ys[i]? = some v → ∃ x t, v = .str x t ∧ x = f i) : StrsAre ys ((List.range n).map f) := by
  refine strs_get _ _ (by simp [hl]) fun i v x h1 h2 => ?_
  obtain ⟨y, t, rfl, hy⟩ := hR i v h1
  have hi : i < n := by
    have := (List.getElem?_eq_some_iff.mp h1).1
    omega
  simp [hi] at h2
  exact ⟨t, by rw [hy, h2]⟩
theorem eq_text {c : List Nat} {p k : Nat} {x y : Str} {h : Int} (hc : ∀ x ∈ c, x = 40 ∨ x = 41) (hx : (if ((k : Nat) : Int) = h then strOf (textAt c p k) else "('', '')") = x) (hy : codes y = textAt c p k) : (x == y) = decide (((k : Nat) : Int) = h) := by
  by_cases e : ((k : Nat) : Int) = h
  · rw [if_pos e] at hx
    subst hx
    rw [decide_eq_true e, codes_inj (hy.trans (codes_strOf _).symm), beq_self_eq_true]
  · rw [if_neg e] at hx
    rw [decide_eq_false e, beq_eq_false_iff_ne]
    intro exy
    have h1 : codes ("('', '')" : Str) = textAt c p k := by rw [← hy, ← exy, ← hx]
    have h2 : codes ("('', '')" : Str) = [40, 39, 39, 44, 32, 39, 39, 41] := by decide +kernel
    have h3 := text_small hc p k 39 (by rw [← h1, h2]; decide)
    omega
theorem filter_one {h : Int} {n : Nat} (h0 : 0 ≤ h) (h1 : h ≤ (n : Int)) : (rangeInts 0 1 (n + 1)).filter (fun a => decide (a = h)) = [h] := by
  obtain ⟨k, rfl⟩ := Int.eq_ofNat_of_zero_le h0
  have hk : k < n + 1 := by omega
  have e : rangeInts 0 1 (n + 1) = (List.range (n + 1)).map fun (i : Nat) => ((i : Nat) : Int) := by
    unfold rangeInts
    exact List.map_congr_left fun i _ => by omega
  rw [e, List.filter_map]
  have e2 : (List.range (n + 1)).filter ((fun a => decide (a = (k : Int))) ∘ fun (i : Nat) => ((i : Nat) : Int)) = (List.range (n + 1)).filter (fun i => i == k) := by
    refine List.filter_congr fun i _ => ?_
    show decide (((i : Nat) : Int) = (k : Int)) = (i == k)
    by_cases hik : i = k
    · simp [hik]
    · have : ¬ ((i : Nat) : Int) = (k : Int) := by omega
      simp [hik, this]
  rw [e2, List.filter_beq, List.count_range, if_pos hk]
  rfl
theorem gt_mem {l : List (Addr × Obj)} {c : Addr} {p : Addr × Obj} (h : ∀ p ∈ l, c < p.1) (hp : p ∈ l) : @LT.lt Nat _ c p.1 := h p hp

section
variable {w : World} {mean : ExcName → Option Value} {mg mb : Str → Option Value} {dp un : Nat} {gd : Option (List Code)} {A₀ : Around} {base g : Heap} {L : Addr} {m : Str → Option Value} {s : Shared} {Q : Flow → Shared → Prop} {E : Value → Shared → Prop}
  (B : Below A₀ base [] g) (X : (Mine.hd.heap_39 w.params).In g) (T : Top Mine.hd.view_39 [Str.ofString "Whitespace"] mean mg mb g) (hd : dp + 20 < recursionLimit) (hu : un + 8 * 20 < cLine)
include B X T hd hu

local macro_rules | `(tactic| k_all) => `(tactic| (intro p9 hp9; (have hlt8 := gt_mem (by with_reducible assumption) hp9); k_ne))
local macro_rules | `(tactic| walk_at "call ref") => `(tactic| walk_at "mine r1")
local macro_rules | `(tactic| walk_at "eval ListComp") => `(tactic| walk_at "mine r1")
local macro_rules | `(tactic| walk_at "execs cons") => `(tactic| walk_at "mine r1")
set_option maxHeartbeats 600000 in
theorem place_turn {o1 o2 o3 o4 o5 : Obj} {r : Str} {tr tp tn : Tok} {v3 v4 v5 : Option Value} {D : Addr} {hs : List Value} {k n p : Nat} {hv : List Int} {led : List (Addr × Obj)} (F : Fr g L s.heap m) (N : News g L s.heap (cells5 L o1 o2 o3 o4 o5 ++ (D, listOf hs.toArray k) :: led))
    (d1 : o1.data = .cell (some (.str r tr))) (d2 : o2.data = .cell (some (.int (p : Int) tp))) (d3 : o3.data = .cell v3) (d4 : o4.data = .cell v4) (d5 : o5.data = .cell v5) (H : Has m [("heights", .ref D), ("n", .int (n : Int) tn)])
    (hr : r.length ≤ 10) (hrc : ∀ c ∈ codes r, c = 40 ∨ c = 41) (hp : p ≤ r.length) (hn : n ≤ 5) (hD : L + 5 < D) (hled : ∀ p ∈ led, L + 5 < p.1) (hok : okPlace (codes r) n p = true) (hI : IntsAre hs hv) (hlen : hv.length ≤ 100) (hb : AllBare s.gens)
    (next : ∀ h' tk' gens' m' o3' o4' o5' v3' v4' v5' D' its' k', AllBare gens' → Fr g L h' m' → (∀ x, x ≠ Str.ofString "heights" → m' x = m x) → m' (Str.ofString "heights") = some (.ref D') → News g L h' (cells5 L o1 o2 o3' o4' o5' ++ (D', listOf its' k') :: led) → (∀ p ∈ led, p.1 < D') → L + 5 < D' →
      o3'.data = .cell (some v3') → o4'.data = .cell (some v4') → o5'.data = .cell (some v5') → IntsAre its'.toList (hv ++ [hgt (codes r) p]) → Q .next { s with heap := h', toks := tk', gens := gens' }) :
    wpAny (model PySem.Challenge.pw_sc0089_01 w) (lawA dp un gd L) (execs (forBody ((bodyAt 18).getD 11 default)) (lawEnv L)) Q E s := by
  have H0 := H
  replace F := H.fr F
  dsimp only [kstB] at F
  dsimp only [cells5, List.cons_append, List.nil_append] at N
  conv in (forBody _) => whnf
  replace hD := ltN hD
  rw [execs_cons]
  refine wpAny_bind ?_
  k_steps
  unfold Held
  try dsimp only
  rename Fr _ _ _ _ => F1
  rename News _ _ _ _ => N1
  rename Obj => o3'
  rename o3'.data = _ => d3'
  try dsimp only at d3'
  have eh : 2 * Txt.count (Txt.slice r none (some (p : Int))) "(" - (p : Int) = hgt (codes r) p := by
    have e1 : Txt.count (Txt.slice r none (some (p : Int))) "(" = _ := count_codes _ 40
    rw [e1, slice_upto hp]
    rfl
  rw [eh] at d3'
  clear d3
  rw [execs_cons]
  refine wpAny_bind ?_
  k_steps
  unfold Held
  try dsimp only
  refine compU F1 N1 (n + 1) (fun i y => ∃ x t, y = .str x t ∧ codes x = textAt (codes r) p i) ?_ (by omega) ?_ ?_ rfl (by with_unfolding_all rfl) (by decide) rfl (by decide) rfl (fun _ => rfl)
  · k_steps
    all_goals assumption
  · rintro i v I oI C oC D' ys m₂ h tk E' hi ⟨t, rfl⟩ hC hx F4 N4
    k_steps
    try dsimp only
    rename Fr _ _ _ _ => F8
    rename News _ _ _ _ => N8
    refine eltEnd_ F8 N8 (fun _ hp9 => hp9) ⟨_, _, rfl, ?_⟩
    rw [codes_app, slice_upto hp, show codes (Txt.mul ")" (i : Int)) = List.replicate i 41 from mul_one_list 41 i]
    rfl
  · intro D2 ys2 h4 tk4 F4 N4 hne2 hl2 hR2
    have hne2a := neN (hne2 _ (.head _))
    have hne2b := neN (hne2 _ (.tail _ (.head _)))
    have hne2c := neN (hne2 _ (.tail _ (.tail _ (.head _))))
    have hne2d := neN (hne2 _ (.tail _ (.tail _ (.tail _ (.head _)))))
    have hne2e := neN (hne2 _ (.tail _ (.tail _ (.tail _ (.tail _ (.head _))))))
    dsimp only at hne2a hne2b hne2c hne2d hne2e
    clear F1 N1
    k_steps
    unfold Held
    try dsimp only
    rename Fr _ _ _ _ => F5
    rename News _ _ _ _ => N5
    rename Obj => o4'
    rename o4'.data = _ => d4'
    clear d4
    rw [execs_cons]
    refine wpAny_bind ?_
    k_steps
    unfold Held
    rename Heap => h5
    have hS2 : StrsAre ys2 (textsAt (codes r) p n) := strs_texts hl2 hR2
    refine extG_use (pre_ext w mean mg mb h5 D2 ys2 (textsAt (codes r) p n)) B F5 N5 X T rfl ⟨rfl, News.isList N5 (.head _), hS2, by simp [textsAt]; omega, fun x hx => ?_⟩ hb (by omega) (by omega) ?_
    · obtain ⟨i, hi, rfl⟩ := List.mem_map.mp hx
      have hi' := List.mem_range.mp hi
      refine ⟨?_, ?_⟩
      · rw [← codes_length, codes_strOf, textAt, List.length_append, List.length_take, List.length_replicate, codes_length]
        omega
      · rw [codes_strOf]
        exact text_free hrc p i
    · rintro v h6 tk6 gens6 hb6 F6 N6 st6 ⟨Dk, vk, kk, rfl, hDk, hDo, hSk⟩
      have hne6 : ∀ q ∈ (D2, LCg.lst ys2) :: (L + 5, o5) :: (L + 4, o4') :: (L + 3, o3') :: (L + 2, o2) :: (L + 1, o1) :: (D, listOf hs.toArray k) :: led, @Ne Nat q.1 Dk := fun q hq e => by
        have := (N5 q hq).1
        rw [show q.1 = Dk from e, hDk] at this
        cases this
      have N7 := news_one F5 hDk N6 hDo
      clear N5 F5 N6
      have hk0 := neN (hne6 _ (.head _))
      have hk5 := neN (hne6 _ (.tail _ (.head _)))
      have hk4 := neN (hne6 _ (.tail _ (.tail _ (.head _))))
      have hk3 := neN (hne6 _ (.tail _ (.tail _ (.tail _ (.head _)))))
      have hk2 := neN (hne6 _ (.tail _ (.tail _ (.tail _ (.tail _ (.head _))))))
      have hk1 := neN (hne6 _ (.tail _ (.tail _ (.tail _ (.tail _ (.tail _ (.head _)))))))
      dsimp only at hk0 hk5 hk4 hk3 hk2 hk1
      k_steps
      unfold Held
      try dsimp only
      rename Fr _ _ _ _ => F8
      rename News _ _ _ _ => N8
      rename Obj => o5'
      rename o5'.data = _ => d5'
      clear d5
      rw [execs_cons]
      refine wpAny_bind ?_
      k_steps
      unfold Held
      refine compU F8 N8 (n + 1) (fun i y => ∃ x t, y = .str x t ∧ x = if ((i : Nat) : Int) = hgt (codes r) p then strOf (textAt (codes r) p i) else "('', '')") ?_ (by omega) ?_ ?_ rfl (by with_unfolding_all rfl) (by decide) rfl (by decide) rfl (fun _ => rfl)
      · k_steps
        all_goals assumption
      · rintro i v I oI C oC D' ys m₂ h tk E' hi ⟨t, rfl⟩ hC hx F9 N9
        k_steps
        · refine get_lst N9 (.tail _ (.tail _ (.tail _ (.tail _ (.head _))))) (by omega) (by omega) ?_ (by with_unfolding_all rfl)
          intro v9 hv9
          obtain ⟨x9, t9, rfl, hx9⟩ := hR2 i v9 hv9
          k_steps
          refine eltEnd_ F9 N9 (fun _ hp9 => hp9) ⟨_, _, rfl, ?_⟩
          rw [if_pos (by assumption)]
          exact codes_inj (hx9.trans (codes_strOf _).symm)
        · refine eltEnd_ F9 N9 (fun _ hp9 => hp9) ⟨_, _, rfl, ?_⟩
          rw [if_neg (by assumption)]
      · intro D3 ys3 h7 tk7 F9 N9 hne3 hl3 hR3
        k_steps
        unfold Held
        rw [fix_texts hok] at hSk
        refine ne_strs N9 (.tail _ (.head _)) (.head _) hSk (strs_fun hl3 hR3) (fun x hx => fix_ok hrc hx) (by show un + 64 < cLine; omega) ?_
        have N10 := fun p hp => N9 p (.tail _ hp)
        clear N9 N8
        k_steps
        unfold Held
        try dsimp only
        rename Fr _ _ _ _ => F11
        have hF : ∀ (k9 : Nat) (v w9 : Value), vk[k9]? = some v → ys2[k9]? = some w9 → k9 < n + 1 → ∃ t u x y, v = .str x t ∧ w9 = .str y u ∧ ((x == y) = decide (((k9 : Nat) : Int) = hgt (codes r) p)) := by
          intro k9 v w9 hv9 hw9 hk9
          obtain ⟨x, t, rfl, hx⟩ := strs_at hSk hv9
          obtain ⟨y, u, rfl, hy⟩ := hR2 k9 w9 hw9
          refine ⟨t, u, x, y, rfl, rfl, ?_⟩
          simp only [List.getElem?_map, List.getElem?_range hk9, Option.map_some, Option.some.injEq] at hx
          exact eq_text hrc hx hy
        have hvk : vk.length = n + 1 := by
          have := hSk.length
          simpa using this
        rw [execs_cons]
        refine wpAny_bind ?_
        k_steps
        unfold Held
        clear hSk hS2
        have hgt0 : 0 ≤ hgt (codes r) p ∧ hgt (codes r) p ≤ (n : Int) := by
          unfold okPlace at hok
          rw [Bool.and_eq_true, Bool.and_eq_true, decide_eq_true_eq, decide_eq_true_eq] at hok
          exact ⟨hok.1.2, hok.2⟩
        refine compRT F11 N10 (n + 1) (fun a => decide (a = hgt (codes r) p)) (fun a => .int a) ?_ (by omega) ?_ ?_ ?_ rfl (by with_unfolding_all rfl) (by decide) rfl (by decide) rfl (fun _ => rfl)
        · k_steps
          all_goals assumption
        · rintro C a v s₂ m₂ E' h0 h1 ⟨t, rfl⟩ hns hv F12 N12
          obtain ⟨i, rfl⟩ := Int.eq_ofNat_of_zero_le h0
          k_steps
          refine get_lst N12 (.head _) (by omega) (by omega) ?_ (by with_unfolding_all rfl)
          intro v9 hv9
          k_steps
          refine get_lst N12 (.tail _ (.head _)) (by omega) (by omega) ?_ (by with_unfolding_all rfl)
          intro w9 hw9
          obtain ⟨t7, u7, x7, y7, rfl, rfl, hxy⟩ := hF i v9 w9 hv9 hw9 (by omega)
          k_steps
          exact ⟨_, _, rfl, fun _ _ e => e⟩
        · rintro C a v s₂ m₂ E' h0 h1 ⟨t, rfl⟩ hns hv F12 N12
          k_steps
          · exact .int _ _
          · exact ⟨_, _, rfl, fun _ _ e => e⟩
        · intro D4 ys4 k4 h8 tk8 F13 N13 hne4 hc4
          rw [filter_one hgt0.1 hgt0.2] at hc4
          have hI4 : IntsAre ys4 [hgt (codes r) p] := ints_carried hc4
          have hz4 := hI4.length
          have hz := hI.length
          k_steps
          try dsimp only
          rename Fr _ _ _ _ => F20
          rename News _ _ _ _ => N20
          rename IntsAre _ (_ ++ _) => hI20
          rename _ ∧ _ ∧ _ ∧ _ ∧ _ ∧ _ ∧ _ ∧ _ ∧ _ ∧ AllLt _ led => hal
          rename List Value => ws9
          refine next _ _ _ _ o3' o4' o5' _ _ _ _ ws9.toArray 0 hb6 F20 (fun x hx => ?_) (if_pos rfl) (fun p9 hp9 => N20 p9 ?_) (all_lt hal.2.2.2.2.2.2.2.2.2) hal.2.2.2.1 d3' d4' d5' hI20
          · show (if x = "heights" then _ else if x = "heights" then _ else if x = "n" then _ else m x) = m x
            rw [if_neg hx, if_neg hx]
            split
            · rename_i e
              rw [e]
              exact H0.2.1.symm
            · rfl
          · simp only [cells5, List.cons_append, List.nil_append, List.mem_cons] at hp9 ⊢
            rcases hp9 with h | h | h | h | h | h | h <;> simp [h]
end
end

end
theorem startL7 : True := by
  w_top off
  exact trivial
section
set_option maxRecDepth 100000
section
/-- a turn's end in a loop whose target is a cell and that may leave generators behind -/
def TurnC (G : Array GenState → Prop) (s : Shared) (g : Heap) (L I : Addr) (oI : Obj) (c : Addr) (J : (Str → Option Value) → List (Addr × Obj) → Prop) (s₃ : Shared) : Prop :=
  ∃ h' tk' gens' m' nx news' oc' v', s₃ = { s with heap := h', toks := tk', gens := gens' } ∧ G gens' ∧ Fr g L h' m' ∧ News g L h' news' ∧ (∀ p ∈ nx, p ∈ news') ∧ (I, oI) ∈ news' ∧ (c, oc') ∈ news' ∧ oc'.data = .cell v' ∧ (∀ p ∈ nx, p.1 ≠ I) ∧ (∀ p ∈ nx, p.1 ≠ c) ∧ J m' nx
theorem turnC_ {G : Array GenState → Prop} {s : Shared} {g h' : Heap} {L I c : Addr} {oI oc' : Obj} {v' : Option Value} {J : (Str → Option Value) → List (Addr × Obj) → Prop} {tk' : Nat} {gens' : Array GenState} {m' : Str → Option Value} {nx news' : List (Addr × Obj)}
    (hb : G gens') (F : Fr g L h' m') (N : News g L h' news') (hn : ∀ p ∈ nx, p ∈ news') (hI : (I, oI) ∈ news') (hc : (c, oc') ∈ news') (hd : oc'.data = .cell v') (hoff : ∀ p ∈ nx, p.1 ≠ I) (hoc : ∀ p ∈ nx, p.1 ≠ c) (hj : J m' nx) :
    Mid (TurnC G s g L I oI c J) { s with heap := h', toks := tk', gens := gens' } := ⟨h', tk', gens', m', nx, news', oc', v', rfl, hb, F, N, hn, hI, hc, hd, hoff, hoc, hj⟩
section
variable {prog : Program} {w : World} {A : Around} {s : Shared} {env : Env}
theorem gloopC (G : Array GenState → Prop) {Rr : Result → Shared → Prop} {g : Heap} {x : Str} {px : Pos} {body : List Stmt} {I c : Addr} {fp : List Addr} {n : Nat} {P : Nat → Value → Prop} {St : Nat → Heap → Prop} {m : Str → Option Value} {news : List (Addr × Obj)} {oc₀ : Obj} {v₀ : Option Value}
    (W : Walks prog w A I fp [I] n P St) (hk : env.scope.kind = .function) (hx : env.kindOf x = some .cell) (hc : env.cells.lookup x = some c)
    (hI : g.get? I = none) (hIL : I ≠ env.locals) (hfp : ∀ b ∈ fp, b = I ∨ ∃ o, g.get? b = some o) (hlive : ∀ i h, St i h → ∃ o, h.get? I = some o)
    (hst : St 0 s.heap) (F : Fr g env.locals s.heap m) (N : News g env.locals s.heap ((c, oc₀) :: news)) (hd₀ : oc₀.data = .cell v₀) (hcI : c ≠ I) (hnI : ∀ p ∈ news, p.1 ≠ I) (hnc : ∀ p ∈ news, p.1 ≠ c) (hb : G s.gens)
    (J : Nat → (Str → Option Value) → List (Addr × Obj) → Prop) (h0 : J 0 m news)
    (step : ∀ i v m₁ nx h tk gens oI oc, i < n → P i v → J i m₁ nx → (∀ p ∈ nx, p.1 ≠ I) → (∀ p ∈ nx, p.1 ≠ c) → G gens → oc.data = .cell (some v) → Fr g env.locals h m₁ → News g env.locals h ((c, oc) :: (nx ++ [(I, oI)])) →
      wpAny (model prog w) A (execs body env) (fun f s₃ => match f with
        | .ret v => Rr (.ok (.ret v)) s₃
        | .brk => Rr (.ok .next) s₃
        | _ => Mid (TurnC G s g env.locals I oI c (J (i + 1))) s₃)
        (notedBy (model prog w) A env fun e s' => Rr (.error e) s') { s with heap := h, toks := tk, gens := gens })
    (hR : ∀ h' tk m' nx gens oc v', G gens → Fr g env.locals h' m' → News g env.locals h' ((c, oc) :: nx) → oc.data = .cell v' → J n m' nx → Rr (.ok .next) { s with heap := h', toks := tk, gens := gens }) :
    codeAny (model prog w) A (.forLoop (.Name x px) (.ref I) body [] env) Rr s := by
  refine codeAny_forLoop
    (fun k s' => ∃ h' tk gens m' nx i oc v', s' = { s with heap := h', toks := tk, gens := gens } ∧ G gens ∧ St i h' ∧ Fr g env.locals h' m' ∧ News g env.locals h' ((c, oc) :: nx) ∧ oc.data = .cell v' ∧ (∀ p ∈ nx, p.1 ≠ I) ∧ (∀ p ∈ nx, p.1 ≠ c) ∧ J i m' nx ∧ i ≤ n ∧ k = n + 1 - i) ?_ (n + 1)
    ⟨s.heap, s.toks, s.gens, m, news, 0, oc₀, v₀, rfl, hb, hst, F, N, hd₀, hnI, hnc, h0, Nat.zero_le _, rfl⟩
  rintro k s' ⟨h₁, tk₁, gens₁, m₁, nx, i, oc, v', rfl, hb₁, hst₁, F₁, N₁, hd₁, hn₁, hc₁, hJ, hi, rfl⟩
  have hnall : ∀ p ∈ (c, oc) :: nx, p.1 ≠ I := fun p hp => by
    rcases List.mem_cons.mp hp with rfl | hp
    · exact hcI
    · exact hn₁ p hp
  have next : ∀ h₂ : Heap, (∀ b o, b ∉ [I] → h₁.get? b = some o → h₂.get? b = some o) → Fr g env.locals h₂ m₁ ∧ News g env.locals h₂ ((c, oc) :: nx) := fun h₂ hk =>
    ⟨⟨F₁.ns.at' fun o e => hk _ o (by simpa using hIL.symm) e, fun b o e => hk b o (by
        intro hm
        rw [List.mem_singleton.mp hm, hI] at e
        cases e) (F₁.keep b o e), F₁.above⟩, fun p hp => ⟨hk _ _ (by simpa using hnall p hp) (N₁ p hp).1, (N₁ p hp).2⟩⟩
  by_cases hlt : i < n
  · refine W.item i _ _ _ hlt hst₁ fun v h₂ tk₂ hP hst₂ hk₂ => ?_
    obtain ⟨F₂, N₂⟩ := next h₂ hk₂
    have hmem := N₂ (c, oc) (.head _)
    refine wpAny_assign_Name (wpAny_storeName_cell hk hx hc ⟨oc, hmem.1, hd₁⟩ fun h₃ hv₃ hs₃ => ?_)
    obtain ⟨o', ho', hd'⟩ := hv₃
    replace hs₃ : Heap.SameBut c h₂ h₃ := hs₃
    have F₃ : Fr g env.locals h₃ m₁ := ⟨F₂.ns.sameBut hs₃ (Ne.symm hmem.2.1), fun b ob e => (hs₃.2 b (fun q => by rw [q, hmem.2.2] at e; cases e)).trans (F₂.keep b ob e), F₂.above⟩
    have N₃' : News g env.locals h₃ ((c, o') :: nx) := News.setAt (own := []) N₂ (fun _ h => nomatch h) hc₁ hs₃ ho'
    obtain ⟨oI, hoI⟩ := hlive _ _ hst₂
    have hoI₃ : h₃.get? I = some oI := (hs₃.2 I hcI.symm).trans hoI
    have N₃ : News g env.locals h₃ ((c, o') :: (nx ++ [(I, oI)])) := fun p hp => by
      rcases List.mem_cons.mp hp with rfl | hp
      · exact N₃' _ (.head _)
      · rcases List.mem_append.mp hp with hp | hp
        · exact N₃' p (.tail _ hp)
        · rw [List.mem_singleton.mp hp]
          exact ⟨hoI₃, hIL, hI⟩
    refine wpAny_mono (step i v m₁ nx h₃ _ gens₁ oI o' hlt hP hJ hn₁ hc₁ hb₁ hd' F₃ N₃) (fun f s₃ hend => ?_) fun _ _ e => e
    have fin : TurnC G s g env.locals I oI c (J (i + 1)) s₃ → ∃ m, m < n + 1 - i ∧ ∃ h' tk gens m' nx j oc v', s₃ = { s with heap := h', toks := tk, gens := gens } ∧ G gens ∧ St j h' ∧ Fr g env.locals h' m' ∧ News g env.locals h' ((c, oc) :: nx) ∧ oc.data = .cell v' ∧ (∀ p ∈ nx, p.1 ≠ I) ∧ (∀ p ∈ nx, p.1 ≠ c) ∧ J j m' nx ∧ j ≤ n ∧ m = n + 1 - j := by
      clear hend
      rintro ⟨h₄, tk₄, gens₄, m₄, nx₄, news₄, oc₄, v₄, rfl, hb₄, F₄, N₄, hsub, hIm, hcm, hd₄, hoff, hoffc, hJ₄⟩
      refine ⟨n + 1 - (i + 1), by omega, h₄, tk₄, gens₄, m₄, nx₄, i + 1, oc₄, v₄, rfl, hb₄, ?_, F₄, fun p hp => ?_, hd₄, hoff, hoffc, hJ₄, hlt, rfl⟩
      · refine W.frame _ _ _ hst₂ fun b hb o e => ?_
        rcases hfp b hb with rfl | ⟨o', ho'⟩
        · rw [hoI] at e
          cases e
          exact (N₄ _ hIm).1
        · have := F₂.keep b o' ho'
          rw [e] at this
          cases this
          exact F₄.keep b _ ho'
      · rcases List.mem_cons.mp hp with rfl | hp
        · exact N₄ _ hcm
        · exact N₄ p (hsub p hp)
    cases f with
    | ret v => exact hend
    | brk => exact hend
    | cont => exact fin hend
    | next => exact fin hend
  · have hin : i = n := by omega
    subst hin
    refine W.done _ _ _ hst₁ fun h₂ tk₂ hk₂ => wpAny_execs_nil ?_
    obtain ⟨F₂, N₂⟩ := next h₂ hk₂
    exact hR h₂ tk₂ m₁ nx gens₁ oc v' hb₁ F₂ N₂ hd₁ hJ
end
end

end
local macro_rules | `(tactic| walk_at "mine pad") => `(tactic| skip)
local macro_rules | `(tactic| walk_at "mine pad") => `(tactic| skip)
local macro_rules | `(tactic| walk_at "mine pad") => `(tactic| skip)
local macro_rules | `(tactic| walk_at "mine pad") => `(tactic| skip)
local macro_rules | `(tactic| walk_at "mine pad") => `(tactic| skip)
local macro_rules | `(tactic| walk_at "mine pad") => `(tactic| skip)
local macro_rules | `(tactic| walk_at "mine pad") => `(tactic| skip)
theorem startL8 : True := by
  w_top off
  exact trivial
section
set_option maxRecDepth 100000
section
theorem fillL8 : PySem.Challenge.rw_sc0089_01 = PySem.Challenge.rw_sc0089_01 ∧ Mine.hd.heap_39 = Mine.hd.heap_39 := by
  k_fill
  exact ⟨rfl, rfl⟩
local macro_rules | `(tactic| walk_at "call ref") => `(tactic| walk_at "mine r1")

theorem lt_of_led {l : List (Addr × Obj)} {c : Addr} (h : ∀ p ∈ l, c + 5 < p.1) (p : Addr × Obj) (hp : p ∈ l) : @LT.lt Nat _ (c + 5) p.1 := h p hp
section
variable {w : World} {mean : ExcName → Option Value} {mg mb : Str → Option Value} {dp un : Nat} {gd : Option (List Code)} {A₀ : Around} {base g : Heap} {L : Addr} {m : Str → Option Value} {s : Shared} {Q : Flow → Shared → Prop} {E : Value → Shared → Prop}
  (B : Below A₀ base [] g) (X : (Mine.hd.heap_39 w.params).In g) (T : Top Mine.hd.view_39 [Str.ofString "Whitespace"] mean mg mb g) (hd : dp + 20 < recursionLimit) (hu : un + 8 * 20 < cLine)
include B X T hd hu

local macro_rules | `(tactic| walk_at "execs cons") => `(tactic| walk_at "mine r0")
local macro_rules | `(tactic| walk_at "pyIter ref") => `(tactic| walk_at "mine r1")
set_option maxHeartbeats 600000 in
theorem seg6 {o1 o2 o3 o4 o5 : Obj} {r : Str} {tr tw tn : Tok} {v2 v3 v4 v5 : Option Value} {n ww : Nat} {led : List (Addr × Obj)} (F : Fr g L s.heap m) (N : News g L s.heap (cells5 L o1 o2 o3 o4 o5 ++ led))
    (d1 : o1.data = .cell (some (.str r tr))) (d2 : o2.data = .cell v2) (d3 : o3.data = .cell v3) (d4 : o4.data = .cell v4) (d5 : o5.data = .cell v5) (H : Has m [("w", .int (ww : Int) tw), ("n", .int (n : Int) tn)])
    (hr : r.length = 2 * n) (hrc : ∀ c ∈ codes r, c = 40 ∨ c = 41) (hn : n ≤ 5) (hwn : ww ≤ n) (hled : ∀ p ∈ led, L + 5 < p.1) (hok : ∀ i, i < 2 * ww + 1 → okPlace (codes r) n (n - ww + i) = true) (hb : AllBare s.gens)
    (next : ∀ h' tk' gens' m' p2 p3 p4 p5 v2' v3' v4' v5' D its k, AllBare gens' → Fr g L h' m' → (∀ x, x ≠ Str.ofString "heights" → m' x = m x) → m' (Str.ofString "heights") = some (.ref D) → News g L h' (cells5 L o1 p2 p3 p4 p5 ++ (D, listOf its k) :: led) → L + 5 < D →
      p2.data = .cell v2' → p3.data = .cell v3' → p4.data = .cell v4' → p5.data = .cell v5' → IntsAre its.toList ((List.range (2 * ww + 1)).map fun j => hgt (codes r) (n - ww + j)) →
      wpAny (model PySem.Challenge.pw_sc0089_01 w) (lawA dp un gd L) (execs ((bodyAt 18).drop 12) (lawEnv L)) Q E { s with heap := h', toks := tk', gens := gens' }) :
    wpAny (model PySem.Challenge.pw_sc0089_01 w) (lawA dp un gd L) (execs ((bodyAt 18).drop 10) (lawEnv L)) Q E s := by
  have H0 := H
  replace F := H.fr F
  dsimp only [kstB] at F
  dsimp only [cells5, List.cons_append, List.nil_append] at N
  conv in (List.drop 10 _) => whnf
  walk_at "mine steps"
  unfold Held
  rw [execs_cons]
  refine wpAny_bind (wpAny_For ?_ ?_)
  · walk_at "mine steps"
    unfold Held
    rename_i D0 hA l1 hB FB NB hC tkC tC uC vC hRg F1 N1 hkeep
    have ea : (n : Int) - (ww : Int) = ((n - ww : Nat) : Int) := by omega
    have eb : (n : Int) + (ww : Int) + 1 = ((n - ww : Nat) : Int) + ((2 * ww + 1 : Nat) : Int) := by omega
    rw [ea, eb] at hRg
    refine wpAny_pyIter_range hRg (small_one (by omega) (by omega) (by omega) (by omega)) ?_
    have hL5 : L + 5 < _ := Heap.lt_size (N1 _ (.tail _ (.head _))).1
    have hsz : Builtin.Range.rangeSize ((n - ww : Nat) : Int) (((n - ww : Nat) : Int) + ((2 * ww + 1 : Nat) : Int)) 1 = ((2 * ww + 1 : Nat) : Int) := by
      unfold Builtin.Range.rangeSize
      simp only [show (1 : Int) > 0 by decide, if_true]
      split <;> omega
    have hlt := F1.ns.lt
    refine gloopC AllBare (c := L + 2) (n := 2 * ww + 1) (Walks.range rfl _ ((n - ww : Nat) : Int) 1 (2 * ww + 1)) rfl rfl rfl (next_is_new F1) (Nat.ne_of_gt hlt) (fun b hb => .inl (List.mem_singleton.mp hb)) (fun i h st => ?_) ?_ (F1.push _) (oc₀ := o2) (v₀ := v2) (news := (L + 5, o5) :: (L + 4, o4) :: (L + 3, o3) :: (L + 1, o1) :: (D0, listOf #[] 0) :: led) ?_ d2 ?_ ?_ ?_ hb
      (fun i m' nx => ∃ D its k p3 p4 p5 v3' v4' v5', (∀ x, x ≠ Str.ofString "heights" → m' x = m x) ∧ m' (Str.ofString "heights") = some (.ref D) ∧ nx = (L + 5, p5) :: (L + 4, p4) :: (L + 3, p3) :: (L + 1, o1) :: (D, listOf its k) :: led ∧ L + 5 < D ∧ p3.data = .cell v3' ∧ p4.data = .cell v4' ∧ p5.data = .cell v5' ∧ IntsAre its.toList ((List.range i).map fun j => hgt (codes r) (n - ww + j))) ?_ ?_ ?_
    · have h9 : IsRangeIter _ _ _ _ _ := st
      exact ⟨_, h9⟩
    · show IsRangeIter _ _ _ _ _
      rw [hsz]
      simpa using Heap.get?_push_size _ rfl
    · intro p hp
      have hp' : p ∈ (D0, listOf #[] 0) :: (L + 5, o5) :: (L + 4, o4) :: (L + 3, o3) :: (L + 2, o2) :: (L + 1, o1) :: led := by
        simp only [List.mem_cons] at hp ⊢
        rcases hp with h | h | h | h | h | h | h <;> simp [h]
      exact ⟨Heap.get?_push_of_some _ (N1 p hp').1, (N1 p hp').2⟩
    · exact Nat.ne_of_lt (Nat.lt_trans (by omega) hL5)
    · intro p hp
      have hp' : p ∈ (D0, listOf #[] 0) :: (L + 5, o5) :: (L + 4, o4) :: (L + 3, o3) :: (L + 2, o2) :: (L + 1, o1) :: led := by
        simp only [List.mem_cons] at hp ⊢
        rcases hp with h | h | h | h | h | h <;> simp [h]
      exact Nat.ne_of_lt (Heap.lt_size (N1 p hp').1)
    · intro p hp
      simp only [List.mem_cons] at hp
      rcases hp with h | h | h | h | h | h
      · rw [h]; exact Nat.ne_of_gt (Nat.add_lt_add_left (by decide) L)
      · rw [h]; exact Nat.ne_of_gt (Nat.add_lt_add_left (by decide) L)
      · rw [h]; exact Nat.ne_of_gt (Nat.add_lt_add_left (by decide) L)
      · rw [h]; exact Nat.ne_of_lt (Nat.add_lt_add_left (by decide) L)
      · rw [h]; exact Nat.ne_of_gt (Nat.lt_trans (Nat.add_lt_add_left (by decide) L) l1.1)
      · exact Nat.ne_of_gt (Nat.lt_trans (Nat.add_lt_add_left (by decide) L) (hled p h))
    · refine ⟨D0, #[], 0, o3, o4, o5, v3, v4, v5, fun x hx => ?_, if_pos rfl, rfl, l1.1, d3, d4, d5, .nil⟩
      rw [if_neg hx]
      split
      · rename_i e; rw [e]; exact H0.1.symm
      · split
        · rename_i e; rw [e]; exact H0.2.1.symm
        · rfl
    · rintro i v m₁ nx h tk gens oI oc hi ⟨t, rfl⟩ ⟨D, ⟨hsl⟩, k, p3, p4, p5, v3', v4', v5', hm1, hm2, rfl, hD, e3, e4, e5, hI⟩ hoffI hoffc hbg hdc F9 N9
      rw [show ((n - ww : Nat) : Int) + (i : Int) * 1 = ((n - ww + i : Nat) : Int) by omega] at hdc
      have N' : News g L h (cells5 L o1 oc p3 p4 p5 ++ (D, listOf hsl.toArray k) :: (led ++ [(hC.objs.size, oI)])) := fun p hp => N9 p (by
        simp only [cells5, List.cons_append, List.nil_append, List.mem_cons, List.mem_append, List.not_mem_nil, or_false] at hp ⊢
        rcases hp with h | h | h | h | h | h | h | h <;> simp [h])
      have hz := hI.length
      refine place_turn B X T hd hu (hv := (List.range i).map fun j => hgt (codes r) (n - ww + j)) (s := ⟨h, gens, s.drawn, tk, s.os⟩) F9 N' d1 hdc e3 e4 e5 (Has.cons hm2 (Has.cons ((hm1 _ (by decide)).trans H0.2.1) Has.nil)) (by omega) hrc (by omega) hn hD (fun p hp => ?_) (hok i hi) hI (by simp; omega) hbg ?_
      · rcases List.mem_append.mp hp with hp | hp
        · exact hled p hp
        · rw [List.mem_singleton.mp hp]; exact hL5
      · intro h2 tk2 gens2 m2 q3 q4 q5 w3 w4 w5 D2 its2 k2 hb2 F2 hm3 hm4 N2 hlt2 hD2 f3 f4 f5 hI2
        have hI2' : IntsAre its2.toList ((List.range (i + 1)).map fun j => hgt (codes r) (n - ww + j)) := by
          rw [List.range_succ, List.map_append]
          exact hI2
        have hIlt : hC.objs.size < D2 := hlt2 _ (List.mem_append_right _ (.head _))
        refine turnC_ (c := L + 2) (oc' := oc) (nx := (L + 5, q5) :: (L + 4, q4) :: (L + 3, q3) :: (L + 1, o1) :: (D2, listOf its2 k2) :: led) hb2 F2 N2 ?_ ?_ ?_ hdc ?_ ?_ ⟨D2, its2, k2, q3, q4, q5, _, _, _, fun x hx => (hm3 x hx).trans (hm1 x hx), hm4, rfl, hD2, f3, f4, f5, hI2'⟩
        · intro p hp
          simp only [cells5, List.cons_append, List.nil_append, List.mem_cons, List.mem_append] at hp ⊢
          rcases hp with h | h | h | h | h | h <;> simp [h]
        · simp
        · simp [cells5]
        · intro p hp
          simp only [List.mem_cons] at hp
          rcases hp with h | h | h | h | h | h
          · rw [h]; exact Nat.ne_of_lt hL5
          · rw [h]; exact Nat.ne_of_lt (Nat.lt_trans (Nat.add_lt_add_left (by decide) L) hL5)
          · rw [h]; exact Nat.ne_of_lt (Nat.lt_trans (Nat.add_lt_add_left (by decide) L) hL5)
          · rw [h]; exact Nat.ne_of_lt (Nat.lt_trans (Nat.add_lt_add_left (by decide) L) hL5)
          · rw [h]; exact Nat.ne_of_gt hIlt
          · exact hoffI p (by simp [h])
        · intro p hp
          simp only [List.mem_cons] at hp
          rcases hp with h | h | h | h | h | h
          · rw [h]; exact Nat.ne_of_gt (Nat.add_lt_add_left (by decide) L)
          · rw [h]; exact Nat.ne_of_gt (Nat.add_lt_add_left (by decide) L)
          · rw [h]; exact Nat.ne_of_gt (Nat.add_lt_add_left (by decide) L)
          · rw [h]; exact Nat.ne_of_lt (Nat.add_lt_add_left (by decide) L)
          · rw [h]; exact Nat.ne_of_gt (Nat.lt_trans (Nat.add_lt_add_left (by decide) L) hD2)
          · exact Nat.ne_of_gt (Nat.lt_trans (Nat.add_lt_add_left (by decide) L) (hled p h))
    · rintro h' tk' m' nx gens' oc v' hb' F9 N9 hd9 ⟨D, its, k, p3, p4, p5, v3', v4', v5', hm1, hm2, rfl, hD, e3, e4, e5, hI⟩
      refine next h' tk' gens' m' oc p3 p4 p5 v' v3' v4' v5' D its k hb' F9 hm1 hm2 (fun p hp => N9 p ?_) hD hd9 e3 e4 e5 hI
      simp only [cells5, List.cons_append, List.nil_append, List.mem_cons, List.mem_append] at hp ⊢
      rcases hp with h | h | h | h | h | h | h <;> simp [h]
  · intro _; rfl
end
end

end
local macro_rules | `(tactic| walk_at "mine pad") => `(tactic| skip)
local macro_rules | `(tactic| walk_at "mine pad") => `(tactic| skip)
local macro_rules | `(tactic| walk_at "mine pad") => `(tactic| skip)
local macro_rules | `(tactic| walk_at "mine pad") => `(tactic| skip)
theorem startL9 : True := by
  w_top off
  exact trivial
section
set_option maxRecDepth 100000
section
theorem fillL9 : PySem.Challenge.rw_sc0089_01 = PySem.Challenge.rw_sc0089_01 ∧ Mine.hd.heap_39 = Mine.hd.heap_39 := by
  k_fill
  exact ⟨rfl, rfl⟩
local macro_rules | `(tactic| walk_at "call ref") => `(tactic| walk_at "mine r1")

def farOf (n mm : Nat) : Nat := (1 + mm - n) + (n - (1 + mm))
theorem far_eq (n mm : Nat) : (if ((1 + mm : Nat) : Int) - (n : Int) < 0 then -(((1 + mm : Nat) : Int) - (n : Int)) else ((1 + mm : Nat) : Int) - (n : Int)) = (farOf n mm : Int) := by
  unfold farOf
  split <;> omega
theorem max3K {prog : Program} {w : World} {A : Around} {E : Value → Shared → Prop} {s : Shared} {h₀ : Heap} {L : Addr} {m : Str → Option Value} {news : List (Addr × Obj)} {a b c : Int} {t u x : Tok} {Q : Value → Shared → Prop} (F : Fr h₀ L s.heap m) (N : News h₀ L s.heap news) (hh : A.handled = none)
    (h : ∀ h' (tk : Nat) (t' : Tok), Fr h₀ L h' m → News h₀ L h' news → Q (.int (max a (max b c)) t') { s with heap := h', toks := tk }) :
    wpAny (model prog w) A (call (.builtin "max") [.int a t, .int b u, .int c x]) Q E s := by
  refine max_three_ints hh fun h' tk hk => ?_
  have key := fun tok => h h' tk tok (F.keeps hk) (fun p hp => ⟨hk _ _ (N p hp).1, (N p hp).2⟩)
  by_cases h1 : b > a <;> by_cases h2 : c > b <;> by_cases h3 : c > a <;> simp only [h1, h2, h3, if_true, if_false]
  all_goals first
    | (rw [show max a (max b c) = c by omega] at key; exact key _)
    | (rw [show max a (max b c) = b by omega] at key; exact key _)
    | (rw [show max a (max b c) = a by omega] at key; exact key _)
section
variable {w : World} {mean : ExcName → Option Value} {mg mb : Str → Option Value} {dp un : Nat} {gd : Option (List Code)} {A₀ : Around} {base g : Heap} {L : Addr} {m : Str → Option Value} {s : Shared} {Q : Flow → Shared → Prop} {E : Value → Shared → Prop}
  (B : Below A₀ base [] g) (X : (Mine.hd.heap_39 w.params).In g) (T : Top Mine.hd.view_39 [Str.ofString "Whitespace"] mean mg mb g) (hd : dp + 20 < recursionLimit) (hu : un + 8 * 20 < cLine)
include B X T hd hu

local macro_rules | `(tactic| walk_at "execs cons") => `(tactic| walk_at "mine r1")
local macro_rules | `(tactic| k_mem) => `(tactic| first | with_reducible assumption | assumption | exact List.Mem.head _ | (refine' List.Mem.tail _ ?_; k_mem))
local macro_rules | `(tactic| walk_at "subscriptTail") => `(tactic| ((with_reducible show wpAny _ _ (subscriptTail _ _ (Value.ref _) (Value.int _ _)) _ _ _); (rename News _ _ _ _ => N9); refine get_atT N9 (by repeat' (first | assumption | refine List.Mem.tail _ ?_)) (by with_reducible assumption) (by omega) (by omega) (by omega) ?_; intro t9; (try dsimp only)))
set_option maxHeartbeats 600000 in
theorem seg7 {o1 o2 o3 o4 o5 : Obj} {led : List (Addr × Obj)} {D : Addr} {ih : Array Value} {kh n mm ww : Nat} {hv : List Int} {tw tm tnn : Tok} (F : Fr g L s.heap m) (N : News g L s.heap (cells5 L o1 o2 o3 o4 o5 ++ (D, listOf ih kh) :: led))
    {XO dx TN TC : Addr} {its : Array Value} {na nt : Nat} {ks : List Int} {sm : Bool} {tb tn tnt k1 k2 k3 k4 k5 : Tok} {x : Str} {t : Tok} {XO' dx' TN' TC' : Addr} {its' : Array Value} {na' nt' : Nat} {ks' : List Int} {sm' : Bool} {tb' tn' tnt' k1' k2' k3' k4' k5' : Tok} {x' : Str} {t' : Tok}
    {tl2 : Tok} {le : Nat} (H : Has m [("less", .int (le : Int) tl2), ("heights", .ref D), ("mirror", .ref XO'), ("lead", .ref XO), ("w", .int (ww : Int) tw), ("m", .int ((1 + mm : Nat) : Int) tm), ("n", .int (n : Int) tnn)])
    (h1 : (TN, tupObj #[.ref TC, .int ((0 : Nat) : Int) tb]) ∈ led) (h2 : (TC, tupObj its) ∈ led) (h3 : (XO, instObj 125 dx) ∈ led) (h4 : (dx, dictOf (wsEntries w.params x t na nt TN sm tn tnt k1 k2 k3 k4 k5) 5) ∈ led)
    (h1' : (TN', tupObj #[.ref TC', .int ((0 : Nat) : Int) tb']) ∈ led) (h2' : (TC', tupObj its') ∈ led) (h3' : (XO', instObj 125 dx') ∈ led) (h4' : (dx', dictOf (wsEntries w.params x' t' na' nt' TN' sm' tn' tnt' k1' k2' k3' k4' k5') 5) ∈ led)
    (hI : IntsAre its.toList ks) (hI' : IntsAre its'.toList ks') (hIh : IntsAre ih.toList hv) (hv0 : 0 < hv.length) (hv1 : hv.length ≤ 10) (hks : 0 < ks.length) (hlen : ks.length ≤ 100) (hbd : ∀ c ∈ ks, 0 ≤ c ∧ c ≤ 1000) (hnt : nt ≤ 1000) (hil : ∀ i, 0 ≤ ilPart ks i ∧ ilPart ks i ≤ 100000) (hlen' : ks'.length ≤ 100) (hbd' : ∀ c ∈ ks', 0 ≤ c ∧ c ≤ 1000) (hnt' : nt' ≤ 1000) (hil' : ∀ i, 0 ≤ ilPart ks' i ∧ ilPart ks' i ≤ 100000) (hn : n ≤ 5) (hww : ww ≤ 2) (hmm : mm ≤ 10)
    (next : ∀ h' tk m' t1 t2, Fr g L h' m' → News g L h' (cells5 L o1 o2 o3 o4 o5 ++ (D, listOf ih kh) :: led) → Has m' [("flat", .int (max (4 * (farOf n mm : Int)) (max (2 * (farOf n mm : Int) + 2 * ks.getD 0 0) (ilOf ks 0 nt + ilOf ks' 0 nt' - 4 * (n : Int)))) t1), ("far", .int (farOf n mm : Int) t2), ("less", .int (le : Int) tl2), ("heights", .ref D), ("w", .int (ww : Int) tw), ("m", .int ((1 + mm : Nat) : Int) tm), ("n", .int (n : Int) tnn)] →
      wpAny (model PySem.Challenge.pw_sc0089_01 w) (lawA dp un gd L) (execs ((bodyAt 18).drop 14) (lawEnv L)) Q E { s with heap := h', toks := tk }) :
    wpAny (model PySem.Challenge.pw_sc0089_01 w) (lawA dp un gd L) (execs ((bodyAt 18).drop 12) (lawEnv L)) Q E s := by
  have H0 := H
  replace F := H.fr F
  dsimp only [kstB] at F
  dsimp only [cells5, List.cons_append, List.nil_append] at N
  conv in (List.drop 12 _) => whnf
  rw [execs_cons]
  refine wpAny_bind ?_
  walk_at "mine steps"
  unfold Held
  try dsimp only
  rename Fr _ _ _ _ => F0
  rename News _ _ _ _ => N0
  rw [far_eq] at F0
  rw [execs_cons]
  refine wpAny_bind ?_
  walk_at "mine steps"
  unfold Held
  rename Fr _ _ _ _ => F1
  rename News _ _ _ _ => N1
  have tl : ∀ p ∈ led, p ∈ (L + 5, o5) :: (L + 4, o4) :: (L + 3, o3) :: (L + 2, o2) :: (L + 1, o1) :: (D, listOf ih kh) :: led := fun p hp => .tail _ (.tail _ (.tail _ (.tail _ (.tail _ (.tail _ hp)))))
  refine il_call w mean mg mb x t _ _ _ _ _ _ _ _ _ _ _ _ _ _ XO dx TN TC _ _ _ _ _ its 0 na nt tb tn tnt k1 k2 k3 k4 k5 sm ks B F1 X N1 T rfl (by omega) (by omega) (tl _ h1) (tl _ h2) (tl _ h3) (tl _ h4) hI hlen hbd (by omega) hnt hil ?_
  intro h8 tk8 t8 F8 N8
  clear F1 N1
  walk_at "mine steps"
  unfold Held
  refine il_call w mean mg mb x' t' _ _ _ _ _ _ _ _ _ _ _ _ _ _ XO' dx' TN' TC' _ _ _ _ _ its' 0 na' nt' tb' tn' tnt' k1' k2' k3' k4' k5' sm' ks' B F8 X N8 T rfl (by omega) (by omega) (tl _ h1') (tl _ h2') (tl _ h3') (tl _ h4') hI' hlen' hbd' (by omega) hnt' hil' ?_
  intro h9 tk9 t9 F9 N9
  clear F8 N8
  walk_at "mine steps"
  refine max3K F9 N9 rfl ?_
  intro h10 tk10 t10 F10 N10
  clear F9 N9
  walk_at "mine steps"
  unfold Held
  try dsimp only
  rename Fr _ _ _ _ => F11
  rename News _ _ _ _ => N11
  exact next _ _ _ _ _ F11 N11 (by walk_at "mine has")
end
end

end
local macro_rules | `(tactic| walk_at "mine pad") => `(tactic| skip)
local macro_rules | `(tactic| walk_at "mine pad") => `(tactic| skip)
theorem startL10 : True := by
  w_top off
  exact trivial
section
set_option maxRecDepth 100000
section
theorem fillL10 : PySem.Challenge.rw_sc0089_01 = PySem.Challenge.rw_sc0089_01 ∧ Mine.hd.heap_39 = Mine.hd.heap_39 := by
  k_fill
  exact ⟨rfl, rfl⟩

/-- plain: the greatest and the least -/
def hmax : List Int → Int
  | [] => 0
  | [a] => a
  | a :: b :: r => max a (hmax (b :: r))
def hmin : List Int → Int
  | [] => 0
  | [a] => a
  | a :: b :: r => min a (hmin (b :: r))
theorem hmax_spec : ∀ l : List Int, 0 < l.length → hmax l ∈ l ∧ ∀ a ∈ l, a ≤ hmax l
  | [a], _ => ⟨.head _, fun x hx => by rw [List.mem_singleton.mp hx]; exact Int.le_refl _⟩
  | a :: b :: r, _ => by
    obtain ⟨h1, h2⟩ := hmax_spec (b :: r) (Nat.succ_pos _)
    rw [hmax]
    refine ⟨?_, fun x hx => ?_⟩
    · by_cases h : a ≤ hmax (b :: r)
      · rw [Int.max_eq_right h]; exact .tail _ h1
      · rw [Int.max_eq_left (by omega)]; exact .head _
    · rcases List.mem_cons.mp hx with rfl | hx
      · omega
      · have := h2 x hx; omega
theorem hmin_spec : ∀ l : List Int, 0 < l.length → hmin l ∈ l ∧ ∀ a ∈ l, hmin l ≤ a
  | [a], _ => ⟨.head _, fun x hx => by rw [List.mem_singleton.mp hx]; exact Int.le_refl _⟩
  | a :: b :: r, _ => by
    obtain ⟨h1, h2⟩ := hmin_spec (b :: r) (Nat.succ_pos _)
    rw [hmin]
    refine ⟨?_, fun x hx => ?_⟩
    · by_cases h : a ≤ hmin (b :: r)
      · rw [Int.min_eq_left h]; exact .head _
      · rw [Int.min_eq_right (by omega)]; exact .tail _ h1
    · rcases List.mem_cons.mp hx with rfl | hx
      · omega
      · have := h2 x hx; omega
section
variable {prog : Program} {w : World} {A : Around} {E : Value → Shared → Prop} {s : Shared} {h₀ : Heap} {L D : Addr} {m : Str → Option Value} {news : List (Addr × Obj)} {its : Array Value} {k : Nat} {hv : List Int} {Q : Value → Shared → Prop}
theorem maxK (F : Fr h₀ L s.heap m) (N : News h₀ L s.heap news) (hm : (D, listOf its k) ∈ news) (hI : IntsAre its.toList hv) (h0 : 0 < hv.length) (hh : A.handled = none)
    (h : ∀ h' (tk : Nat) (t' : Tok), Fr h₀ L h' m → News h₀ L h' news → Q (.int (hmax hv) t') { s with heap := h', toks := tk }) :
    wpAny (model prog w) A (call (.builtin "max") [.ref D]) Q E s := by
  refine kso_max F N (vs := its.toList) (by rw [Array.toArray_toList]; exact News.isList N hm) hI h0 hh fun h' M t tk F' N' a b => ?_
  have e := hmax_spec hv h0
  have : M = hmax hv := Int.le_antisymm (e.2 _ a) (b _ e.1)
  rw [this]
  exact h h' tk t F' N'
theorem minK (F : Fr h₀ L s.heap m) (N : News h₀ L s.heap news) (hm : (D, listOf its k) ∈ news) (hI : IntsAre its.toList hv) (h0 : 0 < hv.length) (hh : A.handled = none)
    (h : ∀ h' (tk : Nat) (t' : Tok), Fr h₀ L h' m → News h₀ L h' news → Q (.int (hmin hv) t') { s with heap := h', toks := tk }) :
    wpAny (model prog w) A (call (.builtin "min") [.ref D]) Q E s := by
  refine kso_min F N (vs := its.toList) (by rw [Array.toArray_toList]; exact News.isList N hm) hI h0 hh fun h' M t tk F' N' a b => ?_
  have e := hmin_spec hv h0
  have : M = hmin hv := Int.le_antisymm (b _ e.1) (e.2 _ a)
  rw [this]
  exact h h' tk t F' N'
end
section
variable {w : World} {mean : ExcName → Option Value} {mg mb : Str → Option Value} {dp un : Nat} {gd : Option (List Code)} {A₀ : Around} {base g : Heap} {L : Addr} {m : Str → Option Value} {s : Shared} {Q : Flow → Shared → Prop} {E : Value → Shared → Prop}
  (B : Below A₀ base [] g) (X : (Mine.hd.heap_39 w.params).In g) (T : Top Mine.hd.view_39 [Str.ofString "Whitespace"] mean mg mb g) (hd : dp + 20 < recursionLimit) (hu : un + 8 * 20 < cLine)
include B X T hd hu

local macro_rules | `(tactic| walk_at "execs cons") => `(tactic| walk_at "mine r1")
local macro_rules | `(tactic| walk_at "call builtin:max") => `(tactic| ((with_reducible show wpAny _ _ (call (Value.builtin _) [Value.ref _]) _ _ _); (with_reducible refine Held.out ?_)))
local macro_rules | `(tactic| walk_at "call builtin:min") => `(tactic| ((with_reducible show wpAny _ _ (call (Value.builtin _) [Value.ref _]) _ _ _); (with_reducible refine Held.out ?_)))
set_option maxHeartbeats 600000 in
theorem seg8 {o1 o2 o3 o4 o5 : Obj} {led : List (Addr × Obj)} {D : Addr} {ih : Array Value} {kh n mm ww le : Nat} {hv : List Int} {tw tm tnn tl2 tfl tfa : Tok} {fl fa : Int} (F : Fr g L s.heap m) (N : News g L s.heap (cells5 L o1 o2 o3 o4 o5 ++ (D, listOf ih kh) :: led))
    (H : Has m [("flat", .int fl tfl), ("far", .int fa tfa), ("less", .int (le : Int) tl2), ("heights", .ref D), ("w", .int (ww : Int) tw), ("m", .int ((1 + mm : Nat) : Int) tm), ("n", .int (n : Int) tnn)])
    (hIh : IntsAre ih.toList hv) (hv0 : 0 < hv.length) (hvb : ∀ a ∈ hv, -100 ≤ a ∧ a ≤ 100) (hn : n ≤ 5) (hww : ww ≤ 2)
    (next : ∀ h' tk m' nest t0 t1 t2 t3, codes nest = List.replicate (n + ww) 40 ++ List.replicate (n + ww) 41 → Fr g L h' m' → News g L h' (cells5 L o1 o2 o3 o4 o5 ++ (D, listOf ih kh) :: led) →
      Has m' [("nest", .str nest t0), ("deep", .int (4 * (ww : Int) + 2 * ((n : Int) + hmin hv)) t1), ("small", .int (4 * (ww : Int) + (n : Int) - hmax hv) t2), ("steep", .int (4 * (ww : Int) + 2 * ((n : Int) - hmax hv)) t3), ("flat", .int fl tfl), ("far", .int fa tfa), ("less", .int (le : Int) tl2), ("m", .int ((1 + mm : Nat) : Int) tm), ("n", .int (n : Int) tnn)] →
      wpAny (model PySem.Challenge.pw_sc0089_01 w) (lawA dp un gd L) (execs ((bodyAt 18).drop 18) (lawEnv L)) Q E { s with heap := h', toks := tk }) :
    wpAny (model PySem.Challenge.pw_sc0089_01 w) (lawA dp un gd L) (execs ((bodyAt 18).drop 14) (lawEnv L)) Q E s := by
  have hmx := hvb _ (hmax_spec hv hv0).1
  have hmn := hvb _ (hmin_spec hv hv0).1
  replace F := H.fr F
  dsimp only [kstB] at F
  dsimp only [cells5, List.cons_append, List.nil_append] at N
  conv in (List.drop 14 _) => whnf
  rw [execs_cons]
  refine wpAny_bind ?_
  walk_at "mine steps"
  unfold Held
  rename Fr _ _ _ _ => F9
  rename News _ _ _ _ => N9
  refine maxK F9 N9 (.tail _ (.tail _ (.tail _ (.tail _ (.tail _ (.head _)))))) hIh hv0 rfl ?_
  clear F9 N9
  intro h9 tk9 t9 F9 N9
  walk_at "mine steps"
  unfold Held
  try dsimp only
  rw [execs_cons]
  refine wpAny_bind ?_
  walk_at "mine steps"
  unfold Held
  rename Fr _ _ _ _ => F9
  rename News _ _ _ _ => N9
  refine maxK F9 N9 (.tail _ (.tail _ (.tail _ (.tail _ (.tail _ (.head _)))))) hIh hv0 rfl ?_
  clear F9 N9
  intro h9 tk9 t9 F9 N9
  walk_at "mine steps"
  unfold Held
  try dsimp only
  rw [execs_cons]
  refine wpAny_bind ?_
  walk_at "mine steps"
  unfold Held
  rename Fr _ _ _ _ => F9
  rename News _ _ _ _ => N9
  refine minK F9 N9 (.tail _ (.tail _ (.tail _ (.tail _ (.tail _ (.head _)))))) hIh hv0 rfl ?_
  clear F9 N9
  intro h9 tk9 t9 F9 N9
  walk_at "mine steps"
  unfold Held
  try dsimp only
  rw [execs_cons]
  refine wpAny_bind ?_
  walk_at "mine steps"
  unfold Held
  try dsimp only
  rename Fr _ _ _ _ => F11
  rename News _ _ _ _ => N11
  refine next _ _ _ _ _ _ _ _ ?_ F11 N11 (by walk_at "mine has")
  rw [codes_app, show codes (Txt.mul "(" _) = _ from mul_one_list 40 ((n : Int) + (ww : Int)), show codes (Txt.mul ")" _) = _ from mul_one_list 41 ((n : Int) + (ww : Int))]
  rw [show ((n : Int) + (ww : Int)).toNat = n + ww by omega]
end
end

end
local macro_rules | `(tactic| walk_at "mine pad") => `(tactic| skip)
local macro_rules | `(tactic| walk_at "mine pad") => `(tactic| skip)
theorem startL11 : True := by
  w_top off
  exact trivial
section
set_option maxRecDepth 100000
section
theorem fillL11 : PySem.Challenge.rw_sc0089_01 = PySem.Challenge.rw_sc0089_01 ∧ Mine.hd.heap_39 = Mine.hd.heap_39 := by
  k_fill
  exact ⟨rfl, rfl⟩

/-- plain: pairs side by side; letters -/
def pairsN (k : Nat) : List Nat := (List.replicate k [40, 41]).flatten
def lettersN (l : List Nat) : List Nat := l.map fun c => if c = 40 then 97 else 65
theorem foldl_app (a : Array Nat) : ∀ (k : Nat) (acc : Array Nat), ((List.replicate k a).foldl (· ++ ·) acc).toList = acc.toList ++ (List.replicate k a.toList).flatten
  | 0, acc => by simp
  | k + 1, acc => by
    rw [List.replicate_succ, List.foldl_cons, foldl_app a k]
    simp [List.replicate_succ]
theorem mul_pairs (n : Int) : codes (Txt.mul "()" n) = pairsN n.toNat := by
  unfold Txt.mul codes pairsN
  by_cases h1 : n < 1
  · rw [if_pos h1]
    have e : n.toNat = 0 := by omega
    rw [e]; rfl
  · rw [if_neg h1]
    by_cases h2 : n = 1
    · subst h2; decide
    · have e : (n == 1 || ("()" : Str).length == 0) = false := by
        have a1 : (n == 1) = false := by simpa using h2
        rw [a1]; rfl
      rw [e, if_neg Bool.false_ne_true]
      show ((List.replicate n.toNat _).foldl (· ++ ·) #[]).toList = _
      rw [foldl_app]; rfl
theorem pairsN_length : ∀ k, (pairsN k).length = 2 * k
  | 0 => rfl
  | k + 1 => by
    have := pairsN_length k
    unfold pairsN at this ⊢
    rw [List.replicate_succ, List.flatten_cons, List.length_append, this]
    simp only [List.length_cons, List.length_nil]
    omega
theorem mul_pairs_len (k : Nat) : (Txt.mul "()" (k : Int)).length = 2 * k := by
  rw [← codes_length, mul_pairs, pairsN_length, Int.toNat_natCast]
section
variable {prog : Program} {w : World} {A : Around} {E : Value → Shared → Prop} {s : Shared} {h₀ : Heap} {L : Addr} {m : Str → Option Value} {news : List (Addr × Obj)} {Q : Value → Shared → Prop}
theorem rev_sliceK0 {value slice : PySem.Expr} {x : Str} {t uk : Tok}
    (hF : Fr h₀ L s.heap m) (hN : News h₀ L s.heap news) (hsz : x.length ≤ 1000)
    (h : ∀ x' h' t' c, codes x' = (codes x).reverse → x'.length = x.length → Fr h₀ L h' m → News h₀ L h' news → Q (.str x' t') { s with heap := h', toks := c })
    (hs : subscripted slice false (.str x t) (.ref s.heap.objs.size) = operate [.ref s.heap.objs.size, .str x t] (getItem (.str x t) (.ref s.heap.objs.size)) := by with_unfolding_all rfl)
    (ht : ∀ r, letTemporaryGo value (.str x t) r = pure () := by intro _; with_unfolding_all rfl) :
    wpAny (model prog w) A (subscriptTail value slice (.str x t) (.ref s.heap.objs.size)) Q E { s with heap := s.heap.push { cls := .type "slice", data := .fields #[.none, .none, .int (-1) uk] } } :=
  slice_strK_nn hF hN (by decide) (fun h' t' c F N => h _ h' t' c (codes_rev x uk) (step_rev_len x uk) F N) hs ht (by rw [sizeLine_eq]; omega)
end
section
variable {w : World} {mean : ExcName → Option Value} {mg mb : Str → Option Value} {dp un : Nat} {gd : Option (List Code)} {A₀ : Around} {base g : Heap} {L : Addr} {m : Str → Option Value} {s : Shared} {Q : Flow → Shared → Prop} {E : Value → Shared → Prop}
  (B : Below A₀ base [] g) (X : (Mine.hd.heap_39 w.params).In g) (T : Top Mine.hd.view_39 [Str.ofString "Whitespace"] mean mg mb g) (hd : dp + 20 < recursionLimit) (hu : un + 8 * 20 < cLine)
include B X T hd hu

local macro_rules | `(tactic| walk_at "execs cons") => `(tactic| walk_at "mine r1")
local macro_rules | `(tactic| walk_at "call ref") => `(tactic| walk_at "mine r1")
local macro_rules | `(tactic| walk_at "subscriptTail Name Slice str ref") => `(tactic| walk_at "mine r1")
set_option maxHeartbeats 600000 in
theorem seg9 {o1 o2 o3 o4 o5 : Obj} {r nest : Str} {tr : Tok} {led : List (Addr × Obj)} {n mm ww le : Nat} {fl fa st sm de : Int} {t0 t1 t2 t3 tfl tfa tl2 tm tnn : Tok} (F : Fr g L s.heap m) (N : News g L s.heap (cells5 L o1 o2 o3 o4 o5 ++ led))
    (d1 : o1.data = .cell (some (.str r tr))) (hr : r.length ≤ 10) (hnest : nest.length ≤ 20) (hn : n ≤ 5) (hmm : mm ≤ 6)
    (H : Has m [("nest", .str nest t0), ("deep", .int de t1), ("small", .int sm t2), ("steep", .int st t3), ("flat", .int fl tfl), ("far", .int fa tfa), ("less", .int (le : Int) tl2), ("m", .int ((1 + mm : Nat) : Int) tm), ("n", .int (n : Int) tnn)])
    (e1 : levL (codes r) (pairsN (1 + mm)) fl = fl) (e2 : levL (codes nest) (codes r) st = st) (e3 : levL (lettersN (codes r)) (lettersN (codes nest)) sm = sm) (e4 : levL (codes r) (codes nest).reverse de = de)
    (e5 : levL (codes r) (codes nest).reverse (le : Int) = le + 1) (e6 : levL (pairsN (1 + mm)) (pairsN n) (le : Int) = 4 * fa)
    (next : ∀ h' tk m' D its k, Fr g L h' m' → News g L h' ((D, listOf its k) :: (cells5 L o1 o2 o3 o4 o5 ++ led)) → Has m' [("told", .ref D), ("deep", .int de t1), ("small", .int sm t2), ("steep", .int st t3), ("flat", .int fl tfl), ("far", .int fa tfa), ("less", .int (le : Int) tl2)] →
      IntsAre its.toList [fl, st, sm, de, le + 1, 4 * fa] →
      wpAny (model PySem.Challenge.pw_sc0089_01 w) (lawA dp un gd L) (execs ((bodyAt 18).drop 19) (lawEnv L)) Q E { s with heap := h', toks := tk }) :
    wpAny (model PySem.Challenge.pw_sc0089_01 w) (lawA dp un gd L) (execs ((bodyAt 18).drop 18) (lawEnv L)) Q E s := by
  replace F := H.fr F
  dsimp only [kstB] at F
  dsimp only [cells5, List.cons_append, List.nil_append] at N
  conv in (List.drop 18 _) => whnf
  have hl1 := mul_pairs_len (1 + mm)
  have hl2 := mul_pairs_len n
  rw [execs_cons]
  refine wpAny_bind ?_
  walk_at "mine steps"
  unfold Held
  have c1 : codes (Txt.mul "()" ((1 + mm : Nat) : Int)) = pairsN (1 + mm) := by rw [mul_pairs, Int.toNat_natCast]
  have c2 : codes (Txt.mul "()" (n : Int)) = pairsN n := by rw [mul_pairs, Int.toNat_natCast]
  have q1 : lev r (Txt.mul "()" ((1 + mm : Nat) : Int)) fl = fl := by unfold lev; rw [c1]; exact e1
  have q2 : lev nest r st = st := e2
  have q6 : lev (Txt.mul "()" ((1 + mm : Nat) : Int)) (Txt.mul "()" (n : Int)) (le : Int) = 4 * fa := by unfold lev; rw [c1, c2]; exact e6
  refine ext_use (lev_ext w mean mg mb _ _ _ _ _ _) B F N X T rfl ⟨by omega, by omega⟩ (by omega) (by omega) ?_
  clear F N
  rintro v9 h9 tk9 F9 N9 - ⟨t9, rfl⟩
  rw [q1]
  walk_at "mine steps"
  unfold Held
  refine ext_use (lev_ext w mean mg mb _ _ _ _ _ _) B F9 N9 X T rfl ⟨by omega, by omega⟩ (by omega) (by omega) ?_
  clear F9 N9
  rintro v9 h9 tk9 F9 N9 - ⟨t9, rfl⟩
  rw [q2]
  walk_at "mine steps"
  unfold Held
  refine ext_use (let_ext w mean mg mb _ _) B F9 N9 X T rfl (by omega) (by omega) (by omega) ?_
  clear F9 N9
  rintro v9 h9 tk9 F9 N9 - ⟨y1, t91, rfl, hy1⟩
  walk_at "mine steps"
  unfold Held
  refine ext_use (let_ext w mean mg mb _ _) B F9 N9 X T rfl (by omega) (by omega) (by omega) ?_
  clear F9 N9
  rintro v9 h9 tk9 F9 N9 - ⟨y2, t92, rfl, hy2⟩
  have ly1 : y1.length = r.length := by rw [← codes_length, hy1, List.length_map, codes_length]
  have ly2 : y2.length = nest.length := by rw [← codes_length, hy2, List.length_map, codes_length]
  have q3 : lev y1 y2 sm = sm := by unfold lev; rw [hy1, hy2]; exact e3
  walk_at "mine steps"
  unfold Held
  refine ext_use (lev_ext w mean mg mb _ _ _ _ _ _) B F9 N9 X T rfl ⟨by omega, by omega⟩ (by omega) (by omega) ?_
  clear F9 N9
  rintro v9 h9 tk9 F9 N9 - ⟨t9, rfl⟩
  rw [q3]
  walk_at "mine steps"
  unfold Held
  refine rev_sliceK0 (s := ⟨h9, s.gens, s.drawn, _, s.os⟩) (x := nest) (t := t0) F9 N9 (by omega) ?_ (by with_unfolding_all rfl) (by intro _; with_unfolding_all rfl)
  clear F9 N9
  intro x4 h9 t94 c4 hx4 lx4 F9 N9
  have q4 : lev r x4 de = de := by unfold lev; rw [hx4]; exact e4
  walk_at "mine steps"
  unfold Held
  refine ext_use (lev_ext w mean mg mb _ _ _ _ _ _) B F9 N9 X T rfl ⟨by omega, by omega⟩ (by omega) (by omega) ?_
  clear F9 N9
  rintro v9 h9 tk9 F9 N9 - ⟨t9, rfl⟩
  rw [q4]
  walk_at "mine steps"
  unfold Held
  refine rev_sliceK0 (s := ⟨h9, s.gens, s.drawn, _, s.os⟩) (x := nest) (t := t0) F9 N9 (by omega) ?_ (by with_unfolding_all rfl) (by intro _; with_unfolding_all rfl)
  clear F9 N9
  intro x5 h9 t95 c5 hx5 lx5 F9 N9
  have q5 : lev r x5 (le : Int) = le + 1 := by unfold lev; rw [hx5]; exact e5
  walk_at "mine steps"
  unfold Held
  refine ext_use (lev_ext w mean mg mb _ _ _ _ _ _) B F9 N9 X T rfl ⟨by omega, by omega⟩ (by omega) (by omega) ?_
  clear F9 N9
  rintro v9 h9 tk9 F9 N9 - ⟨t9, rfl⟩
  rw [q5]
  walk_at "mine steps"
  unfold Held
  refine ext_use (lev_ext w mean mg mb _ _ _ _ _ _) B F9 N9 X T rfl ⟨by omega, by omega⟩ (by omega) (by omega) ?_
  clear F9 N9
  rintro v9 h9 tk9 F9 N9 - ⟨t9, rfl⟩
  rw [q6]
  walk_at "mine steps"
  unfold Held
  rename Fr _ _ _ _ => F10
  rename News _ _ _ _ => N10
  exact next _ _ _ _ _ _ F10 N10 (by walk_at "mine has") (.cons _ _ (.cons _ _ (.cons _ _ (.cons _ _ (.cons _ _ (.cons _ _ .nil))))))
end
end

end
local macro_rules | `(tactic| walk_at "mine pad") => `(tactic| skip)
local macro_rules | `(tactic| walk_at "mine pad") => `(tactic| skip)
theorem startL12 : True := by
  w_top off
  exact trivial
section
set_option maxRecDepth 100000
section
theorem fillL12 : PySem.Challenge.rw_sc0089_01 = PySem.Challenge.rw_sc0089_01 ∧ Mine.hd.heap_39 = Mine.hd.heap_39 := by
  k_fill
  exact ⟨rfl, rfl⟩

theorem eq_ints {prog : Program} {w : World} {A : Around} {E : Value → Shared → Prop} {s : Shared} {h₀ : Heap} {L a b : Addr} {news : List (Addr × Obj)} {Q : Value → Shared → Prop} {its its2 : Array Value} {k j : Nat} {ks : List Int}
    (N : News h₀ L s.heap news) (h1 : (a, listOf its k) ∈ news) (h2 : (b, listOf its2 j) ∈ news) (hI : IntsAre its.toList ks) (hI2 : IntsAre its2.toList ks) (hu : A.units + 64 < cLine)
    (h : Q (.bool true) s) : wpAny (model prog w) A (compareOp .Eq (.ref a) (.ref b)) Q E s := by
  have r1 := reads_list_at (N.get h1) rfl rfl ((ke_carried hI).reads _)
  have r2 := reads_list_at (N.get h2) rfl rfl ((ke_carried hI2).reads _)
  have sh : SeqAt.shaped (.list (ks.map PyData.int)) = true := by
    simp [SeqAt.shaped, PyData.canLay0, PyData.depth, ke_canLayAll0, ke_depthAll]
  refine eq_dataH r1 r2 sh sh hu ?_
  simp only [PyData.eqv, ked_eqvAll, decide_true]
  exact h
theorem carried_const {α : Type} : ∀ (l : List α) (b : Bool), PyData.canLayAll0 (l.map fun _ => PyData.bool b) = true ∧ PyData.depthAll (l.map fun _ => PyData.bool b) = 0
  | [], _ => by simp [PyData.canLayAll0, PyData.depthAll]
  | _ :: r, b => by simp [PyData.canLayAll0, PyData.canLay0, PyData.depthAll, PyData.depth, carried_const r b]
theorem count_const {α : Type} : ∀ (l : List α), Spec.countIn (.bool true) (l.map fun _ => PyData.bool false) = 0
  | [] => rfl
  | _ :: r => by
    have : Spec.same (.bool false) (.bool true) = false := by decide +kernel
    simp [Spec.countIn, count_const r, this]
theorem notIn_false {α : Type} {prog : Program} {w : World} {A : Around} {E : Value → Shared → Prop} {s : Shared} {h₀ : Heap} {L a : Addr} {news : List (Addr × Obj)} {Q : Value → Shared → Prop} {ys : List Value} {k : Nat} (l : List α)
    (N : News h₀ L s.heap news) (h1 : (a, listOf ys.toArray k) ∈ news) (hc : CarriedAll ys (l.map fun _ => PyData.bool false)) (hu : A.units + 65 < cLine)
    (h : Q (.bool true) s) : wpAny (model prog w) A (compareOp .NotIn (.bool true) (.ref a)) Q E s := by
  have r1 := reads_list_at (N.get h1) rfl rfl (hc.reads _)
  have sh : SeqAt.shaped (.list (l.map fun _ => PyData.bool false)) = true := by
    simp [SeqAt.shaped, PyData.canLay0, PyData.depth, carried_const l]
  refine notIn_list_dataH r1 (Reads.bool true) sh (by decide +kernel) hu (fun y hy => ?_) ?_
  · obtain ⟨_, _, rfl⟩ := List.mem_map.mp hy
    decide +kernel
  · rw [count_const]
    exact h
section
variable {w : World} {mean : ExcName → Option Value} {mg mb : Str → Option Value} {dp un : Nat} {gd : Option (List Code)} {A₀ : Around} {base g : Heap} {L : Addr} {m : Str → Option Value} {s : Shared} {Q : Flow → Shared → Prop} {E : Value → Shared → Prop}
  (B : Below A₀ base [] g) (X : (Mine.hd.heap_39 w.params).In g) (T : Top Mine.hd.view_39 [Str.ofString "Whitespace"] mean mg mb g) (hd : dp + 20 < recursionLimit) (hu : un + 8 * 20 < cLine)
include B X T hd hu

local macro_rules | `(tactic| walk_at "eval ListComp") => `(tactic| walk_at "mine r1")
local macro_rules | `(tactic| walk_at "compareOp NotIn bool ref") => `(tactic| walk_at "mine r1")
local macro_rules | `(tactic| walk_at "compareOp Eq ref ref") => `(tactic| walk_at "mine r1")
set_option maxHeartbeats 600000 in
theorem seg10 {o1 o2 o3 o4 o5 : Obj} {led : List (Addr × Obj)} {D : Addr} {its : Array Value} {k le : Nat} {fl fa st sm de : Int} {t1 t2 t3 tfl tfa tl2 : Tok} (F : Fr g L s.heap m) (N : News g L s.heap ((D, listOf its k) :: (cells5 L o1 o2 o3 o4 o5 ++ led)))
    (H : Has m [("told", .ref D), ("deep", .int de t1), ("small", .int sm t2), ("steep", .int st t3), ("flat", .int fl tfl), ("far", .int fa tfa), ("less", .int (le : Int) tl2)])
    (hI : IntsAre its.toList [fl, st, sm, de, le + 1, 4 * fa]) (hle : le ≤ 100) (hfa : 0 ≤ fa ∧ fa ≤ 100)
    (done : ∀ h' tk, g.StaysIn h' → Q (.ret (.bool true)) { s with heap := h', toks := tk }) :
    wpAny (model PySem.Challenge.pw_sc0089_01 w) (lawA dp un gd L) (execs ((bodyAt 18).drop 19) (lawEnv L)) Q E s := by
  replace F := H.fr F
  dsimp only [kstB] at F
  dsimp only [cells5, List.cons_append, List.nil_append] at N
  conv in (List.drop 19 _) => whnf
  walk_at "mine steps"
  unfold Held
  rename News _ _ _ _ => N9
  refine eq_ints N9 (.tail _ (.head _)) (.head _) hI (.cons _ _ (.cons _ _ (.cons _ _ (.cons _ _ (.cons _ _ (.cons _ _ .nil)))))) (by show un + 64 < cLine; omega) ?_
  walk_at "mine steps"
  unfold Held
  rename Fr _ _ _ _ => F9
  refine compL (K := .int) [fl, st, sm, de, le + 1, 4 * fa] (fun _ => .bool false) D F9 N9 (News.isList N9 (.tail _ (.head _))) hI.areOf (by simp) ?_ ?_ ?_ rfl rfl (by decide) rfl (by decide) rfl (fun _ => rfl)
  · walk_at "mine steps"
  · rintro C a v s₂ m₂ E' hC ha ⟨t, rfl⟩ hns hv F2 N2
    walk_at "mine steps"
    · exact .bool _
    · exact ⟨_, _, rfl, fun _ _ e => e⟩
  · intro D2 ys k2 h2 tk2 F2 N2 hne hc
    walk_at "mine steps"
    unfold Held
    refine notIn_false _ N2 (.head _) hc (by show un + 65 < cLine; omega) ?_
    exact done _ _ F2.keep
end
end

end
local macro_rules | `(tactic| walk_at "mine pad") => `(tactic| skip)
local macro_rules | `(tactic| walk_at "mine pad") => `(tactic| skip)
theorem startL13 : True := by
  w_top off
  exact trivial
section
set_option maxRecDepth 100000
section
theorem fillL13 : PySem.Challenge.rw_sc0089_01 = PySem.Challenge.rw_sc0089_01 ∧ Mine.hd.heap_39 = Mine.hd.heap_39 := by
  k_fill
  exact ⟨rfl, rfl⟩

/-! plain: what is asked of a row -/
def leadN (r : List Nat) : Nat × Nat × Nat × List Int := wsGo (leadT r) 0 0 0 []
def mirN (r : List Nat) : Nat × Nat × Nat × List Int := wsGo (mirT r) 0 0 0 []
def flatOf (n mm : Nat) (r : List Nat) : Int := max (4 * (farOf n mm : Int)) (max (2 * (farOf n mm : Int) + 2 * (leadN r).2.2.2.getD 0 0) (ilOf (leadN r).2.2.2 0 (leadN r).2.1 + ilOf (mirN r).2.2.2 0 (mirN r).2.1 - 4 * (n : Int)))
def hvOf (n ww : Nat) (r : List Nat) : List Int := (List.range (2 * ww + 1)).map fun j => hgt r (n - ww + j)
def nestN (k : Nat) : List Nat := List.replicate k 40 ++ List.replicate k 41
def ksOK (W : Nat × Nat × Nat × List Int) : Prop := W.2.2.1 = 0 ∧ 0 < W.2.2.2.length ∧ W.2.2.2.length ≤ 100 ∧ (∀ c ∈ W.2.2.2, 0 ≤ c ∧ c ≤ 1000) ∧ W.2.1 ≤ 1000 ∧ ∀ i, 0 ≤ ilPart W.2.2.2 i ∧ ilPart W.2.2.2 i ≤ 100000
def splOK (c : Nat) (r : List Nat) (ks : List Int) : Prop := normN ((splitC c r).dropLast.map List.length) = ks ∧ (splitC c r).length ≤ 11 ∧ 2 ≤ (splitC c r).length
structure PlainOK (n mm ww le : Nat) (r : List Nat) : Prop where
  len : r.length = 2 * n
  alph : ∀ c ∈ r, c = 40 ∨ c = 41
  lek : ksOK (leadN r)
  mik : ksOK (mirN r)
  ls : splOK 41 r (leadN r).2.2.2
  ms : splOK 40 r.reverse (mirN r).2.2.2
  place : ∀ i, i < 2 * ww + 1 → okPlace r n (n - ww + i) = true
  e1 : levL r (pairsN (1 + mm)) (flatOf n mm r) = flatOf n mm r
  e2 : levL (nestN (n + ww)) r (4 * (ww : Int) + 2 * ((n : Int) - hmax (hvOf n ww r))) = 4 * (ww : Int) + 2 * ((n : Int) - hmax (hvOf n ww r))
  e3 : levL (lettersN r) (lettersN (nestN (n + ww))) (4 * (ww : Int) + (n : Int) - hmax (hvOf n ww r)) = 4 * (ww : Int) + (n : Int) - hmax (hvOf n ww r)
  e4 : levL r (nestN (n + ww)).reverse (4 * (ww : Int) + 2 * ((n : Int) + hmin (hvOf n ww r))) = 4 * (ww : Int) + 2 * ((n : Int) + hmin (hvOf n ww r))
  e5 : levL r (nestN (n + ww)).reverse (le : Int) = le + 1
  e6 : levL (pairsN (1 + mm)) (pairsN n) (le : Int) = 4 * (farOf n mm : Int)
theorem hgt_bound (r : List Nat) (p : Nat) (hr : r.length ≤ 10) (hp : p ≤ 20) : -100 ≤ hgt r p ∧ hgt r p ≤ 100 := by
  unfold hgt
  have h1 : (r.take p).count 40 ≤ (r.take p).length := List.count_le_length
  rw [List.length_take] at h1
  omega
theorem hvOf_length (n ww : Nat) (r : List Nat) : (hvOf n ww r).length = 2 * ww + 1 := by simp [hvOf]
theorem farOf_le (n mm : Nat) (h1 : n ≤ 5) (h2 : mm ≤ 6) : farOf n mm ≤ 100 := by unfold farOf; omega
theorem Has.over {m m' : Str → Option Value} : ∀ {ps : List (Str × Value)}, Has m ps → (∀ p ∈ ps, m' p.1 = m p.1) → Has m' ps
  | [], _, _ => trivial
  | p :: _, H, h => ⟨(h p (.head _)).trans H.1, Has.over H.2 fun q hq => h q (.tail _ hq)⟩
section
variable {w : World} {mean : ExcName → Option Value} {mg mb : Str → Option Value} {dp un : Nat} {gd : Option (List Code)} {A₀ : Around} {base g : Heap} {L : Addr} {m : Str → Option Value} {s : Shared} {Q : Flow → Shared → Prop} {E : Value → Shared → Prop}
  (B : Below A₀ base [] g) (X : (Mine.hd.heap_39 w.params).In g) (T : Top Mine.hd.view_39 [Str.ofString "Whitespace"] mean mg mb g) (hd : dp + 20 < recursionLimit) (hu : un + 8 * 20 < cLine)
include B X T hd hu

set_option maxHeartbeats 600000 in
theorem law_run {o1 o2 o3 o4 o5 : Obj} {v1 v2 v3 v4 v5 : Option Value} {l : Addr} {vs : List Value} {ns : List Int} (F : Fr g L s.heap m) (N : News g L s.heap (cells5 L o1 o2 o3 o4 o5)) (H : Has m [("script", .ref l)])
    (d1 : o1.data = .cell v1) (d2 : o2.data = .cell v2) (d3 : o3.data = .cell v3) (d4 : o4.data = .cell v4) (d5 : o5.data = .cell v5)
    (hl : g.IsList l vs.toArray) (hI : IntsAre vs ns) (hlen : ns.length ≤ 10000000) (hb : AllBare s.gens)
    (plain : ∀ x mm ww le : Nat, x < 3072 → mm < 3 + x / 1024 + 2 → ww < 3 → le < 2 * (3 + x / 1024) + 4 * ww → PlainOK (3 + x / 1024) mm ww le (rowPart (3 + x / 1024) (x % 1024) (2 * (3 + x / 1024))))
    (done : ∀ h' tk gens', AllBare gens' → g.StaysIn h' → Q (.ret (.bool true)) { s with heap := h', toks := tk, gens := gens' }) :
    wpAny (model PySem.Challenge.pw_sc0089_01 w) (lawA dp un gd L) (execs (bodyAt 18) (lawEnv L)) Q E s := by
  refine seg0 B X T hd hu F N H hl hI hlen ?_
  intro D h1 tk1 its1 k1 ks1 F1 N1 hI1 hk1
  refine seg1 (s := ⟨h1, s.gens, s.drawn, tk1, s.os⟩) B X T hd hu F1 N1 (by walk_at "mine has") hI1 hk1 ?_
  intro h2 tk2 m2 x mm ww le t1 t2 t3 t4 t5 h02 hx hm hw hle F2 H2 N2
  have P := plain x mm ww le hx hm hw hle
  clear F1 N1 F N H plain
  refine seg2 (s := ⟨h2, s.gens, s.drawn, tk2, s.os⟩) B X T hd hu F2 N2 d1 hx h02 H2 ?_
  intro h3 tk3 o1' r t h03 hr d1' F3 N3
  clear F2 N2
  rw [← hr] at P
  have hn : 3 + x / 1024 ≤ 5 := by omega
  have hn3 : 3 ≤ 3 + x / 1024 := by omega
  generalize 3 + x / 1024 = n at *
  have hrl : r.length = 2 * n := P.len
  refine seg3 (s := ⟨h3, s.gens, s.drawn, tk3, s.os⟩) (led := []) B X T hd hu F3 (by rw [List.append_nil]; exact N3) d1' (by omega) h03 (fun _ h => nomatch h) ?_
  intro h4 tk4 XO dx TN TC its na nt b ks sm tb tn tnt k11 k12 k13 k14 k15 x4 t4 h04 hc4 hgo4 hI4 hks4 hb4 F4 N4 hl4
  have H4 := H2.push (x := "lead") (v := .ref XO) (by rfl)
  clear F3 N3
  refine seg4 (s := ⟨h4, s.gens, s.drawn, tk4, s.os⟩) B X T hd hu F4 N4 d1' (by omega) h04 hl4 ?_
  intro h5 tk5 XO' dx' TN' TC' its' na' nt' b' ks' sm' tb' tn' tnt' k21 k22 k23 k24 k25 x5 t5 h05 hc5 hgo5 hI5 hks5 hb5 F5 N5 hl5
  have H5 := H4.push (x := "mirror") (v := .ref XO') (by rfl)
  clear F4 N4
  rw [hc4] at hgo4
  rw [hc5] at hgo5
  have hW : leadN (codes r) = (na, nt, b, ks) := hgo4
  have hW' : mirN (codes r) = (na', nt', b', ks') := hgo5
  have lk := P.lek
  have mk := P.mik
  have ls := P.ls
  have ms := P.ms
  rw [hW] at lk ls
  rw [hW'] at mk ms
  obtain ⟨lb, l0, l1, l2, l3, l4⟩ := lk
  obtain ⟨mb', m0, m1, m2', m3, m4⟩ := mk
  dsimp only at lb l0 l1 l2 l3 l4 mb' m0 m1 m2' m3 m4 ls ms
  subst lb
  subst mb'
  refine seg5 (s := ⟨h5, s.gens, s.drawn, tk5, s.os⟩) B X T hd hu F5 N5 d1' (by omega) h05 hl5 (by walk_at "mine has") (.tail _ (.tail _ (.tail _ (.tail _ (.head _))))) (.tail _ (.tail _ (.tail _ (.tail _ (.tail _ (.head _)))))) (.tail _ (.tail _ (.tail _ (.tail _ (.tail _ (.tail _ (.head _))))))) (.tail _ (.tail _ (.tail _ (.tail _ (.tail _ (.tail _ (.tail _ (.head _))))))))
    (.head _) (.tail _ (.head _)) (.tail _ (.tail _ (.head _))) (.tail _ (.tail _ (.tail _ (.head _)))) hI4 (by omega) ls.1 ls.2 rfl ms.1 ms.2 rfl ?_ hI5
  intro h6 tk6 h06 F6 N6
  clear F5 N5
  refine seg6 (s := ⟨h6, s.gens, s.drawn, tk6, s.os⟩) B X T hd hu F6 N6 d1' d2 d3 d4 d5 ⟨H5.2.2.2.1, H5.2.2.2.2.2.1, trivial⟩ hrl P.alph hn (by omega) hl5 P.place hb ?_
  intro h7 tk7 gens7 m7 p2 p3 p4 p5 w2 w3 w4 w5 D7 its7 k7 hb7 F7 hm7 hh7 N7 hD7 e2 e3 e4 e5 hI7
  clear F6 N6
  have H7 : Has m7 _ := Has.over H5 fun p hp => hm7 p.1 (by
    intro e
    simp only [List.mem_cons, List.not_mem_nil, or_false] at hp
    rcases hp with rfl | rfl | rfl | rfl | rfl | rfl | rfl <;> exact absurd e (by dsimp only; decide))
  obtain ⟨a1, a2, a3, a4, a5, a6, a7, _⟩ := H7
  have hfar := farOf_le n mm hn (by omega)
  have hhl := hvOf_length n ww (codes r)
  refine seg7 (s := ⟨h7, gens7, s.drawn, tk7, s.os⟩) (hv := hvOf n ww (codes r)) B X T hd hu F7 N7 ⟨a3, hh7, a1, a2, a4, a5, a6, trivial⟩ (.tail _ (.tail _ (.tail _ (.tail _ (.head _))))) (.tail _ (.tail _ (.tail _ (.tail _ (.tail _ (.head _)))))) (.tail _ (.tail _ (.tail _ (.tail _ (.tail _ (.tail _ (.head _))))))) (.tail _ (.tail _ (.tail _ (.tail _ (.tail _ (.tail _ (.tail _ (.head _))))))))
    (.head _) (.tail _ (.head _)) (.tail _ (.tail _ (.head _))) (.tail _ (.tail _ (.tail _ (.head _)))) hI4 hI5 hI7 (by omega) (by omega) l0 l1 l2 l3 l4 m1 m2' m3 m4 hn (by omega) (by omega) ?_
  intro h8 tk8 m8 t81 t82 F8 N8 H8
  clear F7 N7
  have efl : max (4 * (farOf n mm : Int)) (max (2 * (farOf n mm : Int) + 2 * ks.getD 0 0) (ilOf ks 0 nt + ilOf ks' 0 nt' - 4 * (n : Int))) = flatOf n mm (codes r) := by
    unfold flatOf
    rw [hW, hW']
  rw [efl] at H8
  refine seg8 (s := ⟨h8, gens7, s.drawn, tk8, s.os⟩) (hv := hvOf n ww (codes r)) B X T hd hu F8 N8 ⟨H8.1, H8.2.1, H8.2.2.1, H8.2.2.2.1, H8.2.2.2.2.1, H8.2.2.2.2.2.1, H8.2.2.2.2.2.2.1, trivial⟩ hI7 (by omega) (fun a ha => ?_) hn (by omega) ?_
  · obtain ⟨j, hj, rfl⟩ := List.mem_map.mp ha
    have hj' := List.mem_range.mp hj
    exact hgt_bound _ _ (by rw [codes_length]; omega) (by omega)
  intro h9 tk9 m9 nest t90 t91 t92 t93 hnest F9 N9 H9
  clear F8 N8
  have hnl : nest.length = 2 * (n + ww) := by
    rw [← codes_length, hnest, List.length_append, List.length_replicate, List.length_replicate]
    omega
  refine seg9 (s := ⟨h9, gens7, s.drawn, tk9, s.os⟩) (n := n) (mm := mm) (ww := ww) B X T hd hu F9 N9 d1' (by omega) (by omega) hn (by omega) H9 P.e1 (by rw [hnest]; exact P.e2) (by rw [hnest]; exact P.e3) (by rw [hnest]; exact P.e4) (by rw [hnest]; exact P.e5) P.e6 ?_
  intro h10 tk10 m10 D10 its10 k10 F10 N10 H10 hI10
  clear F9 N9
  exact seg10 (s := ⟨h10, gens7, s.drawn, tk10, s.os⟩) B X T hd hu F10 N10 H10 hI10 (by omega) ⟨by omega, by omega⟩ fun h' tk hst => done h' tk gens7 hb7 hst
end
end

end
section
set_option maxRecDepth 100000
section
/-! plain: the distance without its bound: the greatest least of the table's rows, and its last value -/
def cst (y x : Nat) : Nat := bif Nat.beq y x then 0 else bif (Nat.beq y 97 || Nat.beq y 65) && (Nat.beq x 97 || Nat.beq x 65) then 1 else 2
def alph4 (c : Nat) : Bool := Nat.beq c 40 || Nat.beq c 41 || Nat.beq c 65 || Nat.beq c 97
def nmin (a b : Nat) : Nat := bif Nat.ble a b then a else b
def nmax (a b : Nat) : Nat := bif Nat.ble a b then b else a
def nInner (y : Nat) : List Nat → List Nat → Nat → Nat → Nat → Nat × Nat × List Nat
  | x :: xs, o :: os, d, r, mn =>
    let r' := nmin (nmin r o + 2) (d + cst y x)
    let res := nInner y xs os o r' (nmin r' mn)
    (res.1, res.2.1, r' :: res.2.2)
  | _, _, _, r, mn => (r, mn, [])
def nGo (la : List Nat) : List Nat → Nat → Nat → List Nat → Nat → Nat × Nat
  | [], _, r, _, M => (M, r)
  | y :: ys, j, _, row, M =>
    let s := nInner y la row (j * 2) (j * 2) 9223372036854775807
    nGo la ys (j + 1) s.1 s.2.2 (nmax M s.2.1)
def row0N (n : Nat) : List Nat := (List.range n).map fun i => 2 * i + 2
def nMain (la lb : List Nat) : Nat × Nat := nGo la lb 0 0 (row0N la.length) ((lb.length - la.length) * 2)
def levBothN (p : List Nat × List Nat) : Nat × Nat :=
  if p.1 = [] ∨ p.2 = [] then (0, 2 * (p.1.length + p.2.length)) else if p.2.length < p.1.length then nMain p.2 p.1 else nMain p.1 p.2
def levSum (la lb : List Nat) : Nat × Nat :=
  if la = lb then (0, 0) else levBothN (stripPost (stripPre la lb).1 (stripPre la lb).2)

theorem nmin_eq (a b : Nat) : nmin a b = min a b := by
  unfold nmin
  cases h : Nat.ble a b
  · have : ¬ a ≤ b := fun e => by rw [Nat.ble_eq_true_of_le e] at h; cases h
    simp; omega
  · have := Nat.le_of_ble_eq_true h
    simp; omega
theorem nmax_eq (a b : Nat) : nmax a b = max a b := by
  unfold nmax
  cases h : Nat.ble a b
  · have : ¬ a ≤ b := fun e => by rw [Nat.ble_eq_true_of_le e] at h; cases h
    simp; omega
  · have := Nat.le_of_ble_eq_true h
    simp; omega
theorem cost_all : ∀ y ∈ [40, 41, 65, 97], ∀ x ∈ [40, 41, 65, 97], cost y x = ((cst y x : Nat) : Int) := by decide +kernel
theorem alph4_mem {c : Nat} (h : alph4 c = true) : c ∈ [40, 41, 65, 97] := by
  simp only [alph4, Bool.or_eq_true] at h
  simp only [List.mem_cons, List.not_mem_nil, or_false]
  rcases h with ((h | h) | h) | h
  · exact .inl (Nat.eq_of_beq_eq_true h)
  · exact .inr (.inl (Nat.eq_of_beq_eq_true h))
  · exact .inr (.inr (.inl (Nat.eq_of_beq_eq_true h)))
  · exact .inr (.inr (.inr (Nat.eq_of_beq_eq_true h)))
theorem cost_cst {y x : Nat} (hy : alph4 y = true) (hx : alph4 x = true) : cost y x = ((cst y x : Nat) : Int) := cost_all y (alph4_mem hy) x (alph4_mem hx)
theorem inner_N (y : Nat) (hy : alph4 y = true) : ∀ (xs os : List Nat) (d r mn : Nat), (∀ x ∈ xs, alph4 x = true) →
    innerGo y xs (os.map fun n => ((n : Nat) : Int)) d r mn = (((nInner y xs os d r mn).1 : Int), ((nInner y xs os d r mn).2.1 : Int), (nInner y xs os d r mn).2.2.map fun n => ((n : Nat) : Int))
  | [], os, d, r, mn, _ => by cases os <;> rfl
  | x :: xs, [], d, r, mn, _ => rfl
  | x :: xs, o :: os, d, r, mn, h => by
    have hx := cost_cst hy (h x (List.mem_cons_self ..))
    have e : min (min (r : Int) (o : Int) + 2) ((d : Int) + cost y x) = ((nmin (nmin r o + 2) (d + cst y x) : Nat) : Int) := by
      rw [hx, nmin_eq, nmin_eq]
      omega
    have e2 : (if ((nmin (nmin r o + 2) (d + cst y x) : Nat) : Int) < (mn : Int) then ((nmin (nmin r o + 2) (d + cst y x) : Nat) : Int) else (mn : Int)) = ((nmin (nmin (nmin r o + 2) (d + cst y x)) mn : Nat) : Int) := by
      rw [nmin_eq _ mn]
      generalize nmin (nmin r o + 2) (d + cst y x) = q
      split <;> omega
    simp only [List.map_cons, innerGo, nInner]
    rw [e, e2, inner_N y hy xs os o _ _ fun z hz => h z (List.mem_cons_of_mem _ hz)]
theorem nGo_ge (la : List Nat) : ∀ (lb : List Nat) (j r : Nat) (row : List Nat) (M : Nat), M ≤ (nGo la lb j r row M).1
  | [], _, _, _, _ => Nat.le_refl _
  | y :: ys, j, r, row, M => by
    simp only [nGo]
    refine Nat.le_trans ?_ (nGo_ge la ys (j + 1) _ _ _)
    rw [nmax_eq]
    exact Nat.le_max_left _ _
theorem go_N (la : List Nat) (hla : ∀ x ∈ la, alph4 x = true) (c : Int) : ∀ (lb : List Nat) (j r : Nat) (row : List Nat) (M : Nat), (∀ x ∈ lb, alph4 x = true) → (M : Int) ≤ c →
    levGo la c lb j r (row.map fun n => ((n : Nat) : Int)) = if ((nGo la lb j r row M).1 : Int) > c then c + 1 else ((nGo la lb j r row M).2 : Int)
  | [], j, r, row, M, _, hM => by
    show (r : Int) = if ((M : Nat) : Int) > c then c + 1 else (r : Int)
    rw [if_neg (by omega)]
  | y :: ys, j, r, row, M, h, hM => by
    have e := inner_N y (h y (List.mem_cons_self ..)) la row (j * 2) (j * 2) 9223372036854775807 hla
    have en : nGo la (y :: ys) j r row M = nGo la ys (j + 1) (nInner y la row (j * 2) (j * 2) 9223372036854775807).1 (nInner y la row (j * 2) (j * 2) 9223372036854775807).2.2 (nmax M (nInner y la row (j * 2) (j * 2) 9223372036854775807).2.1) := rfl
    have el : levGo la c (y :: ys) (j : Int) (r : Int) (row.map fun n => ((n : Nat) : Int)) = if (innerGo y la (row.map fun n => ((n : Nat) : Int)) ((j : Int) * 2) ((j : Int) * 2) 9223372036854775807).2.1 > c then c + 1 else levGo la c ys ((j : Int) + 1) (innerGo y la (row.map fun n => ((n : Nat) : Int)) ((j : Int) * 2) ((j : Int) * 2) 9223372036854775807).1 (innerGo y la (row.map fun n => ((n : Nat) : Int)) ((j : Int) * 2) ((j : Int) * 2) 9223372036854775807).2.2 := rfl
    rw [en, el, show ((j : Int) * 2) = (((j * 2 : Nat)) : Int) by omega, show (9223372036854775807 : Int) = ((9223372036854775807 : Nat) : Int) by rfl, e]
    clear e en el
    revert h
    generalize nInner y la row (j * 2) (j * 2) 9223372036854775807 = s
    intro h
    by_cases hs : (s.2.1 : Int) > c
    · rw [if_pos hs]
      have := nGo_ge la ys (j + 1) s.1 s.2.2 (nmax M s.2.1)
      rw [nmax_eq] at this ⊢
      rw [if_pos (by omega)]
    · rw [if_neg hs]
      have := go_N la hla c ys (j + 1) s.1 s.2.2 (nmax M s.2.1) (fun z hz => h z (List.mem_cons_of_mem _ hz)) (by rw [nmax_eq]; omega)
      rw [← this]
      rfl
theorem row0_N (n : Nat) : row0 n = (row0N n).map fun n => ((n : Nat) : Int) := by
  unfold row0 row0N
  rw [List.map_map]
  exact List.map_congr_left fun i _ => by show 2 * (i : Int) + 2 = ((2 * i + 2 : Nat) : Int); omega
theorem main_N {la lb : List Nat} {c : Int} (ha : ∀ x ∈ la, alph4 x = true) (hb : ∀ x ∈ lb, alph4 x = true) (hl : la.length ≤ lb.length) :
    levMain la lb c = if ((nMain la lb).1 : Int) > c then c + 1 else ((nMain la lb).2 : Int) := by
  unfold levMain nMain
  by_cases h : ((lb.length : Int) - la.length) * 2 > c
  · rw [if_pos h]
    have := nGo_ge la lb 0 0 (row0N la.length) ((lb.length - la.length) * 2)
    rw [if_pos (by omega)]
  · rw [if_neg h, row0_N]
    exact go_N la ha c lb 0 0 (row0N la.length) ((lb.length - la.length) * 2) hb (by omega)
theorem pre_sub : ∀ (la lb : List Nat), (∀ x ∈ (stripPre la lb).1, x ∈ la) ∧ ∀ x ∈ (stripPre la lb).2, x ∈ lb
  | [], _ => ⟨fun _ h => h, fun _ h => h⟩
  | _ :: _, [] => ⟨fun _ h => h, fun _ h => h⟩
  | x :: xs, y :: ys => by
    have ih := pre_sub xs ys
    unfold stripPre
    split
    · exact ⟨fun z hz => List.mem_cons_of_mem _ (ih.1 z hz), fun z hz => List.mem_cons_of_mem _ (ih.2 z hz)⟩
    · exact ⟨fun _ h => h, fun _ h => h⟩
theorem post_sub (la lb : List Nat) : (∀ x ∈ (stripPost la lb).1, x ∈ la) ∧ ∀ x ∈ (stripPost la lb).2, x ∈ lb := by
  unfold stripPost
  have h := pre_sub la.reverse lb.reverse
  exact ⟨fun x hx => List.mem_reverse.mp (h.1 x (List.mem_reverse.mp hx)), fun x hx => List.mem_reverse.mp (h.2 x (List.mem_reverse.mp hx))⟩
theorem both_N {p : List Nat × List Nat} {c : Int} (hc : 0 ≤ c) (ha : ∀ x ∈ p.1, alph4 x = true) (hb : ∀ x ∈ p.2, alph4 x = true) :
    levBoth p c = if ((levBothN p).1 : Int) > c then c + 1 else ((levBothN p).2 : Int) := by
  unfold levBoth levBothN
  by_cases h : p.1 = [] ∨ p.2 = []
  · rw [if_pos h, if_pos h, if_neg (by show ¬ ((0 : Nat) : Int) > c; omega)]
    show _ = ((2 * (p.1.length + p.2.length) : Nat) : Int)
    omega
  · rw [if_neg h, if_neg h]
    unfold levSwap
    by_cases h2 : p.2.length < p.1.length
    · rw [if_pos h2, if_pos h2]
      exact main_N hb ha (by omega)
    · rw [if_neg h2, if_neg h2]
      exact main_N ha hb (by omega)
theorem lev_sum {la lb : List Nat} {c : Int} (hc : 0 ≤ c) (ha : ∀ x ∈ la, alph4 x = true) (hb : ∀ x ∈ lb, alph4 x = true) :
    levL la lb c = if ((levSum la lb).1 : Int) > c then c + 1 else ((levSum la lb).2 : Int) := by
  unfold levL levSum
  by_cases h : la = lb
  · rw [if_pos h, if_pos h, if_neg (by show ¬ ((0 : Nat) : Int) > c; omega)]
    rfl
  · rw [if_neg h, if_neg h]
    refine both_N hc (fun x hx => ?_) fun x hx => ?_
    · exact ha x ((pre_sub la lb).1 x ((post_sub _ _).1 x hx))
    · exact hb x ((pre_sub la lb).2 x ((post_sub _ _).2 x hx))

/-! plain: all the rows -/
def rowsAt (p : Nat) : Nat → List (List Nat)
  | 0 => [[]]
  | i + 1 => (rowsAt p i).flatMap fun r => if 2 * r.count 40 = i then [r ++ [40]] else if r.count 40 = p then [r ++ [41]] else [r ++ [40], r ++ [41]]
theorem rowPart_mem (p d : Nat) : ∀ i, rowPart p d i ∈ rowsAt p i
  | 0 => List.mem_singleton.mpr rfl
  | i + 1 => by
    rw [rowsAt, List.mem_flatMap]
    refine ⟨rowPart p d i, rowPart_mem p d i, ?_⟩
    rw [rowPart]
    by_cases h1 : 2 * (rowPart p d i).count 40 = i
    · rw [if_pos h1, if_pos h1]
      exact .head _
    · rw [if_neg h1, if_neg h1]
      by_cases h2 : (rowPart p d i).count 40 = p
      · rw [if_pos h2, if_pos h2]
        exact .head _
      · rw [if_neg h2, if_neg h2]
        by_cases h3 : d / 2 ^ i % 2 = 1
        · rw [if_pos h3]
          exact .head _
        · rw [if_neg h3]
          exact .tail _ (.head _)
end

end
section
set_option maxRecDepth 100000
section
/-! plain: the checks, row by row -/
def ksB (W : Nat × Nat × Nat × List Int) : Bool := Nat.beq W.2.2.1 0 && Nat.ble 1 W.2.2.2.length && Nat.ble W.2.2.2.length 12 && W.2.2.2.all (fun c => decide (0 ≤ c) && decide (c ≤ 20)) && Nat.ble W.2.1 1000
def splB (c : Nat) (r : List Nat) (ks : List Int) : Bool := decide (normN ((splitC c r).dropLast.map List.length) = ks) && Nat.ble (splitC c r).length 11 && Nat.ble 2 (splitC c r).length
def baseB (n : Nat) (r : List Nat) : Bool := Nat.beq r.length (2 * n) && r.all (fun c => Nat.beq c 40 || Nat.beq c 41) && ksB (leadN r) && ksB (mirN r) && splB 41 r (leadN r).2.2.2 && splB 40 r.reverse (mirN r).2.2.2
def placeB (n : Nat) (r : List Nat) : Bool := (List.range (2 * n + 1)).all (okPlace r n)
def okS (S : Nat × Nat) (v : Int) : Bool := decide ((S.1 : Int) ≤ v) && decide ((S.2 : Int) = v)
def lessB (S : Nat × Nat) (b : Nat) : Bool := (List.range b).all fun le => Nat.blt le S.1 || Nat.beq S.2 (le + 1)
def flatB (n : Nat) (r : List Nat) : Bool := (List.range (n + 2)).all fun mm => okS (levSum r (pairsN (1 + mm))) (flatOf n mm r)
def nestB (n ww : Nat) (r : List Nat) : Bool := okS (levSum (nestN (n + ww)) r) (4 * (ww : Int) + 2 * ((n : Int) - hmax (hvOf n ww r))) && okS (levSum (lettersN r) (lettersN (nestN (n + ww)))) (4 * (ww : Int) + (n : Int) - hmax (hvOf n ww r))
def deepB (n ww : Nat) (r : List Nat) : Bool := okS (levSum r (nestN (n + ww)).reverse) (4 * (ww : Int) + 2 * ((n : Int) + hmin (hvOf n ww r))) && lessB (levSum r (nestN (n + ww)).reverse) (2 * n + 4 * ww)
def pairsB (n : Nat) : Bool := (List.range (n + 2)).all fun mm => okS (levSum (pairsN (1 + mm)) (pairsN n)) (4 * (farOf n mm : Int)) && Nat.beq (levSum (pairsN (1 + mm)) (pairsN n)).1 0

theorem base3 : (rowsAt 3 6).all (baseB 3) = true := by decide +kernel
theorem base4 : (rowsAt 4 8).all (baseB 4) = true := by decide +kernel
theorem base5 : (rowsAt 5 10).all (baseB 5) = true := by decide +kernel
theorem place3 : (rowsAt 3 6).all (placeB 3) = true := by decide +kernel
theorem place4 : (rowsAt 4 8).all (placeB 4) = true := by decide +kernel
theorem place5 : (rowsAt 5 10).all (placeB 5) = true := by decide +kernel
theorem pairs3 : pairsB 3 = true := by decide +kernel
theorem pairs4 : pairsB 4 = true := by decide +kernel
theorem pairs5 : pairsB 5 = true := by decide +kernel
theorem flat3 : (rowsAt 3 6).all (flatB 3) = true := by decide +kernel
theorem nest30 : (rowsAt 3 6).all (nestB 3 0) = true := by decide +kernel
theorem deep30 : (rowsAt 3 6).all (deepB 3 0) = true := by decide +kernel
theorem nest31 : (rowsAt 3 6).all (nestB 3 1) = true := by decide +kernel
theorem deep31 : (rowsAt 3 6).all (deepB 3 1) = true := by decide +kernel
theorem nest32 : (rowsAt 3 6).all (nestB 3 2) = true := by decide +kernel
theorem deep32 : (rowsAt 3 6).all (deepB 3 2) = true := by decide +kernel
theorem flat4 : (rowsAt 4 8).all (flatB 4) = true := by decide +kernel
theorem nest40 : (rowsAt 4 8).all (nestB 4 0) = true := by decide +kernel
theorem deep40 : (rowsAt 4 8).all (deepB 4 0) = true := by decide +kernel
theorem nest41 : (rowsAt 4 8).all (nestB 4 1) = true := by decide +kernel
theorem deep41 : (rowsAt 4 8).all (deepB 4 1) = true := by decide +kernel
theorem nest42 : (rowsAt 4 8).all (nestB 4 2) = true := by decide +kernel
theorem deep42 : (rowsAt 4 8).all (deepB 4 2) = true := by decide +kernel
theorem flat5 : (rowsAt 5 10).all (flatB 5) = true := by decide +kernel
theorem nest50 : (rowsAt 5 10).all (nestB 5 0) = true := by decide +kernel
theorem deep50 : (rowsAt 5 10).all (deepB 5 0) = true := by decide +kernel
theorem nest51 : (rowsAt 5 10).all (nestB 5 1) = true := by decide +kernel
theorem deep51 : (rowsAt 5 10).all (deepB 5 1) = true := by decide +kernel
theorem nest52 : (rowsAt 5 10).all (nestB 5 2) = true := by decide +kernel
theorem deep52 : (rowsAt 5 10).all (deepB 5 2) = true := by decide +kernel
end

end
section
set_option maxRecDepth 100000
section
theorem ilPart_bound (ks : List Int) (hl : ks.length ≤ 12) (hb : ∀ c ∈ ks, 0 ≤ c ∧ c ≤ 20) : ∀ i, 0 ≤ ilPart ks i ∧ ilPart ks i ≤ 120 * (min i 10 : Nat)
  | 0 => ⟨Int.le_refl _, Int.le_refl _⟩
  | i + 1 => by
    obtain ⟨h0, h1⟩ := ilPart_bound ks hl hb i
    rw [ilPart]
    by_cases hi : i + 2 < ks.length
    · have hm : ks.getD (i + 2) 0 ∈ ks := by
        have e : ks.getD (i + 2) 0 = ks[i + 2] := by simp [hi]
        rw [e]
        exact List.getElem_mem hi
      obtain ⟨g0, g1⟩ := hb _ hm
      generalize ks.getD (i + 2) 0 = g at *
      have hq : (((i + 2) / 2 : Nat) : Int) ≤ 6 := by omega
      have hq0 : (0 : Int) ≤ (((i + 2) / 2 : Nat) : Int) := by omega
      have a0 : 0 ≤ (((i + 2) / 2 : Nat) : Int) * g := Int.mul_nonneg hq0 g0
      have a1 : (((i + 2) / 2 : Nat) : Int) * g ≤ 6 * 20 := Int.mul_le_mul hq g1 g0 (by decide)
      omega
    · have e : ks.getD (i + 2) 0 = 0 := by
        rw [List.getD_eq_getElem?_getD, List.getElem?_eq_none (by omega)]
        rfl
      rw [e, Int.mul_zero]
      omega
theorem ksB_ok {W : Nat × Nat × Nat × List Int} (h : ksB W = true) : ksOK W := by
  simp only [ksB, Bool.and_eq_true, List.all_eq_true, decide_eq_true_eq] at h
  obtain ⟨⟨⟨⟨h1, h2⟩, h3⟩, h4⟩, h5⟩ := h
  replace h1 := Nat.eq_of_beq_eq_true h1
  replace h2 := Nat.le_of_ble_eq_true h2
  replace h3 := Nat.le_of_ble_eq_true h3
  replace h5 := Nat.le_of_ble_eq_true h5
  refine ⟨h1, h2, by omega, fun c hc => ?_, h5, fun i => ?_⟩
  · have := h4 c hc; omega
  · have := ilPart_bound _ h3 h4 i; omega
theorem splB_ok {c : Nat} {r : List Nat} {ks : List Int} (h : splB c r ks = true) : splOK c r ks := by
  simp only [splB, Bool.and_eq_true, decide_eq_true_eq] at h
  exact ⟨h.1.1, Nat.le_of_ble_eq_true h.1.2, Nat.le_of_ble_eq_true h.2⟩
theorem okS_lev {la lb : List Nat} {v : Int} (ha : ∀ x ∈ la, alph4 x = true) (hb : ∀ x ∈ lb, alph4 x = true) (h : okS (levSum la lb) v = true) : levL la lb v = v := by
  simp only [okS, Bool.and_eq_true, decide_eq_true_eq] at h
  rw [lev_sum (by omega) ha hb, if_neg (by omega)]
  exact h.2
theorem alph_of {r : List Nat} (h : ∀ c ∈ r, c = 40 ∨ c = 41) : ∀ x ∈ r, alph4 x = true := fun x hx => by
  rcases h x hx with rfl | rfl <;> rfl
theorem alph_pairs (k : Nat) : ∀ x ∈ pairsN k, alph4 x = true := fun x hx => by
  obtain ⟨l, hl, hx⟩ := List.mem_flatten.mp hx
  rw [List.eq_of_mem_replicate hl] at hx
  simp only [List.mem_cons, List.not_mem_nil, or_false] at hx
  rcases hx with rfl | rfl <;> rfl
theorem alph_nest (k : Nat) : ∀ x ∈ nestN k, alph4 x = true := fun x hx => by
  rcases List.mem_append.mp hx with hx | hx <;> (rw [List.eq_of_mem_replicate hx]; rfl)
theorem alph_letters (l : List Nat) : ∀ x ∈ lettersN l, alph4 x = true := fun x hx => by
  obtain ⟨c, _, rfl⟩ := List.mem_map.mp hx
  show alph4 (if _ then _ else _) = true
  split <;> rfl
theorem plain_of {n mm ww le : Nat} {r : List Nat} (hn : 3 ≤ n) (hb : baseB n r = true) (hp : placeB n r = true) (hf : flatB n r = true) (hne : nestB n ww r = true) (hde : deepB n ww r = true) (hpr : pairsB n = true)
    (hmm : mm < n + 2) (hww : ww < 3) (hle : le < 2 * n + 4 * ww) : PlainOK n mm ww le r := by
  simp only [baseB, Bool.and_eq_true, List.all_eq_true, Bool.or_eq_true] at hb
  obtain ⟨⟨⟨⟨⟨b1, b2⟩, b3⟩, b4⟩, b5⟩, b6⟩ := hb
  have hal : ∀ c ∈ r, c = 40 ∨ c = 41 := fun c hc => (b2 c hc).imp Nat.eq_of_beq_eq_true Nat.eq_of_beq_eq_true
  have har := alph_of hal
  simp only [nestB, Bool.and_eq_true] at hne
  simp only [deepB, Bool.and_eq_true, lessB, List.all_eq_true, List.mem_range, Bool.or_eq_true] at hde
  simp only [pairsB, List.all_eq_true, List.mem_range, Bool.and_eq_true] at hpr
  simp only [flatB, List.all_eq_true, List.mem_range] at hf
  simp only [placeB, List.all_eq_true, List.mem_range] at hp
  have hrev : ∀ x ∈ (nestN (n + ww)).reverse, alph4 x = true := fun x hx => alph_nest _ x (List.mem_reverse.mp hx)
  refine ⟨Nat.eq_of_beq_eq_true b1, hal, ksB_ok b3, ksB_ok b4, splB_ok b5, splB_ok b6, fun i hi => hp _ (by omega), okS_lev har (alph_pairs _) (hf mm hmm), okS_lev (alph_nest _) har hne.1, okS_lev (alph_letters _) (alph_letters _) hne.2, okS_lev har hrev hde.1, ?_, ?_⟩
  · rw [lev_sum (by omega) har hrev]
    rcases hde.2 le hle with h | h
    · have h' := Nat.le_of_ble_eq_true h
      rw [if_pos (by omega)]
    · have h' := Nat.eq_of_beq_eq_true h
      rw [h']
      split <;> omega
  · obtain ⟨h1, h2⟩ := hpr mm hmm
    simp only [okS, Bool.and_eq_true, decide_eq_true_eq] at h1
    have h3 := Nat.eq_of_beq_eq_true h2
    rw [lev_sum (by omega) (alph_pairs _) (alph_pairs _), h3, if_neg (by omega)]
    exact h1.2
theorem all_of {l : List (List Nat)} {p : List Nat → Bool} (h : l.all p = true) {r : List Nat} (hr : r ∈ l) : p r = true := List.all_eq_true.mp h r hr
theorem plain_all (x mm ww le : Nat) (hx : x < 3072) (hmm : mm < 3 + x / 1024 + 2) (hww : ww < 3) (hle : le < 2 * (3 + x / 1024) + 4 * ww) :
    PlainOK (3 + x / 1024) mm ww le (rowPart (3 + x / 1024) (x % 1024) (2 * (3 + x / 1024))) := by
  have hn : 3 + x / 1024 = 3 ∨ 3 + x / 1024 = 4 ∨ 3 + x / 1024 = 5 := by omega
  generalize x % 1024 = d
  generalize 3 + x / 1024 = n at *
  rcases hn with rfl | rfl | rfl
  · have hr := rowPart_mem 3 d 6
    have hw : ww = 0 ∨ ww = 1 ∨ ww = 2 := by omega
    rcases hw with rfl | rfl | rfl
    · exact plain_of (by omega) (all_of base3 hr) (all_of place3 hr) (all_of flat3 hr) (all_of nest30 hr) (all_of deep30 hr) pairs3 hmm hww hle
    · exact plain_of (by omega) (all_of base3 hr) (all_of place3 hr) (all_of flat3 hr) (all_of nest31 hr) (all_of deep31 hr) pairs3 hmm hww hle
    · exact plain_of (by omega) (all_of base3 hr) (all_of place3 hr) (all_of flat3 hr) (all_of nest32 hr) (all_of deep32 hr) pairs3 hmm hww hle
  · have hr := rowPart_mem 4 d 8
    have hw : ww = 0 ∨ ww = 1 ∨ ww = 2 := by omega
    rcases hw with rfl | rfl | rfl
    · exact plain_of (by omega) (all_of base4 hr) (all_of place4 hr) (all_of flat4 hr) (all_of nest40 hr) (all_of deep40 hr) pairs4 hmm hww hle
    · exact plain_of (by omega) (all_of base4 hr) (all_of place4 hr) (all_of flat4 hr) (all_of nest41 hr) (all_of deep41 hr) pairs4 hmm hww hle
    · exact plain_of (by omega) (all_of base4 hr) (all_of place4 hr) (all_of flat4 hr) (all_of nest42 hr) (all_of deep42 hr) pairs4 hmm hww hle
  · have hr := rowPart_mem 5 d 10
    have hw : ww = 0 ∨ ww = 1 ∨ ww = 2 := by omega
    rcases hw with rfl | rfl | rfl
    · exact plain_of (by omega) (all_of base5 hr) (all_of place5 hr) (all_of flat5 hr) (all_of nest50 hr) (all_of deep50 hr) pairs5 hmm hww hle
    · exact plain_of (by omega) (all_of base5 hr) (all_of place5 hr) (all_of flat5 hr) (all_of nest51 hr) (all_of deep51 hr) pairs5 hmm hww hle
    · exact plain_of (by omega) (all_of base5 hr) (all_of place5 hr) (all_of flat5 hr) (all_of nest52 hr) (all_of deep52 hr) pairs5 hmm hww hle
end

end
theorem startJ1 : True := by
  w_top off
  exact trivial
end Mine
set_option maxRecDepth 100000
namespace Mine
theorem fillJ1 : PySem.Challenge.rw_sc0089_01 = PySem.Challenge.rw_sc0089_01 ∧ Mine.hd.heap_39 = Mine.hd.heap_39 := by
  k_fill
  exact ⟨rfl, rfl⟩
section
variable {prog : Program} {w : World} {s : Shared} {K : Frag} {mg mb : Str → Option Value} {p : Program} {loose : List Str} {mean : ExcName → Option Value} {R : Result → Shared → Prop}
/-- the law's own call, from the claim's caller: a frame with cells -/
theorem code_topC {name qual : Str} {params : Arguments} {body : List Stmt} {scope : Scope} {dV kV doc pm cdv ct oc : Value} {an od : Option Addr} {osl : Array (Option Value)} {f : Addr} {args : Args} {binds : List (Str × Value)}
    (X₀ : K.In s.heap) (T : Top p loose mean mg mb s.heap)
    (ho : K.lookup f = some ⟨oc, od, .func (fnOf name qual params body scope dV kV doc pm an cdv ct), osl⟩) (hcd : codeIn K cdv qual = true)
    (hbind : BindsTo s (fnOf name qual params body scope dV kV doc pm an cdv ct) args binds) (hkind : (binds.all fun y => scope.names.lookup y.1 == some .local || scope.names.lookup y.1 == some .cell) = true)
    (hnd : ((cellsFrom 0 scope.names []).map (·.1)).Nodup)
    (h : ∀ L' h₁ tk cells, Fr s.heap L' h₁ (bindL (envOfC qual scope L' f cdv).kindOf binds fun _ => none) → News s.heap L' h₁ cells →
      CellsAre (bindC (envOfC qual scope L' f cdv).kindOf binds fun _ => none) (cellsFrom (L' + 1) scope.names []) cells →
      wpAny (model prog w) (callerA.deeper (envOfC qual scope L' f cdv)) (execs body (envOfC qual scope L' f cdv))
        (fun fl s' => R (.ok (.ret (match fl with | .ret v => v | _ => .none))) s')
        (fun e s' => wpAny (model prog w) (callerA.deeper (envOfC qual scope L' f cdv)) (leaving (envOfC qual scope L' f cdv) e) (fun _ s'' => R (.error e) s'') (fun e' s'' => R (.error e') s'') s')
        { s with heap := h₁, toks := tk })
    (hco : scope.isCoroutine = false) (hgen : scope.isGenerator = false) (hk : scope.kind = .function) : codeAny (model prog w) callerA (.call (.ref f) args) R s := by
  refine codeAny_call_function (by decide) (X₀ _ _ ho) rfl hco hgen rfl (codeRec_of X₀ hcd) (hbind _ _ _ _ ?_)
  refine wpAny_newFunctionEnv_cells hk (kindsX hkind _) fun env' he s' x => ?_
  subst he
  refine ⟨T.nolimit.keeps x.toInCall.keep, codeAny_func ?_⟩
  obtain ⟨h₁, tk, rfl, _⟩ := x.done
  have hk₁ := x.toInCall.keep
  obtain ⟨cells, NC, Y⟩ := Cl.news (h₀ := s.heap) (Nat.le_refl _) fun n c hm => ⟨x.cell n c (lookup_of_mem_nodup (cellsFrom_names scope.names 0 (s.heap.objs.size + 1) [] [] rfl ▸ hnd) hm), x.above n c hm⟩
  exact h s.heap.objs.size h₁ tk cells ⟨x.toInCall.ns, hk₁, Nat.le_refl _⟩ NC Y
end
end Mine
set_option maxHeartbeats 4000000 in
theorem PySem.Challenge.cw_sc0089_01_holds : PySem.Challenge.rw_sc0089_01.Holds := by
  refine holds_law Mine.hd.said fun said => ?_
  refine holds_open (q := Mine.hd.view_39) (loose := [Str.ofString "Whitespace"]) (Xt := Mine.hd.seenTop) (XP := XL Mine.hd.view_39 []) (Yf := Hook.obs Mine.hd.hook) (Ya := Hook.val Mine.hd.hook) (YP := Hook.says Mine.hd.hook) (N := 1918) Mine.hd.left (Hook.of Mine.hd.hook) (Hook.keeps Mine.hd.hook) (fun s e => xl_of s (Bool.and_eq_true_iff.mp e).1) XL.keeps (by rfl) (by rfl) (by rfl) (fun s e => recFacts_of (Bool.and_eq_true_iff.mp e).2) (by rfl) (by first | assumption | decide +kernel) (by decide +kernel) ⟨rfl, rfl, rfl, rfl, rfl, by decide +kernel⟩ ?hw ?hc
  case hw => w_witness2
  k_fill
  intro w s₀ s₁ mg mb G y fa o pm cd doc dV kV ho hd hcd hD hmg hg args vals as hpre hlay hrd hwl hlo
  have KX := kIn_of y
  refine Ground.open G ?_
  intro T B D TE TW
  have efa : fa = 151 := by
    have e := mg_of (n := Str.ofString "law") (v := .ref 151) KX (Top.g T) (by kernel_rfl)
    have e2 := e.symm.trans hmg
    cases e2
    rfl
  subst efa
  wrow_args hpre hlay hrd hwl hlo
  clear hd ho hcd hD hmg
  dsimp only
  refine enter_call ?_
  refine' Mine.code_topC KX T ?k6 ?k7 ?k9 ?kB ?kD ?_ ?c2 ?c3 ?c4
  (case k6 => k_is)
  (case k7 => k_is)
  (case k9 => exact BindsTo.of_eq rfl)
  (case kB => exact rfl)
  (case kD => decide +kernel)
  (case c2 => exact rfl)
  (case c3 => exact rfl)
  (case c4 => exact rfl)
  intro L h₁ tk cells F N Y
  obtain ⟨o5', o4', o3', o2', o1', rfl, d5', d4', d3', d2', d1'⟩ := PyProof.Rows.kc_five Y
  have eL : looseW Mine.hd.view_39 [Str.ofString "Whitespace"] = [Str.ofString "Whitespace"] := by decide +kernel
  rw [eL] at T
  rename IntsAre _ _ => hI
  rename Heap.IsList _ _ _ => hl
  rename ¬ _ < _ => hlen
  show wpAny _ (Mine.lawA _ _ _ _) (execs (Mine.bodyAt 18) (Mine.lawEnv L)) _ _ _
  refine Mine.law_run (below_caller s₁.heap) KX T (by decide) (by decide) F N ⟨rfl, trivial⟩ d1' d2' d3' d4' d5' hl hI (by omega) (by rw [hg]; exact fun _ h => nomatch h) Mine.plain_all ?_
  intro h' tk' gens' hb hst
  exact ⟨.inl ⟨_, _, _, rfl, raisesW_false allW_false_nil, .bool true, (by first | exact postW_of rfl rfl rfl | (exact postW_of rfl (w_eq_bool (w_res rfl) w_lit) rfl) | with_unfolding_all rfl), unshared_nil⟩, .of_keep hst, rfl, hb⟩

